import PyProof.Rows.All
import Wide.All
import OpenK.AllK
import Wide.FinOn
import Lean
import PySem.Challenge.RW_ae0024_01
open PySem PySem.W PySem.Spec PySem.Calls PyProof.Rows
set_option Elab.async false
namespace Mine
noncomputable def stT (i:Nat):Stmt:=(PySem.Challenge.pw_ae0024_01.main.body[i]?).getD (.Pass default)
noncomputable def stA (i j:Nat):Stmt:=match stT i with
 | .ClassDef _ _ _ body _ _ _ _ _ _ _=>(body[j]?).getD (.Pass default)
 | _=>.Pass default
noncomputable def fnD (s:Stmt) (qual:Str) (clos:List (Str×Addr)) (dV kV doc pm cdv ct:Value):FuncData:=match s with
 | .FunctionDef name args body _ _ _ scope _ _ _=>{ name:=name,qualname:=qual,params:=args,body:=.stmts body,scope:=scope,globals:=mainGlobals,closure:=clos,defaults:=dV,kwdefaults:=kV,doc:=doc,pyModule:=pm,annotations:=none,code:=cdv,closureTuple:=ct,builtins:=builtinsNs }
 | _=>{ name:="",qualname:=qual,params:=default,body:=.stmts [],scope:=default,globals:=0,closure:=[],defaults:=.none,kwdefaults:=.none }
set_option maxRecDepth 100000 in
noncomputable def Kp (P:Params):Frag :=
 (nat_lit 2,⟨.none,none,(.dict [].toArray 0),[].toArray⟩) ::
 (nat_lit 3,⟨(.type "dict"),none,(.dict [⟨PyData.keyHash P "__name__",(.str "__name__" 165),(.str "law_ae0024_01" 1743)⟩,⟨PyData.keyHash P "__doc__",(.str "__doc__" 166),.none⟩,⟨PyData.keyHash P "__package__",(.str "__package__" 167),.none⟩,⟨PyData.keyHash P "__loader__",(.str "__loader__" 168),(.builtin "__main__.__loader__#opaque")⟩,⟨PyData.keyHash P "__spec__",(.str "__spec__" 169),.none⟩,⟨PyData.keyHash P "__annotations__",(.str "__annotations__" 170),(.ref 6)⟩,⟨PyData.keyHash P "__builtins__",(.str "__builtins__" 171),(.ref 4)⟩,⟨PyData.keyHash P "__file__",(.str "__file__" 173),(.str "/claim/cut.py" 172)⟩,⟨PyData.keyHash P "__cached__",(.str "__cached__" 174),.none⟩,⟨PyData.keyHash P "_wall",(.str "_wall" 193),(.ref 21)⟩,⟨PyData.keyHash P "RoleManager",(.str "RoleManager" 277),(.ref 929)⟩,⟨PyData.keyHash P "RoleManager_role_manager",(.str "RoleManager_role_manager" 278),(.ref 80)⟩,⟨PyData.keyHash P "_OWN_NAMES",(.str "_OWN_NAMES" 286),(.ref 85)⟩,⟨PyData.keyHash P "mappingproxy",(.str "mappingproxy" 494),(.ref 266)⟩,⟨PyData.keyHash P "_MEMBERS_VIEW",(.str "_MEMBERS_VIEW" 495),(.ref 266)⟩,⟨PyData.keyHash P "EnumType",(.str "EnumType" 755),(.ref 482)⟩,⟨PyData.keyHash P "_EnumField",(.str "_EnumField" 810),(.ref 524)⟩,⟨PyData.keyHash P "Enum",(.str "Enum" 997),(.ref 648)⟩,⟨PyData.keyHash P "MatchOrder",(.str "MatchOrder" 1043),(.ref 671)⟩,⟨PyData.keyHash P "_lay_MatchOrder",(.str "_lay_MatchOrder" 1055),(.ref 684)⟩,⟨PyData.keyHash P "Role",(.str "Role" 1303),(.ref 814)⟩,⟨PyData.keyHash P "RoleManager_role_manager2",(.str "RoleManager_role_manager2" 1457),(.ref 929)⟩,⟨PyData.keyHash P "DomainManagerBase",(.str "DomainManagerBase" 1599),(.ref 1034)⟩,⟨PyData.keyHash P "DomainManager",(.str "DomainManager" 1733),(.ref 1140)⟩,⟨PyData.keyHash P "match_error_handler",(.str "match_error_handler" 1742),(.ref 1149)⟩,⟨PyData.keyHash P "_law_names",(.str "_law_names" 1750),(.ref 1156)⟩,⟨PyData.keyHash P "_law_places",(.str "_law_places" 1756),(.ref 1163)⟩,⟨PyData.keyHash P "_law_number",(.str "_law_number" 1764),(.ref 1170)⟩,⟨PyData.keyHash P "_law_covers",(.str "_law_covers" 1772),(.ref 1177)⟩,⟨PyData.keyHash P "_law_at",(.str "_law_at" 1778),(.ref 1182)⟩,⟨PyData.keyHash P "_law_reached",(.str "_law_reached" 1784),(.ref 1187)⟩,⟨PyData.keyHash P "_law_taken",(.str "_law_taken" 1792),(.ref 1194)⟩,⟨PyData.keyHash P "_law_refused",(.str "_law_refused" 1800),(.ref 1201)⟩,⟨PyData.keyHash P "law",(.str "law" 1806),(.ref 1206)⟩].toArray 34),[].toArray⟩) ::
 (nat_lit 79,⟨(.type "dict"),none,(.dict [⟨PyData.keyHash P "__module__",(.str "__module__" 203),(.str "casbin.rbac.role_manager" 194)⟩,⟨PyData.keyHash P "__firstlineno__",(.str "__firstlineno__" 207),(.int 5 206)⟩,⟨PyData.keyHash P "clear",(.str "clear" 214),(.ref 35)⟩,⟨PyData.keyHash P "add_link",(.str "add_link" 224),(.ref 42)⟩,⟨PyData.keyHash P "delete_link",(.str "delete_link" 234),(.ref 49)⟩,⟨PyData.keyHash P "has_link",(.str "has_link" 244),(.ref 56)⟩,⟨PyData.keyHash P "get_roles",(.str "get_roles" 253),(.ref 63)⟩,⟨PyData.keyHash P "get_users",(.str "get_users" 262),(.ref 70)⟩,⟨PyData.keyHash P "print_roles",(.str "print_roles" 269),(.ref 77)⟩,⟨PyData.keyHash P "__static_attributes__",(.str "__static_attributes__" 270),(.ref 78)⟩,⟨PyData.keyHash P "__dict__",(.str "__dict__" 272),(.ref 81)⟩,⟨PyData.keyHash P "__weakref__",(.str "__weakref__" 274),(.ref 82)⟩,⟨PyData.keyHash P "__doc__",(.str "__doc__" 275),.none⟩].toArray 4),[].toArray⟩) ::
 (nat_lit 80,⟨(.type "type"),none,(.cls { name:="RoleManager",bases:=[(.type "object")],mro:=[(.ref 80),(.type "object")],ns:=79,qualname:="RoleManager",hasDict:=true,slotNames:=[],subclasses:=[(.ref 929),(.ref 1034)],abstract:=false,collection:=none,hasDel:=false }),[none,none,some (.str "RoleManager" 196),some (.str "RoleManager" 204),some (.builtin "object.__new__"),some (.bool true)].toArray⟩) ::
 (nat_lit 481,⟨(.type "dict"),none,(.dict [⟨PyData.keyHash P "__module__",(.str "__module__" 503),(.str "enum" 508)⟩,⟨PyData.keyHash P "__firstlineno__",(.str "__firstlineno__" 507),(.int 112 506)⟩,⟨PyData.keyHash P "_written_out_",(.str "_written_out_" 511),(.int 0 510)⟩,⟨PyData.keyHash P "__new__",(.str "__new__" 524),(.ref 483)⟩,⟨PyData.keyHash P "_planted_",(.str "_planted_" 533),(.ref 293)⟩,⟨PyData.keyHash P "_planted_at_",(.str "_planted_at_" 540),(.ref 300)⟩,⟨PyData.keyHash P "_held_value_",(.str "_held_value_" 550),(.ref 307)⟩,⟨PyData.keyHash P "_canonical_",(.str "_canonical_" 560),(.ref 314)⟩,⟨PyData.keyHash P "_book_value_",(.str "_book_value_" 570),(.ref 321)⟩,⟨PyData.keyHash P "_mixed_",(.str "_mixed_" 578),(.ref 328)⟩,⟨PyData.keyHash P "_held_def_",(.str "_held_def_" 587),(.ref 335)⟩,⟨PyData.keyHash P "_closed_",(.str "_closed_" 594),(.ref 342)⟩,⟨PyData.keyHash P "_held_auto_",(.str "_held_auto_" 603),(.ref 349)⟩,⟨PyData.keyHash P "_unique_",(.str "_unique_" 610),(.ref 356)⟩,⟨PyData.keyHash P "_close_",(.str "_close_" 617),(.ref 363)⟩,⟨PyData.keyHash P "_expect_",(.str "_expect_" 625),(.ref 370)⟩,⟨PyData.keyHash P "_value_of_",(.str "_value_of_" 634),(.ref 377)⟩,⟨PyData.keyHash P "_args_of_",(.str "_args_of_" 642),(.ref 384)⟩,⟨PyData.keyHash P "__bool__",(.str "__bool__" 649),(.ref 391)⟩,⟨PyData.keyHash P "__call__",(.str "__call__" 658),(.ref 398)⟩,⟨PyData.keyHash P "__contains__",(.str "__contains__" 667),(.ref 405)⟩,⟨PyData.keyHash P "__getitem__",(.str "__getitem__" 675),(.ref 412)⟩,⟨PyData.keyHash P "__iter__",(.str "__iter__" 683),(.ref 419)⟩,⟨PyData.keyHash P "__len__",(.str "__len__" 690),(.ref 426)⟩,⟨PyData.keyHash P "__members__",(.str "__members__" 698),(.ref 434)⟩,⟨PyData.keyHash P "__repr__",(.str "__repr__" 705),(.ref 441)⟩,⟨PyData.keyHash P "__reversed__",(.str "__reversed__" 713),(.ref 448)⟩,⟨PyData.keyHash P "__setattr__",(.str "__setattr__" 723),(.ref 456)⟩,⟨PyData.keyHash P "__delattr__",(.str "__delattr__" 732),(.ref 464)⟩,⟨PyData.keyHash P "_store_",(.str "_store_" 742),(.ref 472)⟩,⟨PyData.keyHash P "__dir__",(.str "__dir__" 749),(.ref 479)⟩,⟨PyData.keyHash P "__static_attributes__",(.str "__static_attributes__" 750),(.ref 480)⟩,⟨PyData.keyHash P "__doc__",(.str "__doc__" 753),.none⟩].toArray 3),[].toArray⟩) ::
 (nat_lit 482,⟨(.type "type"),none,(.cls { name:="EnumType",bases:=[(.type "type")],mro:=[(.ref 482),(.type "type"),(.type "object")],ns:=481,qualname:="EnumType",hasDict:=true,slotNames:=[],subclasses:=[],abstract:=false,collection:=none,hasDel:=false }),[some (.ref 271),none,some (.str "EnumType" 496),some (.str "EnumType" 504),some .none,some (.bool true)].toArray⟩) ::
 (nat_lit 647,⟨(.type "dict"),none,(.dict [⟨PyData.keyHash P "__module__",(.str "__module__" 818),(.str "enum" 823)⟩,⟨PyData.keyHash P "__firstlineno__",(.str "__firstlineno__" 822),(.int 259 821)⟩,⟨PyData.keyHash P "_written_out_",(.str "_written_out_" 826),(.int 0 991)⟩,⟨PyData.keyHash P "_member_names_",(.str "_member_names_" 827),(.ref 536)⟩,⟨PyData.keyHash P "_member_map_",(.str "_member_map_" 828),(.ref 537)⟩,⟨PyData.keyHash P "_value2member_map_",(.str "_value2member_map_" 829),(.ref 538)⟩,⟨PyData.keyHash P "_hashable_values_",(.str "_hashable_values_" 830),(.ref 539)⟩,⟨PyData.keyHash P "_unhashable_values_",(.str "_unhashable_values_" 831),(.ref 540)⟩,⟨PyData.keyHash P "_unhashable_values_map_",(.str "_unhashable_values_map_" 832),(.ref 541)⟩,⟨PyData.keyHash P "_members_",(.str "_members_" 833),(.ref 542)⟩,⟨PyData.keyHash P "_value_repr_",(.str "_value_repr_" 834),.none⟩,⟨PyData.keyHash P "_is_flag_",(.str "_is_flag_" 835),(.bool false)⟩,⟨PyData.keyHash P "_making_",(.str "_making_" 836),(.bool false)⟩,⟨PyData.keyHash P "__new__",(.str "__new__" 851),(.ref 649)⟩,⟨PyData.keyHash P "_missing_",(.str "_missing_" 871),(.ref 558)⟩,⟨PyData.keyHash P "__init__",(.str "__init__" 880),(.ref 566)⟩,⟨PyData.keyHash P "__repr__",(.str "__repr__" 888),(.ref 573)⟩,⟨PyData.keyHash P "__str__",(.str "__str__" 895),(.ref 580)⟩,⟨PyData.keyHash P "__format__",(.str "__format__" 903),(.ref 587)⟩,⟨PyData.keyHash P "__hash__",(.str "__hash__" 910),(.ref 594)⟩,⟨PyData.keyHash P "__reduce_ex__",(.str "__reduce_ex__" 918),(.ref 601)⟩,⟨PyData.keyHash P "__deepcopy__",(.str "__deepcopy__" 926),(.ref 608)⟩,⟨PyData.keyHash P "__copy__",(.str "__copy__" 933),(.ref 615)⟩,⟨PyData.keyHash P "__dir__",(.str "__dir__" 940),(.ref 622)⟩,⟨PyData.keyHash P "_add_alias_",(.str "_add_alias_" 948),(.ref 629)⟩,⟨PyData.keyHash P "_add_value_alias_",(.str "_add_value_alias_" 956),(.ref 636)⟩,⟨PyData.keyHash P "name",(.str "name" 962),(.ref 638)⟩,⟨PyData.keyHash P "value",(.str "value" 968),(.ref 641)⟩,⟨PyData.keyHash P "__static_attributes__",(.str "__static_attributes__" 969),(.ref 643)⟩,⟨PyData.keyHash P "__dict__",(.str "__dict__" 981),(.ref 650)⟩,⟨PyData.keyHash P "__weakref__",(.str "__weakref__" 983),(.ref 651)⟩,⟨PyData.keyHash P "__doc__",(.str "__doc__" 984),.none⟩].toArray 4),[].toArray⟩) ::
 (nat_lit 648,⟨(.ref 482),none,(.cls { name:="Enum",bases:=[(.type "object")],mro:=[(.ref 648),(.type "object")],ns:=647,qualname:="Enum",hasDict:=true,slotNames:=[],subclasses:=[(.ref 671)],abstract:=false,collection:=none,hasDel:=false }),[none,none,some (.str "Enum" 811),some (.str "Enum" 819),some .none,some (.bool true)].toArray⟩) ::
 (nat_lit 670,⟨(.type "dict"),none,(.dict [⟨PyData.keyHash P "__module__",(.str "__module__" 1007),(.str "casbin.rbac.default_role_manager.role_manager" 998)⟩,⟨PyData.keyHash P "__firstlineno__",(.str "__firstlineno__" 1011),(.int 353 1010)⟩,⟨PyData.keyHash P "_written_out_",(.str "_written_out_" 1013),(.int 0 1037)⟩,⟨PyData.keyHash P "_member_names_",(.str "_member_names_" 1017),(.ref 665)⟩,⟨PyData.keyHash P "_value_repr_",(.str "_value_repr_" 1019),.none⟩,⟨PyData.keyHash P "__static_attributes__",(.str "__static_attributes__" 1020),(.ref 666)⟩,⟨PyData.keyHash P "__doc__",(.str "__doc__" 1030),.none⟩,⟨PyData.keyHash P "__new__",(.str "__new__" 1076),(.ref 549)⟩,⟨PyData.keyHash P "STR_PATTERN",(.str "STR_PATTERN" 1126),(.ref 696)⟩,⟨PyData.keyHash P "PATTERN_STR",(.str "PATTERN_STR" 1134),(.ref 698)⟩,⟨PyData.keyHash P "PATTERN_PATTERN",(.str "PATTERN_PATTERN" 1142),(.ref 700)⟩,⟨PyData.keyHash P "_member_map_",(.str "_member_map_" 1156),(.ref 710)⟩,⟨PyData.keyHash P "_value2member_map_",(.str "_value2member_map_" 1167),(.ref 714)⟩,⟨PyData.keyHash P "_hashable_values_",(.str "_hashable_values_" 1175),(.ref 718)⟩].toArray 9),[].toArray⟩) ::
 (nat_lit 671,⟨(.ref 482),none,(.cls { name:="MatchOrder",bases:=[(.ref 648)],mro:=[(.ref 671),(.ref 648),(.type "object")],ns:=670,qualname:="MatchOrder",hasDict:=true,slotNames:=[],subclasses:=[],abstract:=false,collection:=none,hasDel:=false }),[some (.ref 658),none,some (.str "MatchOrder" 1000),some (.str "MatchOrder" 1008),some .none,some (.bool true)].toArray⟩) ::
 (nat_lit 695,⟨(.type "dict"),none,(.dict [⟨PyData.keyHash P "_value_",(.str "_value_" 1082),(.int 0 1077)⟩,⟨PyData.keyHash P "_name_",(.str "_name_" 1085),(.str "STR_PATTERN" 1083)⟩,⟨PyData.keyHash P "__objclass__",(.str "__objclass__" 1087),(.ref 671)⟩,⟨PyData.keyHash P "_sort_order_",(.str "_sort_order_" 1090),(.int 0 1088)⟩].toArray 4),[].toArray⟩) ::
 (nat_lit 696,⟨(.ref 671),(some 695),.plain,[].toArray⟩) ::
 (nat_lit 697,⟨(.type "dict"),none,(.dict [⟨PyData.keyHash P "_value_",(.str "_value_" 1096),(.int 1 1091)⟩,⟨PyData.keyHash P "_name_",(.str "_name_" 1099),(.str "PATTERN_STR" 1097)⟩,⟨PyData.keyHash P "__objclass__",(.str "__objclass__" 1101),(.ref 671)⟩,⟨PyData.keyHash P "_sort_order_",(.str "_sort_order_" 1104),(.int 1 1102)⟩].toArray 4),[].toArray⟩) ::
 (nat_lit 698,⟨(.ref 671),(some 697),.plain,[].toArray⟩) ::
 (nat_lit 699,⟨(.type "dict"),none,(.dict [⟨PyData.keyHash P "_value_",(.str "_value_" 1110),(.int 2 1105)⟩,⟨PyData.keyHash P "_name_",(.str "_name_" 1113),(.str "PATTERN_PATTERN" 1111)⟩,⟨PyData.keyHash P "__objclass__",(.str "__objclass__" 1115),(.ref 671)⟩,⟨PyData.keyHash P "_sort_order_",(.str "_sort_order_" 1118),(.int 2 1116)⟩].toArray 4),[].toArray⟩) ::
 (nat_lit 700,⟨(.ref 671),(some 699),.plain,[].toArray⟩) ::
 (nat_lit 734,⟨(.type "code"),none,(.fields [(.str "__init__" 1188),(.str "Role.__init__" 1189),(.str "/claim/cut.py" 1190),(.int 386 0),(.int 2 0),(.int 0 0),(.int 0 0),(.int 3 0),(.ref 729),(.bool true),(.int 181 0),(.ref 730),.none,(.ref 731),(.ref 732),(.ref 733),(.int 1193 0),(.int 386 0),(.str "/claim/cut.py" 1194)].toArray),[].toArray⟩) ::
 (nat_lit 735,⟨(.type "function"),none,(.func (fnD (stA 15 0) "Role.__init__" [] .none .none .none (.str "casbin.rbac.default_role_manager.role_manager" 998) (.ref 734) .none)),[].toArray⟩) ::
 (nat_lit 739,⟨(.type "code"),none,(.fields [(.str "add_role" 1196),(.str "Role.add_role" 1197),(.str "/claim/cut.py" 1198),(.int 393 0),(.int 2 0),(.int 0 0),(.int 0 0),(.int 3 0),(.ref 736),(.bool true),(.int 181 0),(.ref 737),.none,.none,.none,(.ref 738),(.int 1199 0),(.int 393 0),(.str "/claim/cut.py" 1200)].toArray),[].toArray⟩) ::
 (nat_lit 740,⟨(.type "function"),none,(.func (fnD (stA 15 1) "Role.add_role" [] .none .none .none (.str "casbin.rbac.default_role_manager.role_manager" 998) (.ref 739) .none)),[].toArray⟩) ::
 (nat_lit 744,⟨(.type "code"),none,(.fields [(.str "remove_role" 1202),(.str "Role.remove_role" 1203),(.str "/claim/cut.py" 1204),(.int 397 0),(.int 2 0),(.int 0 0),(.int 0 0),(.int 3 0),(.ref 741),(.bool true),(.int 181 0),(.ref 742),.none,.none,.none,(.ref 743),(.int 1205 0),(.int 397 0),(.str "/claim/cut.py" 1206)].toArray),[].toArray⟩) ::
 (nat_lit 745,⟨(.type "function"),none,(.func (fnD (stA 15 2) "Role.remove_role" [] .none .none .none (.str "casbin.rbac.default_role_manager.role_manager" 998) (.ref 744) .none)),[].toArray⟩) ::
 (nat_lit 749,⟨(.type "code"),none,(.fields [(.str "_add_user" 1208),(.str "Role._add_user" 1209),(.str "/claim/cut.py" 1210),(.int 403 0),(.int 2 0),(.int 0 0),(.int 0 0),(.int 3 0),(.ref 746),(.bool true),(.int 181 0),(.ref 747),.none,.none,.none,(.ref 748),(.int 1211 0),(.int 403 0),(.str "/claim/cut.py" 1212)].toArray),[].toArray⟩) ::
 (nat_lit 750,⟨(.type "function"),none,(.func (fnD (stA 15 3) "Role._add_user" [] .none .none .none (.str "casbin.rbac.default_role_manager.role_manager" 998) (.ref 749) .none)),[].toArray⟩) ::
 (nat_lit 754,⟨(.type "code"),none,(.fields [(.str "_remove_user" 1214),(.str "Role._remove_user" 1215),(.str "/claim/cut.py" 1216),(.int 406 0),(.int 2 0),(.int 0 0),(.int 0 0),(.int 3 0),(.ref 751),(.bool true),(.int 181 0),(.ref 752),.none,.none,.none,(.ref 753),(.int 1217 0),(.int 406 0),(.str "/claim/cut.py" 1218)].toArray),[].toArray⟩) ::
 (nat_lit 755,⟨(.type "function"),none,(.func (fnD (stA 15 4) "Role._remove_user" [] .none .none .none (.str "casbin.rbac.default_role_manager.role_manager" 998) (.ref 754) .none)),[].toArray⟩) ::
 (nat_lit 813,⟨(.type "dict"),none,(.dict [⟨PyData.keyHash P "__module__",(.str "__module__" 1183),(.str "casbin.rbac.default_role_manager.role_manager" 998)⟩,⟨PyData.keyHash P "__firstlineno__",(.str "__firstlineno__" 1187),(.int 384 1186)⟩,⟨PyData.keyHash P "__init__",(.str "__init__" 1195),(.ref 735)⟩,⟨PyData.keyHash P "add_role",(.str "add_role" 1201),(.ref 740)⟩,⟨PyData.keyHash P "remove_role",(.str "remove_role" 1207),(.ref 745)⟩,⟨PyData.keyHash P "_add_user",(.str "_add_user" 1213),(.ref 750)⟩,⟨PyData.keyHash P "_remove_user",(.str "_remove_user" 1219),(.ref 755)⟩,⟨PyData.keyHash P "copy_from",(.str "copy_from" 1229),(.ref 762)⟩,⟨PyData.keyHash P "empty",(.str "empty" 1236),(.ref 769)⟩,⟨PyData.keyHash P "to_string",(.str "to_string" 1243),(.ref 776)⟩,⟨PyData.keyHash P "get_roles",(.str "get_roles" 1252),(.ref 783)⟩,⟨PyData.keyHash P "add_link_condition_func",(.str "add_link_condition_func" 1262),(.ref 790)⟩,⟨PyData.keyHash P "get_link_condition_func",(.str "get_link_condition_func" 1271),(.ref 797)⟩,⟨PyData.keyHash P "set_link_condition_func_params",(.str "set_link_condition_func_params" 1281),(.ref 804)⟩,⟨PyData.keyHash P "get_link_condition_func_params",(.str "get_link_condition_func_params" 1290),(.ref 811)⟩,⟨PyData.keyHash P "__static_attributes__",(.str "__static_attributes__" 1296),(.ref 812)⟩,⟨PyData.keyHash P "__dict__",(.str "__dict__" 1298),(.ref 815)⟩,⟨PyData.keyHash P "__weakref__",(.str "__weakref__" 1300),(.ref 816)⟩,⟨PyData.keyHash P "__doc__",(.str "__doc__" 1301),.none⟩].toArray 4),[].toArray⟩) ::
 (nat_lit 814,⟨(.type "type"),none,(.cls { name:="Role",bases:=[(.type "object")],mro:=[(.ref 814),(.type "object")],ns:=813,qualname:="Role",hasDict:=true,slotNames:=[],subclasses:=[],abstract:=false,collection:=none,hasDel:=false }),[none,none,some (.str "Role" 1176),some (.str "Role" 1184),some (.builtin "object.__new__"),some (.bool true)].toArray⟩) ::
 (nat_lit 826,⟨(.type "tuple"),none,(.seq [(.int 10 1316)].toArray 0),[].toArray⟩) ::
 (nat_lit 832,⟨(.type "code"),none,(.fields [(.str "__init__" 1317),(.str "RoleManager.__init__" 1318),(.str "/claim/cut.py" 1319),(.int 440 0),(.int 2 0),(.int 0 0),(.int 0 0),(.int 3 0),(.ref 827),(.bool true),(.int 181 0),(.ref 828),.none,(.ref 829),(.ref 830),(.ref 831),(.int 1322 0),(.int 440 0),(.str "/claim/cut.py" 1323)].toArray),[].toArray⟩) ::
 (nat_lit 833,⟨(.type "function"),none,(.func (fnD (stA 16 0) "RoleManager.__init__" [] (.ref 826) .none .none (.str "casbin.rbac.default_role_manager.role_manager" 998) (.ref 832) .none)),[].toArray⟩) ::
 (nat_lit 839,⟨(.type "code"),none,(.fields [(.str "_rebuild" 1325),(.str "RoleManager._rebuild" 1326),(.str "/claim/cut.py" 1327),(.int 447 0),(.int 1 0),(.int 0 0),(.int 0 0),(.int 3 0),(.ref 834),(.bool true),(.int 181 0),(.ref 835),.none,(.ref 836),(.ref 837),(.ref 838),(.int 1331 0),(.int 447 0),(.str "/claim/cut.py" 1332)].toArray),[].toArray⟩) ::
 (nat_lit 840,⟨(.type "function"),none,(.func (fnD (stA 16 1) "RoleManager._rebuild" [] .none .none .none (.str "casbin.rbac.default_role_manager.role_manager" 998) (.ref 839) .none)),[].toArray⟩) ::
 (nat_lit 841,⟨(.type "tuple"),none,(.seq [(.ref 696)].toArray 0),[].toArray⟩) ::
 (nat_lit 847,⟨(.type "code"),none,(.fields [(.str "_matching_fn" 1335),(.str "RoleManager._matching_fn" 1336),(.str "/claim/cut.py" 1337),(.int 454 0),(.int 4 0),(.int 0 0),(.int 0 0),(.int 3 0),(.ref 842),(.bool true),(.int 181 0),(.ref 843),.none,(.ref 844),(.ref 845),(.ref 846),(.int 1342 0),(.int 454 0),(.str "/claim/cut.py" 1343)].toArray),[].toArray⟩) ::
 (nat_lit 848,⟨(.type "function"),none,(.func (fnD (stA 16 2) "RoleManager._matching_fn" [] (.ref 841) .none .none (.str "casbin.rbac.default_role_manager.role_manager" 998) (.ref 847) .none)),[].toArray⟩) ::
 (nat_lit 849,⟨(.type "tuple"),none,(.seq [(.ref 696)].toArray 0),[].toArray⟩) ::
 (nat_lit 853,⟨(.type "code"),none,(.fields [(.str "_matching_roles" 1346),(.str "RoleManager._matching_roles" 1347),(.str "/claim/cut.py" 1348),(.int 462 0),(.int 3 0),(.int 0 0),(.int 0 0),(.int 3 0),(.ref 850),(.bool true),(.int 181 0),(.ref 851),.none,.none,.none,(.ref 852),(.int 1349 0),(.int 462 0),(.str "/claim/cut.py" 1350)].toArray),[].toArray⟩) ::
 (nat_lit 854,⟨(.type "function"),none,(.func (fnD (stA 16 3) "RoleManager._matching_roles" [] (.ref 849) .none .none (.str "casbin.rbac.default_role_manager.role_manager" 998) (.ref 853) .none)),[].toArray⟩) ::
 (nat_lit 860,⟨(.type "code"),none,(.fields [(.str "_get_role" 1352),(.str "RoleManager._get_role" 1353),(.str "/claim/cut.py" 1354),(.int 465 0),(.int 2 0),(.int 0 0),(.int 0 0),(.int 3 0),(.ref 855),(.bool true),(.int 181 0),(.ref 856),.none,(.ref 857),(.ref 858),(.ref 859),(.int 1359 0),(.int 465 0),(.str "/claim/cut.py" 1360)].toArray),[].toArray⟩) ::
 (nat_lit 861,⟨(.type "function"),none,(.func (fnD (stA 16 4) "RoleManager._get_role" [] .none .none .none (.str "casbin.rbac.default_role_manager.role_manager" 998) (.ref 860) .none)),[].toArray⟩) ::
 (nat_lit 867,⟨(.type "code"),none,(.fields [(.str "add_matching_func" 1362),(.str "RoleManager.add_matching_func" 1363),(.str "/claim/cut.py" 1364),(.int 474 0),(.int 2 0),(.int 0 0),(.int 0 0),(.int 3 0),(.ref 862),(.bool true),(.int 181 0),(.ref 863),.none,(.ref 864),(.ref 865),(.ref 866),(.int 1367 0),(.int 474 0),(.str "/claim/cut.py" 1368)].toArray),[].toArray⟩) ::
 (nat_lit 868,⟨(.type "function"),none,(.func (fnD (stA 16 5) "RoleManager.add_matching_func" [] .none .none .none (.str "casbin.rbac.default_role_manager.role_manager" 998) (.ref 867) .none)),[].toArray⟩) ::
 (nat_lit 869,⟨(.type "tuple"),none,(.seq [.none].toArray 0),[].toArray⟩) ::
 (nat_lit 875,⟨(.type "code"),none,(.fields [(.str "add_domain_matching_func" 1370),(.str "RoleManager.add_domain_matching_func" 1371),(.str "/claim/cut.py" 1372),(.int 478 0),(.int 2 0),(.int 0 0),(.int 0 0),(.int 3 0),(.ref 870),(.bool true),(.int 181 0),(.ref 871),.none,(.ref 872),(.ref 873),(.ref 874),(.int 1375 0),(.int 478 0),(.str "/claim/cut.py" 1376)].toArray),[].toArray⟩) ::
 (nat_lit 876,⟨(.type "function"),none,(.func (fnD (stA 16 6) "RoleManager.add_domain_matching_func" [] (.ref 869) .none .none (.str "casbin.rbac.default_role_manager.role_manager" 998) (.ref 875) .none)),[].toArray⟩) ::
 (nat_lit 882,⟨(.type "code"),none,(.fields [(.str "clear" 1378),(.str "RoleManager.clear" 1379),(.str "/claim/cut.py" 1380),(.int 481 0),(.int 1 0),(.int 0 0),(.int 0 0),(.int 3 0),(.ref 877),(.bool true),(.int 181 0),(.ref 878),.none,(.ref 879),(.ref 880),(.ref 881),(.int 1382 0),(.int 481 0),(.str "/claim/cut.py" 1383)].toArray),[].toArray⟩) ::
 (nat_lit 883,⟨(.type "function"),none,(.func (fnD (stA 16 7) "RoleManager.clear" [] .none .none .none (.str "casbin.rbac.default_role_manager.role_manager" 998) (.ref 882) .none)),[].toArray⟩) ::
 (nat_lit 889,⟨(.type "code"),none,(.fields [(.str "add_link" 1385),(.str "RoleManager.add_link" 1386),(.str "/claim/cut.py" 1387),(.int 485 0),(.int 3 0),(.int 0 0),(.int 0 0),(.int 7 0),(.ref 884),(.bool true),(.int 181 0),(.ref 885),.none,(.ref 886),(.ref 887),(.ref 888),(.int 1395 0),(.int 485 0),(.str "/claim/cut.py" 1396)].toArray),[].toArray⟩) ::
 (nat_lit 890,⟨(.type "function"),none,(.func (fnD (stA 16 8) "RoleManager.add_link" [] .none .none .none (.str "casbin.rbac.default_role_manager.role_manager" 998) (.ref 889) .none)),[].toArray⟩) ::
 (nat_lit 896,⟨(.type "code"),none,(.fields [(.str "delete_link" 1398),(.str "RoleManager.delete_link" 1399),(.str "/claim/cut.py" 1400),(.int 497 0),(.int 3 0),(.int 0 0),(.int 0 0),(.int 7 0),(.ref 891),(.bool true),(.int 181 0),(.ref 892),.none,(.ref 893),(.ref 894),(.ref 895),(.int 1408 0),(.int 497 0),(.str "/claim/cut.py" 1409)].toArray),[].toArray⟩) ::
 (nat_lit 897,⟨(.type "function"),none,(.func (fnD (stA 16 9) "RoleManager.delete_link" [] .none .none .none (.str "casbin.rbac.default_role_manager.role_manager" 998) (.ref 896) .none)),[].toArray⟩) ::
 (nat_lit 903,⟨(.type "code"),none,(.fields [(.str "has_link" 1411),(.str "RoleManager.has_link" 1412),(.str "/claim/cut.py" 1413),(.int 510 0),(.int 3 0),(.int 0 0),(.int 0 0),(.int 7 0),(.ref 898),(.bool true),(.int 181 0),(.ref 899),.none,(.ref 900),(.ref 901),(.ref 902),(.int 1420 0),(.int 510 0),(.str "/claim/cut.py" 1421)].toArray),[].toArray⟩) ::
 (nat_lit 904,⟨(.type "function"),none,(.func (fnD (stA 16 10) "RoleManager.has_link" [] .none .none .none (.str "casbin.rbac.default_role_manager.role_manager" 998) (.ref 903) .none)),[].toArray⟩) ::
 (nat_lit 908,⟨(.type "code"),none,(.fields [(.str "_has_link" 1423),(.str "RoleManager._has_link" 1424),(.str "/claim/cut.py" 1425),(.int 515 0),(.int 4 0),(.int 0 0),(.int 0 0),(.int 3 0),(.ref 905),(.bool true),(.int 181 0),(.ref 906),.none,.none,.none,(.ref 907),(.int 1426 0),(.int 515 0),(.str "/claim/cut.py" 1427)].toArray),[].toArray⟩) ::
 (nat_lit 909,⟨(.type "function"),none,(.func (fnD (stA 16 11) "RoleManager._has_link" [] .none .none .none (.str "casbin.rbac.default_role_manager.role_manager" 998) (.ref 908) .none)),[].toArray⟩) ::
 (nat_lit 913,⟨(.type "code"),none,(.fields [(.str "get_roles" 1429),(.str "RoleManager.get_roles" 1430),(.str "/claim/cut.py" 1431),(.int 525 0),(.int 2 0),(.int 0 0),(.int 0 0),(.int 7 0),(.ref 910),(.bool true),(.int 181 0),(.ref 911),.none,.none,.none,(.ref 912),(.int 1432 0),(.int 525 0),(.str "/claim/cut.py" 1433)].toArray),[].toArray⟩) ::
 (nat_lit 914,⟨(.type "function"),none,(.func (fnD (stA 16 12) "RoleManager.get_roles" [] .none .none .none (.str "casbin.rbac.default_role_manager.role_manager" 998) (.ref 913) .none)),[].toArray⟩) ::
 (nat_lit 918,⟨(.type "code"),none,(.fields [(.str "get_users" 1435),(.str "RoleManager.get_users" 1436),(.str "/claim/cut.py" 1437),(.int 529 0),(.int 2 0),(.int 0 0),(.int 0 0),(.int 7 0),(.ref 915),(.bool true),(.int 181 0),(.ref 916),.none,.none,.none,(.ref 917),(.int 1438 0),(.int 529 0),(.str "/claim/cut.py" 1439)].toArray),[].toArray⟩) ::
 (nat_lit 919,⟨(.type "function"),none,(.func (fnD (stA 16 13) "RoleManager.get_users" [] .none .none .none (.str "casbin.rbac.default_role_manager.role_manager" 998) (.ref 918) .none)),[].toArray⟩) ::
 (nat_lit 928,⟨(.type "dict"),none,(.dict [⟨PyData.keyHash P "__module__",(.str "__module__" 1311),(.str "casbin.rbac.default_role_manager.role_manager" 998)⟩,⟨PyData.keyHash P "__firstlineno__",(.str "__firstlineno__" 1315),(.int 438 1314)⟩,⟨PyData.keyHash P "__init__",(.str "__init__" 1324),(.ref 833)⟩,⟨PyData.keyHash P "_rebuild",(.str "_rebuild" 1333),(.ref 840)⟩,⟨PyData.keyHash P "_matching_fn",(.str "_matching_fn" 1344),(.ref 848)⟩,⟨PyData.keyHash P "_matching_roles",(.str "_matching_roles" 1351),(.ref 854)⟩,⟨PyData.keyHash P "_get_role",(.str "_get_role" 1361),(.ref 861)⟩,⟨PyData.keyHash P "add_matching_func",(.str "add_matching_func" 1369),(.ref 868)⟩,⟨PyData.keyHash P "add_domain_matching_func",(.str "add_domain_matching_func" 1377),(.ref 876)⟩,⟨PyData.keyHash P "clear",(.str "clear" 1384),(.ref 883)⟩,⟨PyData.keyHash P "add_link",(.str "add_link" 1397),(.ref 890)⟩,⟨PyData.keyHash P "delete_link",(.str "delete_link" 1410),(.ref 897)⟩,⟨PyData.keyHash P "has_link",(.str "has_link" 1422),(.ref 904)⟩,⟨PyData.keyHash P "_has_link",(.str "_has_link" 1428),(.ref 909)⟩,⟨PyData.keyHash P "get_roles",(.str "get_roles" 1434),(.ref 914)⟩,⟨PyData.keyHash P "get_users",(.str "get_users" 1440),(.ref 919)⟩,⟨PyData.keyHash P "to_string",(.str "to_string" 1447),(.ref 926)⟩,⟨PyData.keyHash P "__static_attributes__",(.str "__static_attributes__" 1453),(.ref 927)⟩,⟨PyData.keyHash P "__doc__",(.str "__doc__" 1454),.none⟩].toArray 2),[].toArray⟩) ::
 (nat_lit 929,⟨(.type "type"),none,(.cls { name:="RoleManager",bases:=[(.ref 80)],mro:=[(.ref 929),(.ref 80),(.type "object")],ns:=928,qualname:="RoleManager",hasDict:=true,slotNames:=[],subclasses:=[],abstract:=false,collection:=none,hasDel:=false }),[some (.ref 819),none,some (.str "RoleManager" 1304),some (.str "RoleManager" 1312),some (.builtin "object.__new__"),some (.bool true)].toArray⟩) ::
 (nat_lit 939,⟨(.type "tuple"),none,(.seq [(.int 10 1470)].toArray 0),[].toArray⟩) ::
 (nat_lit 945,⟨(.type "code"),none,(.fields [(.str "__init__" 1471),(.str "DomainManagerBase.__init__" 1472),(.str "/claim/cut.py" 1473),(.int 538 0),(.int 2 0),(.int 0 0),(.int 0 0),(.int 3 0),(.ref 940),(.bool true),(.int 181 0),(.ref 941),.none,(.ref 942),(.ref 943),(.ref 944),(.int 1476 0),(.int 538 0),(.str "/claim/cut.py" 1477)].toArray),[].toArray⟩) ::
 (nat_lit 946,⟨(.type "function"),none,(.func (fnD (stA 18 0) "DomainManagerBase.__init__" [] (.ref 939) .none .none (.str "casbin.rbac.default_role_manager.role_manager" 998) (.ref 945) .none)),[].toArray⟩) ::
 (nat_lit 954,⟨(.type "tuple"),none,(.seq [.none].toArray 0),[].toArray⟩) ::
 (nat_lit 960,⟨(.type "code"),none,(.fields [(.str "add_domain_matching_func" 1487),(.str "DomainManagerBase.add_domain_matching_func" 1488),(.str "/claim/cut.py" 1489),(.int 548 0),(.int 2 0),(.int 0 0),(.int 0 0),(.int 3 0),(.ref 955),(.bool true),(.int 181 0),(.ref 956),.none,(.ref 957),(.ref 958),(.ref 959),(.int 1492 0),(.int 548 0),(.str "/claim/cut.py" 1493)].toArray),[].toArray⟩) ::
 (nat_lit 961,⟨(.type "function"),none,(.func (fnD (stA 18 2) "DomainManagerBase.add_domain_matching_func" [] (.ref 954) .none .none (.str "casbin.rbac.default_role_manager.role_manager" 998) (.ref 960) .none)),[].toArray⟩) ::
 (nat_lit 967,⟨(.type "code"),none,(.fields [(.str "_get_domain" 1495),(.str "DomainManagerBase._get_domain" 1496),(.str "/claim/cut.py" 1497),(.int 551 0),(.int 1 0),(.int 0 0),(.int 0 0),(.int 7 0),(.ref 962),(.bool true),(.int 181 0),(.ref 963),.none,(.ref 964),(.ref 965),(.ref 966),(.int 1500 0),(.int 551 0),(.str "/claim/cut.py" 1501)].toArray),[].toArray⟩) ::
 (nat_lit 968,⟨(.type "function"),none,(.func (fnD (stA 18 3) "DomainManagerBase._get_domain" [] .none .none .none (.str "casbin.rbac.default_role_manager.role_manager" 998) (.ref 967) .none)),[].toArray⟩) ::
 (nat_lit 974,⟨(.type "code"),none,(.fields [(.str "_get_links" 1503),(.str "DomainManagerBase._get_links" 1504),(.str "/claim/cut.py" 1505),(.int 560 0),(.int 1 0),(.int 0 0),(.int 0 0),(.int 7 0),(.ref 969),(.bool true),(.int 181 0),(.ref 970),.none,(.ref 971),(.ref 972),(.ref 973),(.int 1508 0),(.int 560 0),(.str "/claim/cut.py" 1509)].toArray),[].toArray⟩) ::
 (nat_lit 975,⟨(.type "function"),none,(.func (fnD (stA 18 4) "DomainManagerBase._get_links" [] .none .none .none (.str "casbin.rbac.default_role_manager.role_manager" 998) (.ref 974) .none)),[].toArray⟩) ::
 (nat_lit 981,⟨(.type "code"),none,(.fields [(.str "_get_role_manager" 1511),(.str "DomainManagerBase._get_role_manager" 1512),(.str "/claim/cut.py" 1513),(.int 566 0),(.int 1 0),(.int 0 0),(.int 0 0),(.int 7 0),(.ref 976),(.bool true),(.int 181 0),(.ref 977),.none,(.ref 978),(.ref 979),(.ref 980),(.int 1522 0),(.int 566 0),(.str "/claim/cut.py" 1523)].toArray),[].toArray⟩) ::
 (nat_lit 982,⟨(.type "function"),none,(.func (fnD (stA 18 5) "DomainManagerBase._get_role_manager" [] .none .none .none (.str "casbin.rbac.default_role_manager.role_manager" 998) (.ref 981) .none)),[].toArray⟩) ::
 (nat_lit 988,⟨(.type "code"),none,(.fields [(.str "clear" 1525),(.str "DomainManagerBase.clear" 1526),(.str "/claim/cut.py" 1527),(.int 579 0),(.int 1 0),(.int 0 0),(.int 0 0),(.int 3 0),(.ref 983),(.bool true),(.int 181 0),(.ref 984),.none,(.ref 985),(.ref 986),(.ref 987),(.int 1529 0),(.int 579 0),(.str "/claim/cut.py" 1530)].toArray),[].toArray⟩) ::
 (nat_lit 989,⟨(.type "function"),none,(.func (fnD (stA 18 6) "DomainManagerBase.clear" [] .none .none .none (.str "casbin.rbac.default_role_manager.role_manager" 998) (.ref 988) .none)),[].toArray⟩) ::
 (nat_lit 995,⟨(.type "code"),none,(.fields [(.str "add_link" 1532),(.str "DomainManagerBase.add_link" 1533),(.str "/claim/cut.py" 1534),(.int 582 0),(.int 3 0),(.int 0 0),(.int 0 0),(.int 7 0),(.ref 990),(.bool true),(.int 181 0),(.ref 991),.none,(.ref 992),(.ref 993),(.ref 994),(.int 1540 0),(.int 582 0),(.str "/claim/cut.py" 1541)].toArray),[].toArray⟩) ::
 (nat_lit 996,⟨(.type "function"),none,(.func (fnD (stA 18 7) "DomainManagerBase.add_link" [] .none .none .none (.str "casbin.rbac.default_role_manager.role_manager" 998) (.ref 995) .none)),[].toArray⟩) ::
 (nat_lit 1002,⟨(.type "code"),none,(.fields [(.str "delete_link" 1543),(.str "DomainManagerBase.delete_link" 1544),(.str "/claim/cut.py" 1545),(.int 586 0),(.int 3 0),(.int 0 0),(.int 0 0),(.int 7 0),(.ref 997),(.bool true),(.int 181 0),(.ref 998),.none,(.ref 999),(.ref 1000),(.ref 1001),(.int 1551 0),(.int 586 0),(.str "/claim/cut.py" 1552)].toArray),[].toArray⟩) ::
 (nat_lit 1003,⟨(.type "function"),none,(.func (fnD (stA 18 8) "DomainManagerBase.delete_link" [] .none .none .none (.str "casbin.rbac.default_role_manager.role_manager" 998) (.ref 1002) .none)),[].toArray⟩) ::
 (nat_lit 1009,⟨(.type "code"),none,(.fields [(.str "has_link" 1554),(.str "DomainManagerBase.has_link" 1555),(.str "/claim/cut.py" 1556),(.int 592 0),(.int 3 0),(.int 0 0),(.int 0 0),(.int 7 0),(.ref 1004),(.bool true),(.int 181 0),(.ref 1005),.none,(.ref 1006),(.ref 1007),(.ref 1008),(.int 1562 0),(.int 592 0),(.str "/claim/cut.py" 1563)].toArray),[].toArray⟩) ::
 (nat_lit 1010,⟨(.type "function"),none,(.func (fnD (stA 18 9) "DomainManagerBase.has_link" [] .none .none .none (.str "casbin.rbac.default_role_manager.role_manager" 998) (.ref 1009) .none)),[].toArray⟩) ::
 (nat_lit 1016,⟨(.type "code"),none,(.fields [(.str "get_roles" 1565),(.str "DomainManagerBase.get_roles" 1566),(.str "/claim/cut.py" 1567),(.int 596 0),(.int 2 0),(.int 0 0),(.int 0 0),(.int 7 0),(.ref 1011),(.bool true),(.int 181 0),(.ref 1012),.none,(.ref 1013),(.ref 1014),(.ref 1015),(.int 1572 0),(.int 596 0),(.str "/claim/cut.py" 1573)].toArray),[].toArray⟩) ::
 (nat_lit 1017,⟨(.type "function"),none,(.func (fnD (stA 18 10) "DomainManagerBase.get_roles" [] .none .none .none (.str "casbin.rbac.default_role_manager.role_manager" 998) (.ref 1016) .none)),[].toArray⟩) ::
 (nat_lit 1023,⟨(.type "code"),none,(.fields [(.str "get_users" 1575),(.str "DomainManagerBase.get_users" 1576),(.str "/claim/cut.py" 1577),(.int 600 0),(.int 2 0),(.int 0 0),(.int 0 0),(.int 7 0),(.ref 1018),(.bool true),(.int 181 0),(.ref 1019),.none,(.ref 1020),(.ref 1021),(.ref 1022),(.int 1582 0),(.int 600 0),(.str "/claim/cut.py" 1583)].toArray),[].toArray⟩) ::
 (nat_lit 1024,⟨(.type "function"),none,(.func (fnD (stA 18 11) "DomainManagerBase.get_users" [] .none .none .none (.str "casbin.rbac.default_role_manager.role_manager" 998) (.ref 1023) .none)),[].toArray⟩) ::
 (nat_lit 1033,⟨(.type "dict"),none,(.dict [⟨PyData.keyHash P "__module__",(.str "__module__" 1465),(.str "casbin.rbac.default_role_manager.role_manager" 998)⟩,⟨PyData.keyHash P "__firstlineno__",(.str "__firstlineno__" 1469),(.int 536 1468)⟩,⟨PyData.keyHash P "__init__",(.str "__init__" 1478),(.ref 946)⟩,⟨PyData.keyHash P "add_matching_func",(.str "add_matching_func" 1486),(.ref 953)⟩,⟨PyData.keyHash P "add_domain_matching_func",(.str "add_domain_matching_func" 1494),(.ref 961)⟩,⟨PyData.keyHash P "_get_domain",(.str "_get_domain" 1502),(.ref 968)⟩,⟨PyData.keyHash P "_get_links",(.str "_get_links" 1510),(.ref 975)⟩,⟨PyData.keyHash P "_get_role_manager",(.str "_get_role_manager" 1524),(.ref 982)⟩,⟨PyData.keyHash P "clear",(.str "clear" 1531),(.ref 989)⟩,⟨PyData.keyHash P "add_link",(.str "add_link" 1542),(.ref 996)⟩,⟨PyData.keyHash P "delete_link",(.str "delete_link" 1553),(.ref 1003)⟩,⟨PyData.keyHash P "has_link",(.str "has_link" 1564),(.ref 1010)⟩,⟨PyData.keyHash P "get_roles",(.str "get_roles" 1574),(.ref 1017)⟩,⟨PyData.keyHash P "get_users",(.str "get_users" 1584),(.ref 1024)⟩,⟨PyData.keyHash P "print_roles",(.str "print_roles" 1591),(.ref 1031)⟩,⟨PyData.keyHash P "__static_attributes__",(.str "__static_attributes__" 1596),(.ref 1032)⟩,⟨PyData.keyHash P "__doc__",(.str "__doc__" 1597),.none⟩].toArray 2),[].toArray⟩) ::
 (nat_lit 1034,⟨(.type "type"),none,(.cls { name:="DomainManagerBase",bases:=[(.ref 80)],mro:=[(.ref 1034),(.ref 80),(.type "object")],ns:=1033,qualname:="DomainManagerBase",hasDict:=true,slotNames:=[],subclasses:=[(.ref 1140)],abstract:=false,collection:=none,hasDel:=false }),[some (.ref 932),none,some (.str "DomainManagerBase" 1458),some (.str "DomainManagerBase" 1466),some (.builtin "object.__new__"),some (.bool true)].toArray⟩) ::
 (nat_lit 1040,⟨(.type "cell"),none,(.cell (some (.ref 1140))),[].toArray⟩) ::
 (nat_lit 1045,⟨(.type "tuple"),none,(.seq [(.int 10 1612)].toArray 0),[].toArray⟩) ::
 (nat_lit 1046,⟨(.type "tuple"),none,(.seq [(.ref 1040)].toArray 0),[].toArray⟩) ::
 (nat_lit 1052,⟨(.type "code"),none,(.fields [(.str "__init__" 1613),(.str "DomainManager.__init__" 1614),(.str "/claim/cut.py" 1615),(.int 608 0),(.int 2 0),(.int 0 0),(.int 0 0),(.int 3 0),(.ref 1047),(.bool true),(.int 181 0),(.ref 1048),.none,(.ref 1049),(.ref 1050),(.ref 1051),(.int 1619 0),(.int 608 0),(.str "/claim/cut.py" 1620)].toArray),[].toArray⟩) ::
 (nat_lit 1053,⟨(.type "function"),none,(.func (fnD (stA 19 0) "DomainManager.__init__" [("__class__",1040)] (.ref 1045) .none .none (.str "casbin.rbac.default_role_manager.role_manager" 998) (.ref 1052) (.ref 1046))),[].toArray⟩) ::
 (nat_lit 1059,⟨(.type "code"),none,(.fields [(.str "_rebuild" 1622),(.str "DomainManager._rebuild" 1623),(.str "/claim/cut.py" 1624),(.int 612 0),(.int 1 0),(.int 0 0),(.int 0 0),(.int 3 0),(.ref 1054),(.bool true),(.int 181 0),(.ref 1055),.none,(.ref 1056),(.ref 1057),(.ref 1058),(.int 1626 0),(.int 612 0),(.str "/claim/cut.py" 1627)].toArray),[].toArray⟩) ::
 (nat_lit 1060,⟨(.type "function"),none,(.func (fnD (stA 19 1) "DomainManager._rebuild" [] .none .none .none (.str "casbin.rbac.default_role_manager.role_manager" 998) (.ref 1059) .none)),[].toArray⟩) ::
 (nat_lit 1061,⟨(.type "tuple"),none,(.seq [(.ref 1040)].toArray 0),[].toArray⟩) ::
 (nat_lit 1067,⟨(.type "code"),none,(.fields [(.str "_get_role_manager" 1629),(.str "DomainManager._get_role_manager" 1630),(.str "/claim/cut.py" 1631),(.int 615 0),(.int 1 0),(.int 0 0),(.int 0 0),(.int 7 0),(.ref 1062),(.bool true),(.int 181 0),(.ref 1063),.none,(.ref 1064),(.ref 1065),(.ref 1066),(.int 1636 0),(.int 615 0),(.str "/claim/cut.py" 1637)].toArray),[].toArray⟩) ::
 (nat_lit 1068,⟨(.type "function"),none,(.func (fnD (stA 19 2) "DomainManager._get_role_manager" [("__class__",1040)] .none .none .none (.str "casbin.rbac.default_role_manager.role_manager" 998) (.ref 1067) (.ref 1061))),[].toArray⟩) ::
 (nat_lit 1072,⟨(.type "code"),none,(.fields [(.str "_affected_role_managers" 1639),(.str "DomainManager._affected_role_managers" 1640),(.str "/claim/cut.py" 1641),(.int 621 0),(.int 1 0),(.int 0 0),(.int 0 0),(.int 7 0),(.ref 1069),(.bool true),(.int 181 0),(.ref 1070),.none,.none,.none,(.ref 1071),(.int 1642 0),(.int 621 0),(.str "/claim/cut.py" 1643)].toArray),[].toArray⟩) ::
 (nat_lit 1073,⟨(.type "function"),none,(.func (fnD (stA 19 3) "DomainManager._affected_role_managers" [] .none .none .none (.str "casbin.rbac.default_role_manager.role_manager" 998) (.ref 1072) .none)),[].toArray⟩) ::
 (nat_lit 1082,⟨(.type "tuple"),none,(.seq [(.ref 1040)].toArray 0),[].toArray⟩) ::
 (nat_lit 1088,⟨(.type "code"),none,(.fields [(.str "add_domain_matching_func" 1655),(.str "DomainManager.add_domain_matching_func" 1656),(.str "/claim/cut.py" 1657),(.int 633 0),(.int 2 0),(.int 0 0),(.int 0 0),(.int 3 0),(.ref 1083),(.bool true),(.int 181 0),(.ref 1084),.none,(.ref 1085),(.ref 1086),(.ref 1087),(.int 1662 0),(.int 633 0),(.str "/claim/cut.py" 1663)].toArray),[].toArray⟩) ::
 (nat_lit 1089,⟨(.type "function"),none,(.func (fnD (stA 19 5) "DomainManager.add_domain_matching_func" [("__class__",1040)] .none .none .none (.str "casbin.rbac.default_role_manager.role_manager" 998) (.ref 1088) (.ref 1082))),[].toArray⟩) ::
 (nat_lit 1090,⟨(.type "tuple"),none,(.seq [(.ref 1040)].toArray 0),[].toArray⟩) ::
 (nat_lit 1096,⟨(.type "code"),none,(.fields [(.str "clear" 1665),(.str "DomainManager.clear" 1666),(.str "/claim/cut.py" 1667),(.int 639 0),(.int 1 0),(.int 0 0),(.int 0 0),(.int 3 0),(.ref 1091),(.bool true),(.int 181 0),(.ref 1092),.none,(.ref 1093),(.ref 1094),(.ref 1095),(.int 1670 0),(.int 639 0),(.str "/claim/cut.py" 1671)].toArray),[].toArray⟩) ::
 (nat_lit 1097,⟨(.type "function"),none,(.func (fnD (stA 19 6) "DomainManager.clear" [("__class__",1040)] .none .none .none (.str "casbin.rbac.default_role_manager.role_manager" 998) (.ref 1096) (.ref 1090))),[].toArray⟩) ::
 (nat_lit 1098,⟨(.type "tuple"),none,(.seq [(.ref 1040)].toArray 0),[].toArray⟩) ::
 (nat_lit 1104,⟨(.type "code"),none,(.fields [(.str "add_link" 1673),(.str "DomainManager.add_link" 1674),(.str "/claim/cut.py" 1675),(.int 643 0),(.int 3 0),(.int 0 0),(.int 0 0),(.int 7 0),(.ref 1099),(.bool true),(.int 181 0),(.ref 1100),.none,(.ref 1101),(.ref 1102),(.ref 1103),(.int 1682 0),(.int 643 0),(.str "/claim/cut.py" 1683)].toArray),[].toArray⟩) ::
 (nat_lit 1105,⟨(.type "function"),none,(.func (fnD (stA 19 7) "DomainManager.add_link" [("__class__",1040)] .none .none .none (.str "casbin.rbac.default_role_manager.role_manager" 998) (.ref 1104) (.ref 1098))),[].toArray⟩) ::
 (nat_lit 1106,⟨(.type "tuple"),none,(.seq [(.ref 1040)].toArray 0),[].toArray⟩) ::
 (nat_lit 1112,⟨(.type "code"),none,(.fields [(.str "delete_link" 1685),(.str "DomainManager.delete_link" 1686),(.str "/claim/cut.py" 1687),(.int 648 0),(.int 3 0),(.int 0 0),(.int 0 0),(.int 7 0),(.ref 1107),(.bool true),(.int 181 0),(.ref 1108),.none,(.ref 1109),(.ref 1110),(.ref 1111),(.int 1694 0),(.int 648 0),(.str "/claim/cut.py" 1695)].toArray),[].toArray⟩) ::
 (nat_lit 1113,⟨(.type "function"),none,(.func (fnD (stA 19 8) "DomainManager.delete_link" [("__class__",1040)] .none .none .none (.str "casbin.rbac.default_role_manager.role_manager" 998) (.ref 1112) (.ref 1106))),[].toArray⟩) ::
 (nat_lit 1114,⟨(.type "tuple"),none,(.seq [(.ref 1040)].toArray 0),[].toArray⟩) ::
 (nat_lit 1120,⟨(.type "code"),none,(.fields [(.str "has_link" 1697),(.str "DomainManager.has_link" 1698),(.str "/claim/cut.py" 1699),(.int 653 0),(.int 3 0),(.int 0 0),(.int 0 0),(.int 7 0),(.ref 1115),(.bool true),(.int 181 0),(.ref 1116),.none,(.ref 1117),(.ref 1118),(.ref 1119),(.int 1705 0),(.int 653 0),(.str "/claim/cut.py" 1706)].toArray),[].toArray⟩) ::
 (nat_lit 1121,⟨(.type "function"),none,(.func (fnD (stA 19 9) "DomainManager.has_link" [("__class__",1040)] .none .none .none (.str "casbin.rbac.default_role_manager.role_manager" 998) (.ref 1120) (.ref 1114))),[].toArray⟩) ::
 (nat_lit 1122,⟨(.type "tuple"),none,(.seq [(.ref 1040)].toArray 0),[].toArray⟩) ::
 (nat_lit 1128,⟨(.type "code"),none,(.fields [(.str "get_roles" 1708),(.str "DomainManager.get_roles" 1709),(.str "/claim/cut.py" 1710),(.int 656 0),(.int 2 0),(.int 0 0),(.int 0 0),(.int 7 0),(.ref 1123),(.bool true),(.int 181 0),(.ref 1124),.none,(.ref 1125),(.ref 1126),(.ref 1127),(.int 1715 0),(.int 656 0),(.str "/claim/cut.py" 1716)].toArray),[].toArray⟩) ::
 (nat_lit 1129,⟨(.type "function"),none,(.func (fnD (stA 19 10) "DomainManager.get_roles" [("__class__",1040)] .none .none .none (.str "casbin.rbac.default_role_manager.role_manager" 998) (.ref 1128) (.ref 1122))),[].toArray⟩) ::
 (nat_lit 1130,⟨(.type "tuple"),none,(.seq [(.ref 1040)].toArray 0),[].toArray⟩) ::
 (nat_lit 1136,⟨(.type "code"),none,(.fields [(.str "get_users" 1718),(.str "DomainManager.get_users" 1719),(.str "/claim/cut.py" 1720),(.int 659 0),(.int 2 0),(.int 0 0),(.int 0 0),(.int 7 0),(.ref 1131),(.bool true),(.int 181 0),(.ref 1132),.none,(.ref 1133),(.ref 1134),(.ref 1135),(.int 1725 0),(.int 659 0),(.str "/claim/cut.py" 1726)].toArray),[].toArray⟩) ::
 (nat_lit 1137,⟨(.type "function"),none,(.func (fnD (stA 19 11) "DomainManager.get_users" [("__class__",1040)] .none .none .none (.str "casbin.rbac.default_role_manager.role_manager" 998) (.ref 1136) (.ref 1130))),[].toArray⟩) ::
 (nat_lit 1139,⟨(.type "dict"),none,(.dict [⟨PyData.keyHash P "__module__",(.str "__module__" 1607),(.str "casbin.rbac.default_role_manager.role_manager" 998)⟩,⟨PyData.keyHash P "__firstlineno__",(.str "__firstlineno__" 1611),(.int 606 1610)⟩,⟨PyData.keyHash P "__init__",(.str "__init__" 1621),(.ref 1053)⟩,⟨PyData.keyHash P "_rebuild",(.str "_rebuild" 1628),(.ref 1060)⟩,⟨PyData.keyHash P "_get_role_manager",(.str "_get_role_manager" 1638),(.ref 1068)⟩,⟨PyData.keyHash P "_affected_role_managers",(.str "_affected_role_managers" 1644),(.ref 1073)⟩,⟨PyData.keyHash P "add_matching_func",(.str "add_matching_func" 1654),(.ref 1081)⟩,⟨PyData.keyHash P "add_domain_matching_func",(.str "add_domain_matching_func" 1664),(.ref 1089)⟩,⟨PyData.keyHash P "clear",(.str "clear" 1672),(.ref 1097)⟩,⟨PyData.keyHash P "add_link",(.str "add_link" 1684),(.ref 1105)⟩,⟨PyData.keyHash P "delete_link",(.str "delete_link" 1696),(.ref 1113)⟩,⟨PyData.keyHash P "has_link",(.str "has_link" 1707),(.ref 1121)⟩,⟨PyData.keyHash P "get_roles",(.str "get_roles" 1717),(.ref 1129)⟩,⟨PyData.keyHash P "get_users",(.str "get_users" 1727),(.ref 1137)⟩,⟨PyData.keyHash P "__static_attributes__",(.str "__static_attributes__" 1729),(.ref 1138)⟩,⟨PyData.keyHash P "__doc__",(.str "__doc__" 1731),.none⟩].toArray 3),[].toArray⟩) ::
 (nat_lit 1140,⟨(.type "type"),none,(.cls { name:="DomainManager",bases:=[(.ref 1034)],mro:=[(.ref 1140),(.ref 1034),(.ref 80),(.type "object")],ns:=1139,qualname:="DomainManager",hasDict:=true,slotNames:=[],subclasses:=[],abstract:=false,collection:=none,hasDel:=false }),[some (.ref 1037),none,some (.str "DomainManager" 1600),some (.str "DomainManager" 1608),some (.builtin "object.__new__"),some (.bool true)].toArray⟩) ::
 (nat_lit 1148,⟨(.type "code"),none,(.fields [(.str "match_error_handler" 1734),(.str "match_error_handler" 1735),(.str "/claim/cut.py" 1736),(.int 661 0),(.int 3 0),(.int 0 0),(.int 0 0),(.int 3 0),(.ref 1143),(.bool true),(.int 181 0),(.ref 1144),.none,(.ref 1145),(.ref 1146),(.ref 1147),(.int 1740 0),(.int 661 0),(.str "/claim/cut.py" 1741)].toArray),[].toArray⟩) ::
 (nat_lit 1149,⟨(.type "function"),none,(.func (fnD (stT 20) "match_error_handler" [] .none .none .none (.str "casbin.rbac.default_role_manager.role_manager" 998) (.ref 1148) .none)),[].toArray⟩) ::
 (nat_lit 1155,⟨(.type "code"),none,(.fields [(.str "_law_names" 1745),(.str "_law_names" 1746),(.str "/claim/cut.py" 1747),(.int 667 0),(.int 0 0),(.int 0 0),(.int 0 0),(.int 3 0),(.ref 1150),(.bool true),(.int 181 0),(.ref 1151),.none,(.ref 1152),(.ref 1153),(.ref 1154),(.int 1748 0),(.int 667 0),(.str "/claim/cut.py" 1749)].toArray),[].toArray⟩) ::
 (nat_lit 1156,⟨(.type "function"),none,(.func (fnD (stT 22) "_law_names" [] .none .none .none (.str "law_ae0024_01" 1743) (.ref 1155) .none)),[].toArray⟩) ::
 (nat_lit 1162,⟨(.type "code"),none,(.fields [(.str "_law_places" 1751),(.str "_law_places" 1752),(.str "/claim/cut.py" 1753),(.int 669 0),(.int 0 0),(.int 0 0),(.int 0 0),(.int 3 0),(.ref 1157),(.bool true),(.int 181 0),(.ref 1158),.none,(.ref 1159),(.ref 1160),(.ref 1161),(.int 1754 0),(.int 669 0),(.str "/claim/cut.py" 1755)].toArray),[].toArray⟩) ::
 (nat_lit 1163,⟨(.type "function"),none,(.func (fnD (stT 23) "_law_places" [] .none .none .none (.str "law_ae0024_01" 1743) (.ref 1162) .none)),[].toArray⟩) ::
 (nat_lit 1169,⟨(.type "code"),none,(.fields [(.str "_law_number" 1757),(.str "_law_number" 1758),(.str "/claim/cut.py" 1759),(.int 671 0),(.int 2 0),(.int 0 0),(.int 0 0),(.int 3 0),(.ref 1164),(.bool true),(.int 181 0),(.ref 1165),.none,(.ref 1166),(.ref 1167),(.ref 1168),(.int 1762 0),(.int 671 0),(.str "/claim/cut.py" 1763)].toArray),[].toArray⟩) ::
 (nat_lit 1170,⟨(.type "function"),none,(.func (fnD (stT 24) "_law_number" [] .none .none .none (.str "law_ae0024_01" 1743) (.ref 1169) .none)),[].toArray⟩) ::
 (nat_lit 1176,⟨(.type "code"),none,(.fields [(.str "_law_covers" 1765),(.str "_law_covers" 1766),(.str "/claim/cut.py" 1767),(.int 673 0),(.int 2 0),(.int 0 0),(.int 0 0),(.int 3 0),(.ref 1171),(.bool true),(.int 181 0),(.ref 1172),.none,(.ref 1173),(.ref 1174),(.ref 1175),(.int 1770 0),(.int 673 0),(.str "/claim/cut.py" 1771)].toArray),[].toArray⟩) ::
 (nat_lit 1177,⟨(.type "function"),none,(.func (fnD (stT 25) "_law_covers" [] .none .none .none (.str "law_ae0024_01" 1743) (.ref 1176) .none)),[].toArray⟩) ::
 (nat_lit 1181,⟨(.type "code"),none,(.fields [(.str "_law_at" 1773),(.str "_law_at" 1774),(.str "/claim/cut.py" 1775),(.int 675 0),(.int 3 0),(.int 0 0),(.int 0 0),(.int 3 0),(.ref 1178),(.bool true),(.int 181 0),(.ref 1179),.none,.none,.none,(.ref 1180),(.int 1776 0),(.int 675 0),(.str "/claim/cut.py" 1777)].toArray),[].toArray⟩) ::
 (nat_lit 1182,⟨(.type "function"),none,(.func (fnD (stT 26) "_law_at" [] .none .none .none (.str "law_ae0024_01" 1743) (.ref 1181) .none)),[].toArray⟩) ::
 (nat_lit 1186,⟨(.type "code"),none,(.fields [(.str "_law_reached" 1779),(.str "_law_reached" 1780),(.str "/claim/cut.py" 1781),(.int 677 0),(.int 4 0),(.int 0 0),(.int 0 0),(.int 3 0),(.ref 1183),(.bool true),(.int 181 0),(.ref 1184),.none,.none,.none,(.ref 1185),(.int 1782 0),(.int 677 0),(.str "/claim/cut.py" 1783)].toArray),[].toArray⟩) ::
 (nat_lit 1187,⟨(.type "function"),none,(.func (fnD (stT 27) "_law_reached" [] .none .none .none (.str "law_ae0024_01" 1743) (.ref 1186) .none)),[].toArray⟩) ::
 (nat_lit 1193,⟨(.type "code"),none,(.fields [(.str "_law_taken" 1785),(.str "_law_taken" 1786),(.str "/claim/cut.py" 1787),(.int 684 0),(.int 2 0),(.int 0 0),(.int 0 0),(.int 3 0),(.ref 1188),(.bool true),(.int 181 0),(.ref 1189),.none,(.ref 1190),(.ref 1191),(.ref 1192),(.int 1790 0),(.int 684 0),(.str "/claim/cut.py" 1791)].toArray),[].toArray⟩) ::
 (nat_lit 1194,⟨(.type "function"),none,(.func (fnD (stT 28) "_law_taken" [] .none .none .none (.str "law_ae0024_01" 1743) (.ref 1193) .none)),[].toArray⟩) ::
 (nat_lit 1200,⟨(.type "code"),none,(.fields [(.str "_law_refused" 1793),(.str "_law_refused" 1794),(.str "/claim/cut.py" 1795),(.int 689 0),(.int 2 0),(.int 0 0),(.int 0 0),(.int 3 0),(.ref 1195),(.bool true),(.int 181 0),(.ref 1196),.none,(.ref 1197),(.ref 1198),(.ref 1199),(.int 1798 0),(.int 689 0),(.str "/claim/cut.py" 1799)].toArray),[].toArray⟩) ::
 (nat_lit 1201,⟨(.type "function"),none,(.func (fnD (stT 29) "_law_refused" [] .none .none .none (.str "law_ae0024_01" 1743) (.ref 1200) .none)),[].toArray⟩) ::
 (nat_lit 1205,⟨(.type "code"),none,(.fields [(.str "law" 1801),(.str "law" 1802),(.str "/claim/cut.py" 1803),(.int 704 0),(.int 1 0),(.int 0 0),(.int 0 0),(.int 3 0),(.ref 1202),(.bool true),(.int 181 0),(.ref 1203),.none,.none,.none,(.ref 1204),(.int 1804 0),(.int 704 0),(.str "/claim/cut.py" 1805)].toArray),[].toArray⟩) ::
 (nat_lit 1206,⟨(.type "function"),none,(.func (fnD (stT 30) "law" [] .none .none .none (.str "law_ae0024_01" 1743) (.ref 1205) .none)),[].toArray⟩)::[]
noncomputable def KpAt:List Addr:=2::3::79::80::481::482::647::648::670::671::695::696::697::698::699::700::734::735::739::740::744::745::749::750::754::755::813::814::826::832::833::839::840::841::847::848::849::853::854::860::861::867::868::869::875::876::882::883::889::890::896::897::903::904::908::909::913::914::918::919::928::929::939::945::946::954::960::961::967::968::974::975::981::982::988::989::995::996::1002::1003::1009::1010::1016::1017::1023::1024::1033::1034::1040::1045::1046::1052::1053::1059::1060::1061::1067::1068::1072::1073::1082::1088::1089::1090::1096::1097::1098::1104::1105::1106::1112::1113::1114::1120::1121::1122::1128::1129::1130::1136::1137::1139::1140::1148::1149::1155::1156::1162::1163::1169::1170::1176::1177::1181::1182::1186::1187::1193::1194::1200::1201::1205::1206::[]
end Mine
open PyProof.Rows.LCg PyProof.Rows.LCt
set_option maxRecDepth 100000
set_option maxHeartbeats 4000000
set_option linter.unusedVariables false
set_option genInjectivity false
set_option genSizeOf false
namespace Mine
@[elab_as_elim] theorem rwl {α:Type} {a b:α} {P:α→Prop} (e:a=b) (h:P b):P a:=by subst e;exact h
@[elab_as_elim] theorem rwr {α:Type} {a b:α} {P:α→Prop} (e:a=b) (h:P a):P b:=by subst e;exact h
theorem fill:PySem.Challenge.rw_ae0024_01=PySem.Challenge.rw_ae0024_01∧Kp=Kp:=by k_fill;exact ⟨rfl,rfl⟩
@[elab_as_elim] theorem room {motive:Nat→Prop} (dp:Nat) {k lim:Nat} (h:dp + k < lim) (f:Nat→Nat) (hm:∀ n,motive n=(f n < lim)) (hf:∀ n,f n=n + f 0) (e:Nat.ble (f 0) k=true):motive dp:=by
 rw [hm]
 exact Nat.lt_of_le_of_lt (Nat.le_trans (Nat.le_of_eq (hf dp)) (Nat.add_le_add_left (Nat.le_of_ble_eq_true e) dp)) h
theorem ar_dec {i n:Nat} (h:i < n):n + 1 - (i + 1) < n + 1 - i:=Nat.sub_lt_sub_left (Nat.lt_succ_of_lt h) (Nat.lt_succ_self i)
theorem ar_succ {i k n:Nat} (h:i + (k + 1)=n):i + 1 + k=n:=(Nat.add_right_comm i 1 k).trans h
theorem ar_le {a b k:Nat} (h:a≤b) (e:Nat.ble b k=true):a≤k:=Nat.le_trans h (Nat.le_of_ble_eq_true e)
theorem ar_lt {a b k:Nat} (h:a < b) (e:Nat.ble b (k + 1)=true):a≤k:=Nat.le_of_lt_succ (Nat.lt_of_lt_of_le h (Nat.le_of_ble_eq_true e))
theorem ar_le2 {a c b k:Nat} (h:a≤c) (h2:c≤b) (e:Nat.ble b k=true):a≤k:=ar_le (Nat.le_trans h h2) e
theorem ar_eq {a c b k:Nat} (h:a=c) (h2:c≤b) (e:Nat.ble b k=true):a≤k:=ar_le2 (Nat.le_of_eq h) h2 e
theorem ar_lt2 {a c b k:Nat} (h:a < c) (h2:c≤b) (e:Nat.ble b (k + 1)=true):a≤k:=ar_lt (Nat.lt_of_lt_of_le h h2) e
theorem ar_inc {a c b k:Nat} (h:a≤c) (h2:c≤b) (e:Nat.ble (b + 1) k=true):a + 1≤k:=ar_le (Nat.add_le_add_right (Nat.le_trans h h2) 1) e
theorem ar_lit {a c b k:Nat} (h:a≤c) (h2:c≤b) (e:Nat.ble (b + 1) k=true):a < k:=ar_inc h h2 e
theorem ar_inmin {i j n:Nat} (h:j < min i n) (e:j=i):False:=Nat.lt_irrefl j (Nat.lt_of_lt_of_le h (Nat.le_trans (Nat.min_le_left i n) (Nat.le_of_eq e.symm)))
theorem ar_min {i n b k:Nat} (h:n≤b) (e:Nat.ble b k=true):min i n≤k:=ar_le2 (Nat.min_le_right i n) h e
theorem ar_add {a b x y k:Nat} (h:a≤x) (h2:b≤y) (e:Nat.ble (x + y) k=true):a + b≤k:=ar_le (Nat.add_le_add h h2) e
theorem ar_add2 {a b c x y k:Nat} (h:b≤c) (h2:c≤y) (h3:a≤x) (e:Nat.ble (x + y) k=true):a + b≤k:=ar_add h3 (Nat.le_trans h h2) e
theorem ar_un {u l c:Nat} (h:u + (24 * (l + 1) + 120) < c):u + 3 + (24 * l + 120) < c:=Nat.lt_of_le_of_lt (by rw [Nat.mul_succ,Nat.add_assoc u 3];refine Nat.add_le_add_left ?_ u;rw [Nat.add_comm 3,Nat.add_right_comm (24 * l) 24 120];exact Nat.add_le_add_left (Nat.le_of_ble_eq_true rfl) _) h
theorem ar_dp {u l c:Nat} (h:u + (3 * (l + 1) + 9) < c):u + 1 + (3 * l + 9) < c:=Nat.lt_of_le_of_lt (by rw [Nat.mul_succ,Nat.add_assoc u 1];refine Nat.add_le_add_left ?_ u;rw [Nat.add_comm 1,Nat.add_right_comm (3 * l) 3 9];exact Nat.add_le_add_left (Nat.le_of_ble_eq_true rfl) _) h
theorem ar_un5 {u l c:Nat} (h:u + 480 < c) (hl:l≤5):u + 3 + (24 * l + 120) < c:=Nat.lt_of_le_of_lt (by rw [Nat.add_assoc];exact Nat.add_le_add_left (ar_le (Nat.add_le_add_left (Nat.add_le_add_right (Nat.mul_le_mul_left 24 hl) 120) 3) rfl) u) h
theorem ar_dp5 {u l c:Nat} (h:u + 60 < c) (hl:l≤5):u + 1 + (3 * l + 9) < c:=Nat.lt_of_le_of_lt (by rw [Nat.add_assoc];exact Nat.add_le_add_left (ar_le (Nat.add_le_add_left (Nat.add_le_add_right (Nat.mul_le_mul_left 3 hl) 9) 1) rfl) u) h
theorem ar_sub1 {lv:Nat} (h:1≤lv):lv - 1 + 1=lv:=Nat.sub_add_cancel h
theorem ar_c3 {d lv k:Nat} (e:d=lv) (h:1≤d∧d≤k):d=lv - 1 + 1:=by subst e;exact (ar_sub1 h.1).symm
theorem ar_c4 {d c lv k:Nat} (e:c=lv) (e2:d=c) (h:1≤d∧d≤k):d=lv - 1 + 1:=ar_c3 (e2.trans e) h
theorem ar_c1 {d lv k:Nat} (e:d=lv) (h:1≤d∧d≤k):(lv:Int) - 1=((lv - 1:Nat):Int):=by subst e;exact (Int.ofNat_sub h.1).symm
theorem ar_c2 {d lv k:Nat} (e:d=lv) (h:1≤d∧d≤5) (hk:Nat.ble 5 k=true):lv - 1≤k:=by subst e;exact ar_le2 (Nat.sub_le d 1) h.2 hk
theorem ar_nat {j:Int} {n m:Nat} (h0:0≤j) (h1:j < (n:Int)) (e:m=n):j.toNat < m:=by subst e;exact (Int.toNat_lt h0).mpr h1
theorem ar_63 {j:Int} {n k:Nat} (h:j < (n:Int)) (h2:n≤k) (e:Nat.ble k 9223372036854775808=true):j < 2 ^ 63:=Int.lt_of_lt_of_le h (Int.ofNat_le.mpr (ar_le h2 e))
theorem ar_pos {n:Nat} (h:(n:Int)≠0):(0:Int) < (n:Int):=Int.ofNat_lt.mpr (Nat.pos_of_ne_zero fun e=>h (congrArg Nat.cast e))
theorem ar_i63 {n k:Nat} (h2:n≤k) (e:Nat.ble k 9223372036854775808=true):(n:Int)≤2 ^ 63:=Int.ofNat_le.mpr (ar_le h2 e)
theorem ar_tn {z:Int} (h:0≤z):1 + z=(((1 + z).toNat:Nat):Int):=(Int.toNat_of_nonneg (Int.add_nonneg (by decide) h)).symm
theorem ar_lv {z:Int} {lv:Nat} (h:0≤z) (h2:z < 5) (e:1 + z=(lv:Int)):1≤lv∧lv≤5:=⟨Int.ofNat_le.mp (e▸Int.add_le_add_left h 1),Int.ofNat_le.mp (e▸Int.add_le_add_left (Int.le_of_lt_add_one (b:=4) h2) 1)⟩
theorem ar_29 {u c:Nat} (h:u + 128 < c):u + 1 + 64 < c:=Nat.lt_of_le_of_lt (Nat.add_le_add_left (Nat.le_of_ble_eq_true rfl:1 + 64≤128) u) h
theorem ar_k {k:Nat} (h:k < 9):10 + k≤20:=ar_le (Nat.add_le_add_left (Nat.le_of_lt h) 10) rfl
theorem ar_k1 {k:Nat} (h:k < 9):1 + k≤20:=ar_le (Nat.add_le_add_left (Nat.le_of_lt h) 1) rfl
theorem ar_s0 {i j:Nat} (h:j - i=0) (h2:i≤j):i=j:=Nat.le_antisymm h2 (Nat.le_of_sub_eq_zero h)
theorem ar_s1 {i j k:Nat} (h:j - i=k + 1):j - (i + 1)=k:=(Nat.sub_succ j i).trans (congrArg Nat.pred h)
theorem ar_s2 {i j k:Nat} (h:j - i=k + 1):i < j:=Nat.lt_of_sub_eq_succ h
theorem ar_nl {a b k n:Nat} (h:a≤1 + k * n) (h2:b≤n):a + b≤1 + (k * n + n):=Nat.le_trans (Nat.add_le_add h h2) (Nat.le_of_eq (Nat.add_assoc ..))
theorem ar_pd {l m:Nat} (h:l≤m - 1) (h2:0 < m):l + 1≤m:=Nat.le_trans (Nat.add_le_add_right h 1) (Nat.le_of_eq (Nat.sub_add_cancel h2))
theorem ar_im {i:Nat}:(0:Int) + (i:Int) * 1=(i:Int):=(Int.zero_add _).trans (Int.mul_one _)
theorem ar_lts {i k n:Nat} (h:i + (k + 1)=n):i < n:=h▸Nat.lt_add_of_pos_right (Nat.succ_pos k)
theorem ar_j0 {j lv:Nat} (h:j≤lv - 1) (e:lv=1):j=0:=Nat.le_zero.mp (by subst e;exact h)
theorem ar_gt {d c lv k:Nat} (e:c=lv) (e2:d=c) (h:1≤d∧d≤k) (n:¬ lv=1):(lv:Int) > 1:=Int.ofNat_lt.mpr (Nat.lt_of_le_of_ne (e2.trans e▸h.1) (Ne.symm n))
theorem ar_p1 {lv:Nat} (h:(lv:Int) > 1):1≤lv - 1:=Nat.le_sub_one_of_lt (Int.ofNat_lt.mp h)
theorem ar_5:∀ k,k < 5→k=0∨k=1∨k=2∨k=3∨k=4:=by decide
theorem ar_end {i n:Nat} (h:i≤n) (h2:¬ i < n):i=n:=Nat.le_antisymm h (Nat.not_lt.mp h2)
theorem mf_nd {α K V:Type} {l:List α} {f:α→K} {g:α→V} (h:(l.map f).Nodup):((l.map fun q=>(f q,g q)).map (·.1)).Nodup:=by rw [List.map_map];exact h
theorem mf_in {α K V:Type} {l:List α} {f:α→K} {g:α→V} {k:K} (h:k ∉ l.map f):k ∉ (l.map fun q=>(f q,g q)).map (·.1):=by rw [List.map_map];exact h
abbrev Led:=List (Addr×Obj)
@[irreducible] noncomputable def upd (d:Addr) (o:Obj) (l:Led):Led:=(d,o)::l.filter (fun p=>p.1 != d)
theorem mem_upd_self {d:Addr} {o:Obj} {l:Led}:(d,o)∈upd d o l:=by unfold upd;exact .head _
theorem mem_upd {d:Addr} {o:Obj} {l:Led} {p:Addr×Obj} (h:p∈l) (n:p.1≠d):p∈upd d o l:=by unfold upd;exact .tail _ (List.mem_filter.mpr ⟨h,by simpa using n⟩)
theorem of_mem_upd {d:Addr} {o:Obj} {l:Led} {p:Addr×Obj} (h:p∈upd d o l):p=(d,o)∨(p∈l∧p.1≠d):=by
 unfold upd at h
 rcases List.mem_cons.mp h with h | h
 ·exact .inl h
 ·obtain ⟨h1,h2⟩:=List.mem_filter.mp h
  exact .inr ⟨h1,by simpa using h2⟩
structure NeA (a b:Addr):Prop where
 out:a≠b
theorem upd_off {d:Addr} {l:Led}:∀ p∈l.filter (fun p=>p.1 != d),p.1≠d:=fun _ hp=>by simpa using (List.mem_filter.mp hp).2
theorem news_updOf {h₀ h:Heap} {L d:Addr} {o:Obj} {l:Led} (N:News h₀ L h l) (m:(d,o)∈l):News h₀ L h (upd d o l):=fun p hp=>by
 rcases of_mem_upd hp with rfl | ⟨hp,_⟩
 ·exact N _ m
 ·exact N p hp
theorem sub_rfl {l:Led}:∀ p∈l,p∈l:=fun _ h=>h
theorem sub_skip {l l':Led} {x:Addr×Obj} (h:∀ p∈l,p∈l'):∀ p∈l,p∈x::l':=fun p hp=>.tail _ (h p hp)
theorem sub_cons {l l':Led} {x:Addr×Obj} (h:∀ p∈l,p∈l'):∀ p∈x::l,p∈x::l':=fun p hp=>by
 rcases List.mem_cons.mp hp with rfl | hp
 ·exact .head _
 ·exact .tail _ (h p hp)
theorem sub_upd {l l':Led} {d:Addr} {o:Obj} (h:∀ p∈l,p∈l'):∀ p∈upd d o l,p∈upd d o l':=fun p hp=>by
 rcases of_mem_upd hp with rfl | ⟨hp,hn⟩
 ·exact mem_upd_self
 ·exact mem_upd (h p hp) hn
theorem ne_upd {l:Led} {d q:Addr} {o:Obj} (h:∀ p∈upd d o l,p.1≠q):∀ p∈l,p.1≠q:=fun p hp=>by
 by_cases e:p.1=d
 ·exact e▸h (d,o) mem_upd_self
 ·exact h p (mem_upd hp e)
theorem ne_tail {l:Led} {x:Addr×Obj} {q:Addr} (h:∀ p∈x::l,p.1≠q):∀ p∈l,p.1≠q:=fun p hp=>h p (.tail _ hp)
theorem upd_Upd {d:Addr} {o o':Obj} {l:Led}:Upd d o o' (upd d o l) (upd d o' l):=by unfold upd;exact .head upd_off
theorem news_fun {h₀ h:Heap} {L a:Addr} {o o':Obj} {l:Led} (N:News h₀ L h l) (h1:(a,o)∈l) (h2:(a,o')∈l):o=o':=Option.some.inj ((N _ h1).1.symm.trans (N _ h2).1)
theorem news_ne {h₀ h:Heap} {L a b:Addr} {o o':Obj} {l:Led} (N:News h₀ L h l) (h1:(a,o)∈l) (h2:(b,o')∈l) (hn:o≠o'):a≠b:=fun e=>hn (news_fun N h1 (e▸h2))
theorem newsNe {h₀ h:Heap} {L a b:Addr} {o o':Obj} {l:Led} (N:News h₀ L h l) (h1:(a,o)∈l) (h2:(b,o')∈l) (hn:o.cls≠o'.cls):NeA a b:=⟨news_ne N h1 h2 fun e=>hn (by rw [e])⟩
theorem news_sub {h₀ h:Heap} {L:Addr} {l l':Led} (N:News h₀ L h l) (hs:∀ p∈l',p∈l):News h₀ L h l':=fun p hp=>N p (hs p hp)
section
variable {prog:Program} {w:World} {A:Around} {E:Value→Shared→Prop} {s:Shared} {K:Frag} {h₀:Heap} {L x dx C D:Addr} {m:Str→Option Value} {ox:Obj} {es es':List DictEntry} {n n':Nat} {name:Str} {v:Value} {news:Led}
theorem set_upd {Q:Unit→Shared→Prop} {sl:Array (Option Value)} (F:Fr h₀ L s.heap m) (X₀:K.In h₀) (N:News h₀ L s.heap news) (hx:(x,(⟨.ref C,some dx,.plain,sl⟩:Obj))∈news) (hdx:(dx,dictOf es n)∈news)
  (hs:findIn K (.ref C) "__setattr__"=some (some (.builtin "object.__setattr__"))) (hp:plainOver K C=true) (ht:takerIn K C name=some none) (hh:hasDictIn K C=true) (hl:(getL name es).isSome=true)
  (e:(putL name (PyData.keyHash w.params name) (.str name (s.toks + 1)) v es,putN name es n)=(es',n')) (hz:es'.length≤1000)
  (h:∀ h',Fr h₀ L h' m→News h₀ L h' (upd dx (dictOf es' n') news)→Q () { s with heap:=h',toks:=s.toks + 2 }) :
  wpAny (model prog w) A (setAttr (.ref x) name v) Q E s :=
 set_dict F X₀ (news_updOf N hdx) (InstAt.of_news N hx hdx) rfl hs hp ht hh hl e upd_Upd hz h
theorem append_upd {its:Array Value} {y:Value} {Q:Value→Shared→Prop} (F:Fr h₀ L s.heap m) (N:News h₀ L s.heap news) (hD:(D,listOf its n)∈news)
  (h:∀ h',Fr h₀ L h' m→News h₀ L h' (upd D (listOf (its.push y) (n + 1)) news)→Q .none { s with heap:=h' }) (hsz:its.size≤sizeLine:=by size_fits):wpAny (model prog w) A (call (.builtin "list.append") [.ref D,y]) Q E s :=
 append_K F (news_updOf N hD) upd_Upd h hsz
end
end Mine
namespace Mine
section
variable{G:Prop}{Ta Tb Tc Td Te Tf Tg Ti Tj Tl Tm:Type}
theorem e_A{A B:Prop}(h:A∧B)(k:A→B→G):G:=h.elim fun h0 h=>k h0 h
theorem e_E{A:Ta→Prop}(h:∃a,A a)(k:∀a,A a→G):G:=h.elim fun a h=>k a h
theorem e_A2{A B C:Prop}(h:A∧B∧C)(k:A→B→C→G):G:=h.elim fun h0 h=>h.elim fun h1 h=>k h0 h1 h
theorem e_AE{A:Prop}{B:Ta→Prop}(h:A∧∃a,B a)(k:A→∀a,B a→G):G:=h.elim fun h0 h=>h.elim fun a h=>k h0 a h
theorem e_EA{A B:Ta→Prop}(h:∃a,A a∧B a)(k:∀a,A a→B a→G):G:=h.elim fun a h=>h.elim fun h1 h=>k a h1 h
theorem e_E2{A:Ta→Tb→Prop}(h:∃a,∃b,A a b)(k:∀a,∀b,A a b→G):G:=h.elim fun a h=>h.elim fun b h=>k a b h
theorem e_A3{A B C D:Prop}(h:A∧B∧C∧D)(k:A→B→C→D→G):G:=h.elim fun h0 h=>h.elim fun h1 h=>h.elim fun h2 h=>k h0 h1 h2 h
theorem e_A2E{A B:Prop}{C:Ta→Prop}(h:A∧B∧∃a,C a)(k:A→B→∀a,C a→G):G:=h.elim fun h0 h=>h.elim fun h1 h=>h.elim fun a h=>k h0 h1 a h
theorem e_AEA{A:Prop}{B C:Ta→Prop}(h:A∧∃a,B a∧C a)(k:A→∀a,B a→C a→G):G:=h.elim fun h0 h=>h.elim fun a h=>h.elim fun h2 h=>k h0 a h2 h
theorem e_EA2{A B C:Ta→Prop}(h:∃a,A a∧B a∧C a)(k:∀a,A a→B a→C a→G):G:=h.elim fun a h=>h.elim fun h1 h=>h.elim fun h2 h=>k a h1 h2 h
theorem e_EAE{A:Ta→Prop}{B:Ta→Tb→Prop}(h:∃a,A a∧∃b,B a b)(k:∀a,A a→∀b,B a b→G):G:=h.elim fun a h=>h.elim fun h1 h=>h.elim fun b h=>k a h1 b h
theorem e_E2A{A B:Ta→Tb→Prop}(h:∃a,∃b,A a b∧B a b)(k:∀a,∀b,A a b→B a b→G):G:=h.elim fun a h=>h.elim fun b h=>h.elim fun h2 h=>k a b h2 h
theorem e_E3{A:Ta→Tb→Tc→Prop}(h:∃a,∃b,∃c,A a b c)(k:∀a,∀b,∀c,A a b c→G):G:=h.elim fun a h=>h.elim fun b h=>h.elim fun c h=>k a b c h
theorem e_A4{A B C D E:Prop}(h:A∧B∧C∧D∧E)(k:A→B→C→D→E→G):G:=h.elim fun h0 h=>h.elim fun h1 h=>h.elim fun h2 h=>h.elim fun h3 h=>k h0 h1 h2 h3 h
theorem e_AEA2{A:Prop}{B C D:Ta→Prop}(h:A∧∃a,B a∧C a∧D a)(k:A→∀a,B a→C a→D a→G):G:=h.elim fun h0 h=>h.elim fun a h=>h.elim fun h2 h=>h.elim fun h3 h=>k h0 a h2 h3 h
theorem e_AE2A{A:Prop}{B C:Ta→Tb→Prop}(h:A∧∃a,∃b,B a b∧C a b)(k:A→∀a,∀b,B a b→C a b→G):G:=h.elim fun h0 h=>h.elim fun a h=>h.elim fun b h=>h.elim fun h3 h=>k h0 a b h3 h
theorem e_EA3{A B C D:Ta→Prop}(h:∃a,A a∧B a∧C a∧D a)(k:∀a,A a→B a→C a→D a→G):G:=h.elim fun a h=>h.elim fun h1 h=>h.elim fun h2 h=>h.elim fun h3 h=>k a h1 h2 h3 h
theorem e_EAEA{A:Ta→Prop}{B C:Ta→Tb→Prop}(h:∃a,A a∧∃b,B a b∧C a b)(k:∀a,A a→∀b,B a b→C a b→G):G:=h.elim fun a h=>h.elim fun h1 h=>h.elim fun b h=>h.elim fun h3 h=>k a h1 b h3 h
theorem e_E2A2{A B C:Ta→Tb→Prop}(h:∃a,∃b,A a b∧B a b∧C a b)(k:∀a,∀b,A a b→B a b→C a b→G):G:=h.elim fun a h=>h.elim fun b h=>h.elim fun h2 h=>h.elim fun h3 h=>k a b h2 h3 h
theorem e_E3A{A B:Ta→Tb→Tc→Prop}(h:∃a,∃b,∃c,A a b c∧B a b c)(k:∀a,∀b,∀c,A a b c→B a b c→G):G:=h.elim fun a h=>h.elim fun b h=>h.elim fun c h=>h.elim fun h3 h=>k a b c h3 h
theorem e_E4{A:Ta→Tb→Tc→Td→Prop}(h:∃a,∃b,∃c,∃d,A a b c d)(k:∀a,∀b,∀c,∀d,A a b c d→G):G:=h.elim fun a h=>h.elim fun b h=>h.elim fun c h=>h.elim fun d h=>k a b c d h
theorem e_A5{A B C D E F:Prop}(h:A∧B∧C∧D∧E∧F)(k:A→B→C→D→E→F→G):G:=h.elim fun h0 h=>h.elim fun h1 h=>h.elim fun h2 h=>h.elim fun h3 h=>h.elim fun h4 h=>k h0 h1 h2 h3 h4 h
theorem e_A2E2A{A B:Prop}{C D:Ta→Tb→Prop}(h:A∧B∧∃a,∃b,C a b∧D a b)(k:A→B→∀a,∀b,C a b→D a b→G):G:=h.elim fun h0 h=>h.elim fun h1 h=>h.elim fun a h=>h.elim fun b h=>h.elim fun h4 h=>k h0 h1 a b h4 h
theorem e_AEA3{A:Prop}{B C D E:Ta→Prop}(h:A∧∃a,B a∧C a∧D a∧E a)(k:A→∀a,B a→C a→D a→E a→G):G:=h.elim fun h0 h=>h.elim fun a h=>h.elim fun h2 h=>h.elim fun h3 h=>h.elim fun h4 h=>k h0 a h2 h3 h4 h
theorem e_AE2A2{A:Prop}{B C D:Ta→Tb→Prop}(h:A∧∃a,∃b,B a b∧C a b∧D a b)(k:A→∀a,∀b,B a b→C a b→D a b→G):G:=h.elim fun h0 h=>h.elim fun a h=>h.elim fun b h=>h.elim fun h3 h=>h.elim fun h4 h=>k h0 a b h3 h4 h
theorem e_EA4{A B C D E:Ta→Prop}(h:∃a,A a∧B a∧C a∧D a∧E a)(k:∀a,A a→B a→C a→D a→E a→G):G:=h.elim fun a h=>h.elim fun h1 h=>h.elim fun h2 h=>h.elim fun h3 h=>h.elim fun h4 h=>k a h1 h2 h3 h4 h
theorem e_EAEA2{A:Ta→Prop}{B C D:Ta→Tb→Prop}(h:∃a,A a∧∃b,B a b∧C a b∧D a b)(k:∀a,A a→∀b,B a b→C a b→D a b→G):G:=h.elim fun a h=>h.elim fun h1 h=>h.elim fun b h=>h.elim fun h3 h=>h.elim fun h4 h=>k a h1 b h3 h4 h
theorem e_EAE3{A:Ta→Prop}{B:Ta→Tb→Tc→Td→Prop}(h:∃a,A a∧∃b,∃c,∃d,B a b c d)(k:∀a,A a→∀b,∀c,∀d,B a b c d→G):G:=h.elim fun a h=>h.elim fun h1 h=>h.elim fun b h=>h.elim fun c h=>h.elim fun d h=>k a h1 b c d h
theorem e_E2A3{A B C D:Ta→Tb→Prop}(h:∃a,∃b,A a b∧B a b∧C a b∧D a b)(k:∀a,∀b,A a b→B a b→C a b→D a b→G):G:=h.elim fun a h=>h.elim fun b h=>h.elim fun h2 h=>h.elim fun h3 h=>h.elim fun h4 h=>k a b h2 h3 h4 h
theorem e_E3A2{A B C:Ta→Tb→Tc→Prop}(h:∃a,∃b,∃c,A a b c∧B a b c∧C a b c)(k:∀a,∀b,∀c,A a b c→B a b c→C a b c→G):G:=h.elim fun a h=>h.elim fun b h=>h.elim fun c h=>h.elim fun h3 h=>h.elim fun h4 h=>k a b c h3 h4 h
theorem e_AEA4{A:Prop}{B C D E F:Ta→Prop}(h:A∧∃a,B a∧C a∧D a∧E a∧F a)(k:A→∀a,B a→C a→D a→E a→F a→G):G:=h.elim fun h0 h=>h.elim fun a h=>h.elim fun h2 h=>h.elim fun h3 h=>h.elim fun h4 h=>h.elim fun h5 h=>k h0 a h2 h3 h4 h5 h
theorem e_EA5{A B C D E F:Ta→Prop}(h:∃a,A a∧B a∧C a∧D a∧E a∧F a)(k:∀a,A a→B a→C a→D a→E a→F a→G):G:=h.elim fun a h=>h.elim fun h1 h=>h.elim fun h2 h=>h.elim fun h3 h=>h.elim fun h4 h=>h.elim fun h5 h=>k a h1 h2 h3 h4 h5 h
theorem e_EAE4{A:Ta→Prop}{B:Ta→Tb→Tc→Td→Te→Prop}(h:∃a,A a∧∃b,∃c,∃d,∃e,B a b c d e)(k:∀a,A a→∀b,∀c,∀d,∀e,B a b c d e→G):G:=h.elim fun a h=>h.elim fun h1 h=>h.elim fun b h=>h.elim fun c h=>h.elim fun d h=>h.elim fun e h=>k a h1 b c d e h
theorem e_E2A4{A B C D E:Ta→Tb→Prop}(h:∃a,∃b,A a b∧B a b∧C a b∧D a b∧E a b)(k:∀a,∀b,A a b→B a b→C a b→D a b→E a b→G):G:=h.elim fun a h=>h.elim fun b h=>h.elim fun h2 h=>h.elim fun h3 h=>h.elim fun h4 h=>h.elim fun h5 h=>k a b h2 h3 h4 h5 h
theorem e_E3A3{A B C D:Ta→Tb→Tc→Prop}(h:∃a,∃b,∃c,A a b c∧B a b c∧C a b c∧D a b c)(k:∀a,∀b,∀c,A a b c→B a b c→C a b c→D a b c→G):G:=h.elim fun a h=>h.elim fun b h=>h.elim fun c h=>h.elim fun h3 h=>h.elim fun h4 h=>h.elim fun h5 h=>k a b c h3 h4 h5 h
theorem e_E2A5{A B C D E F:Ta→Tb→Prop}(h:∃a,∃b,A a b∧B a b∧C a b∧D a b∧E a b∧F a b)(k:∀a,∀b,A a b→B a b→C a b→D a b→E a b→F a b→G):G:=h.elim fun a h=>h.elim fun b h=>h.elim fun h2 h=>h.elim fun h3 h=>h.elim fun h4 h=>h.elim fun h5 h=>h.elim fun h6 h=>k a b h2 h3 h4 h5 h6 h
theorem e_E4A3{A B C D:Ta→Tb→Tc→Td→Prop}(h:∃a,∃b,∃c,∃d,A a b c d∧B a b c d∧C a b c d∧D a b c d)(k:∀a,∀b,∀c,∀d,A a b c d→B a b c d→C a b c d→D a b c d→G):G:=h.elim fun a h=>h.elim fun b h=>h.elim fun c h=>h.elim fun d h=>h.elim fun h4 h=>h.elim fun h5 h=>h.elim fun h6 h=>k a b c d h4 h5 h6 h
theorem e_EA7{A B C D E F H I:Ta→Prop}(h:∃a,A a∧B a∧C a∧D a∧E a∧F a∧H a∧I a)(k:∀a,A a→B a→C a→D a→E a→F a→H a→I a→G):G:=h.elim fun a h=>h.elim fun h1 h=>h.elim fun h2 h=>h.elim fun h3 h=>h.elim fun h4 h=>h.elim fun h5 h=>h.elim fun h6 h=>h.elim fun h7 h=>k a h1 h2 h3 h4 h5 h6 h7 h
theorem e_E3A5{A B C D E F:Ta→Tb→Tc→Prop}(h:∃a,∃b,∃c,A a b c∧B a b c∧C a b c∧D a b c∧E a b c∧F a b c)(k:∀a,∀b,∀c,A a b c→B a b c→C a b c→D a b c→E a b c→F a b c→G):G:=h.elim fun a h=>h.elim fun b h=>h.elim fun c h=>h.elim fun h3 h=>h.elim fun h4 h=>h.elim fun h5 h=>h.elim fun h6 h=>h.elim fun h7 h=>k a b c h3 h4 h5 h6 h7 h
theorem e_AE4A4{A:Prop}{B C D E F:Ta→Tb→Tc→Td→Prop}(h:A∧∃a,∃b,∃c,∃d,B a b c d∧C a b c d∧D a b c d∧E a b c d∧F a b c d)(k:A→∀a,∀b,∀c,∀d,B a b c d→C a b c d→D a b c d→E a b c d→F a b c d→G):G:=h.elim fun h0 h=>h.elim fun a h=>h.elim fun b h=>h.elim fun c h=>h.elim fun d h=>h.elim fun h5 h=>h.elim fun h6 h=>h.elim fun h7 h=>h.elim fun h8 h=>k h0 a b c d h5 h6 h7 h8 h
theorem e_E5A4{A B C D E:Ta→Tb→Tc→Td→Te→Prop}(h:∃a,∃b,∃c,∃d,∃e,A a b c d e∧B a b c d e∧C a b c d e∧D a b c d e∧E a b c d e)(k:∀a,∀b,∀c,∀d,∀e,A a b c d e→B a b c d e→C a b c d e→D a b c d e→E a b c d e→G):G:=h.elim fun a h=>h.elim fun b h=>h.elim fun c h=>h.elim fun d h=>h.elim fun e h=>h.elim fun h5 h=>h.elim fun h6 h=>h.elim fun h7 h=>h.elim fun h8 h=>k a b c d e h5 h6 h7 h8 h
theorem e_E6A3{A B C D:Ta→Tb→Tc→Td→Te→Tf→Prop}(h:∃a,∃b,∃c,∃d,∃e,∃f,A a b c d e f∧B a b c d e f∧C a b c d e f∧D a b c d e f)(k:∀a,∀b,∀c,∀d,∀e,∀f,A a b c d e f→B a b c d e f→C a b c d e f→D a b c d e f→G):G:=h.elim fun a h=>h.elim fun b h=>h.elim fun c h=>h.elim fun d h=>h.elim fun e h=>h.elim fun f h=>h.elim fun h6 h=>h.elim fun h7 h=>h.elim fun h8 h=>k a b c d e f h6 h7 h8 h
theorem e_AEA8{A:Prop}{B C D E F H I J K:Ta→Prop}(h:A∧∃a,B a∧C a∧D a∧E a∧F a∧H a∧I a∧J a∧K a)(k:A→∀a,B a→C a→D a→E a→F a→H a→I a→J a→K a→G):G:=h.elim fun h0 h=>h.elim fun a h=>h.elim fun h2 h=>h.elim fun h3 h=>h.elim fun h4 h=>h.elim fun h5 h=>h.elim fun h6 h=>h.elim fun h7 h=>h.elim fun h8 h=>h.elim fun h9 h=>k h0 a h2 h3 h4 h5 h6 h7 h8 h9 h
theorem e_AE6A3{A:Prop}{B C D E:Ta→Tb→Tc→Td→Te→Tf→Prop}(h:A∧∃a,∃b,∃c,∃d,∃e,∃f,B a b c d e f∧C a b c d e f∧D a b c d e f∧E a b c d e f)(k:A→∀a,∀b,∀c,∀d,∀e,∀f,B a b c d e f→C a b c d e f→D a b c d e f→E a b c d e f→G):G:=h.elim fun h0 h=>h.elim fun a h=>h.elim fun b h=>h.elim fun c h=>h.elim fun d h=>h.elim fun e h=>h.elim fun f h=>h.elim fun h7 h=>h.elim fun h8 h=>h.elim fun h9 h=>k h0 a b c d e f h7 h8 h9 h
theorem e_E4A6{A B C D E F H:Ta→Tb→Tc→Td→Prop}(h:∃a,∃b,∃c,∃d,A a b c d∧B a b c d∧C a b c d∧D a b c d∧E a b c d∧F a b c d∧H a b c d)(k:∀a,∀b,∀c,∀d,A a b c d→B a b c d→C a b c d→D a b c d→E a b c d→F a b c d→H a b c d→G):G:=h.elim fun a h=>h.elim fun b h=>h.elim fun c h=>h.elim fun d h=>h.elim fun h4 h=>h.elim fun h5 h=>h.elim fun h6 h=>h.elim fun h7 h=>h.elim fun h8 h=>h.elim fun h9 h=>k a b c d h4 h5 h6 h7 h8 h9 h
theorem e_E3A8{A B C D E F H I J:Ta→Tb→Tc→Prop}(h:∃a,∃b,∃c,A a b c∧B a b c∧C a b c∧D a b c∧E a b c∧F a b c∧H a b c∧I a b c∧J a b c)(k:∀a,∀b,∀c,A a b c→B a b c→C a b c→D a b c→E a b c→F a b c→H a b c→I a b c→J a b c→G):G:=h.elim fun a h=>h.elim fun b h=>h.elim fun c h=>h.elim fun h3 h=>h.elim fun h4 h=>h.elim fun h5 h=>h.elim fun h6 h=>h.elim fun h7 h=>h.elim fun h8 h=>h.elim fun h9 h=>h.elim fun h10 h=>k a b c h3 h4 h5 h6 h7 h8 h9 h10 h
theorem e_E4A7{A B C D E F H I:Ta→Tb→Tc→Td→Prop}(h:∃a,∃b,∃c,∃d,A a b c d∧B a b c d∧C a b c d∧D a b c d∧E a b c d∧F a b c d∧H a b c d∧I a b c d)(k:∀a,∀b,∀c,∀d,A a b c d→B a b c d→C a b c d→D a b c d→E a b c d→F a b c d→H a b c d→I a b c d→G):G:=h.elim fun a h=>h.elim fun b h=>h.elim fun c h=>h.elim fun d h=>h.elim fun h4 h=>h.elim fun h5 h=>h.elim fun h6 h=>h.elim fun h7 h=>h.elim fun h8 h=>h.elim fun h9 h=>h.elim fun h10 h=>k a b c d h4 h5 h6 h7 h8 h9 h10 h
theorem e_E6A5{A B C D E F:Ta→Tb→Tc→Td→Te→Tf→Prop}(h:∃a,∃b,∃c,∃d,∃e,∃f,A a b c d e f∧B a b c d e f∧C a b c d e f∧D a b c d e f∧E a b c d e f∧F a b c d e f)(k:∀a,∀b,∀c,∀d,∀e,∀f,A a b c d e f→B a b c d e f→C a b c d e f→D a b c d e f→E a b c d e f→F a b c d e f→G):G:=h.elim fun a h=>h.elim fun b h=>h.elim fun c h=>h.elim fun d h=>h.elim fun e h=>h.elim fun f h=>h.elim fun h6 h=>h.elim fun h7 h=>h.elim fun h8 h=>h.elim fun h9 h=>h.elim fun h10 h=>k a b c d e f h6 h7 h8 h9 h10 h
theorem e_E5A7{A B C D E F H I:Ta→Tb→Tc→Td→Te→Prop}(h:∃a,∃b,∃c,∃d,∃e,A a b c d e∧B a b c d e∧C a b c d e∧D a b c d e∧E a b c d e∧F a b c d e∧H a b c d e∧I a b c d e)(k:∀a,∀b,∀c,∀d,∀e,A a b c d e→B a b c d e→C a b c d e→D a b c d e→E a b c d e→F a b c d e→H a b c d e→I a b c d e→G):G:=h.elim fun a h=>h.elim fun b h=>h.elim fun c h=>h.elim fun d h=>h.elim fun e h=>h.elim fun h5 h=>h.elim fun h6 h=>h.elim fun h7 h=>h.elim fun h8 h=>h.elim fun h9 h=>h.elim fun h10 h=>h.elim fun h11 h=>k a b c d e h5 h6 h7 h8 h9 h10 h11 h
theorem e_E4A9{A B C D E F H I J K:Ta→Tb→Tc→Td→Prop}(h:∃a,∃b,∃c,∃d,A a b c d∧B a b c d∧C a b c d∧D a b c d∧E a b c d∧F a b c d∧H a b c d∧I a b c d∧J a b c d∧K a b c d)(k:∀a,∀b,∀c,∀d,A a b c d→B a b c d→C a b c d→D a b c d→E a b c d→F a b c d→H a b c d→I a b c d→J a b c d→K a b c d→G):G:=h.elim fun a h=>h.elim fun b h=>h.elim fun c h=>h.elim fun d h=>h.elim fun h4 h=>h.elim fun h5 h=>h.elim fun h6 h=>h.elim fun h7 h=>h.elim fun h8 h=>h.elim fun h9 h=>h.elim fun h10 h=>h.elim fun h11 h=>h.elim fun h12 h=>k a b c d h4 h5 h6 h7 h8 h9 h10 h11 h12 h
theorem e_E5A8{A B C D E F H I J:Ta→Tb→Tc→Td→Te→Prop}(h:∃a,∃b,∃c,∃d,∃e,A a b c d e∧B a b c d e∧C a b c d e∧D a b c d e∧E a b c d e∧F a b c d e∧H a b c d e∧I a b c d e∧J a b c d e)(k:∀a,∀b,∀c,∀d,∀e,A a b c d e→B a b c d e→C a b c d e→D a b c d e→E a b c d e→F a b c d e→H a b c d e→I a b c d e→J a b c d e→G):G:=h.elim fun a h=>h.elim fun b h=>h.elim fun c h=>h.elim fun d h=>h.elim fun e h=>h.elim fun h5 h=>h.elim fun h6 h=>h.elim fun h7 h=>h.elim fun h8 h=>h.elim fun h9 h=>h.elim fun h10 h=>h.elim fun h11 h=>h.elim fun h12 h=>k a b c d e h5 h6 h7 h8 h9 h10 h11 h12 h
theorem e_E7A7{A B C D E F H I:Ta→Tb→Tc→Td→Te→Tf→Tg→Prop}(h:∃a,∃b,∃c,∃d,∃e,∃f,∃g,A a b c d e f g∧B a b c d e f g∧C a b c d e f g∧D a b c d e f g∧E a b c d e f g∧F a b c d e f g∧H a b c d e f g∧I a b c d e f g)(k:∀a,∀b,∀c,∀d,∀e,∀f,∀g,A a b c d e f g→B a b c d e f g→C a b c d e f g→D a b c d e f g→E a b c d e f g→F a b c d e f g→H a b c d e f g→I a b c d e f g→G):G:=h.elim fun a h=>h.elim fun b h=>h.elim fun c h=>h.elim fun d h=>h.elim fun e h=>h.elim fun f h=>h.elim fun g h=>h.elim fun h7 h=>h.elim fun h8 h=>h.elim fun h9 h=>h.elim fun h10 h=>h.elim fun h11 h=>h.elim fun h12 h=>h.elim fun h13 h=>k a b c d e f g h7 h8 h9 h10 h11 h12 h13 h
theorem e_E6A9{A B C D E F H I J K:Ta→Tb→Tc→Td→Te→Tf→Prop}(h:∃a,∃b,∃c,∃d,∃e,∃f,A a b c d e f∧B a b c d e f∧C a b c d e f∧D a b c d e f∧E a b c d e f∧F a b c d e f∧H a b c d e f∧I a b c d e f∧J a b c d e f∧K a b c d e f)(k:∀a,∀b,∀c,∀d,∀e,∀f,A a b c d e f→B a b c d e f→C a b c d e f→D a b c d e f→E a b c d e f→F a b c d e f→H a b c d e f→I a b c d e f→J a b c d e f→K a b c d e f→G):G:=h.elim fun a h=>h.elim fun b h=>h.elim fun c h=>h.elim fun d h=>h.elim fun e h=>h.elim fun f h=>h.elim fun h6 h=>h.elim fun h7 h=>h.elim fun h8 h=>h.elim fun h9 h=>h.elim fun h10 h=>h.elim fun h11 h=>h.elim fun h12 h=>h.elim fun h13 h=>h.elim fun h14 h=>k a b c d e f h6 h7 h8 h9 h10 h11 h12 h13 h14 h
theorem i_AEA{A:Prop}{B C:Ta→Prop}(hA:A)(a)(hB:B a)(hC:C a):A∧∃a,B a∧C a:=⟨hA,a,hB,hC⟩
theorem i_EA2{A B C:Ta→Prop}(a)(hA:A a)(hB:B a)(hC:C a):∃a,A a∧B a∧C a:=⟨a,hA,hB,hC⟩
theorem i_EAE{A:Ta→Prop}{B:Ta→Tb→Prop}(a)(hA:A a)(b)(hB:B a b):∃a,A a∧∃b,B a b:=⟨a,hA,b,hB⟩
theorem i_E2A{A B:Ta→Tb→Prop}(a)(b)(hA:A a b)(hB:B a b):∃a,∃b,A a b∧B a b:=⟨a,b,hA,hB⟩
theorem i_E3{A:Ta→Tb→Tc→Prop}(a)(b)(c)(hA:A a b c):∃a,∃b,∃c,A a b c:=⟨a,b,c,hA⟩
theorem i_AEA2{A:Prop}{B C D:Ta→Prop}(hA:A)(a)(hB:B a)(hC:C a)(hD:D a):A∧∃a,B a∧C a∧D a:=⟨hA,a,hB,hC,hD⟩
theorem i_AE2A{A:Prop}{B C:Ta→Tb→Prop}(hA:A)(a)(b)(hB:B a b)(hC:C a b):A∧∃a,∃b,B a b∧C a b:=⟨hA,a,b,hB,hC⟩
theorem i_E2A2{A B C:Ta→Tb→Prop}(a)(b)(hA:A a b)(hB:B a b)(hC:C a b):∃a,∃b,A a b∧B a b∧C a b:=⟨a,b,hA,hB,hC⟩
theorem i_E3A{A B:Ta→Tb→Tc→Prop}(a)(b)(c)(hA:A a b c)(hB:B a b c):∃a,∃b,∃c,A a b c∧B a b c:=⟨a,b,c,hA,hB⟩
theorem i_AE2A2{A:Prop}{B C D:Ta→Tb→Prop}(hA:A)(a)(b)(hB:B a b)(hC:C a b)(hD:D a b):A∧∃a,∃b,B a b∧C a b∧D a b:=⟨hA,a,b,hB,hC,hD⟩
theorem i_EA4{A B C D E:Ta→Prop}(a)(hA:A a)(hB:B a)(hC:C a)(hD:D a)(hE:E a):∃a,A a∧B a∧C a∧D a∧E a:=⟨a,hA,hB,hC,hD,hE⟩
theorem i_E3A2{A B C:Ta→Tb→Tc→Prop}(a)(b)(c)(hA:A a b c)(hB:B a b c)(hC:C a b c):∃a,∃b,∃c,A a b c∧B a b c∧C a b c:=⟨a,b,c,hA,hB,hC⟩
theorem i_EA5{A B C D E F:Ta→Prop}(a)(hA:A a)(hB:B a)(hC:C a)(hD:D a)(hE:E a)(hF:F a):∃a,A a∧B a∧C a∧D a∧E a∧F a:=⟨a,hA,hB,hC,hD,hE,hF⟩
theorem i_E3A5{A B C D E F:Ta→Tb→Tc→Prop}(a)(b)(c)(hA:A a b c)(hB:B a b c)(hC:C a b c)(hD:D a b c)(hE:E a b c)(hF:F a b c):∃a,∃b,∃c,A a b c∧B a b c∧C a b c∧D a b c∧E a b c∧F a b c:=⟨a,b,c,hA,hB,hC,hD,hE,hF⟩
theorem i_E2A6E{A B C D E F:Ta→Tb→Prop}{H:Ta→Tb→Tc→Prop}(a)(b)(hA:A a b)(hB:B a b)(hC:C a b)(hD:D a b)(hE:E a b)(hF:F a b)(c)(hH:H a b c):∃a,∃b,A a b∧B a b∧C a b∧D a b∧E a b∧F a b∧∃c,H a b c:=⟨a,b,hA,hB,hC,hD,hE,hF,c,hH⟩
theorem i_E3A6{A B C D E F H:Ta→Tb→Tc→Prop}(a)(b)(c)(hA:A a b c)(hB:B a b c)(hC:C a b c)(hD:D a b c)(hE:E a b c)(hF:F a b c)(hH:H a b c):∃a,∃b,∃c,A a b c∧B a b c∧C a b c∧D a b c∧E a b c∧F a b c∧H a b c:=⟨a,b,c,hA,hB,hC,hD,hE,hF,hH⟩
theorem i_E4A5{A B C D E F:Ta→Tb→Tc→Td→Prop}(a)(b)(c)(d)(hA:A a b c d)(hB:B a b c d)(hC:C a b c d)(hD:D a b c d)(hE:E a b c d)(hF:F a b c d):∃a,∃b,∃c,∃d,A a b c d∧B a b c d∧C a b c d∧D a b c d∧E a b c d∧F a b c d:=⟨a,b,c,d,hA,hB,hC,hD,hE,hF⟩
theorem i_EA6E2A{A B C D E F:Ta→Prop}{H I:Ta→Tb→Tc→Prop}(a)(hA:A a)(hB:B a)(hC:C a)(hD:D a)(hE:E a)(hF:F a)(b)(c)(hH:H a b c)(hI:I a b c):∃a,A a∧B a∧C a∧D a∧E a∧F a∧∃b,∃c,H a b c∧I a b c:=⟨a,hA,hB,hC,hD,hE,hF,b,c,hH,hI⟩
theorem i_EA5EA3{A B C D E:Ta→Prop}{F H I J:Ta→Tb→Prop}(a)(hA:A a)(hB:B a)(hC:C a)(hD:D a)(hE:E a)(b)(hF:F a b)(hH:H a b)(hI:I a b)(hJ:J a b):∃a,A a∧B a∧C a∧D a∧E a∧∃b,F a b∧H a b∧I a b∧J a b:=⟨a,hA,hB,hC,hD,hE,b,hF,hH,hI,hJ⟩
theorem i_E4A6{A B C D E F H:Ta→Tb→Tc→Td→Prop}(a)(b)(c)(d)(hA:A a b c d)(hB:B a b c d)(hC:C a b c d)(hD:D a b c d)(hE:E a b c d)(hF:F a b c d)(hH:H a b c d):∃a,∃b,∃c,∃d,A a b c d∧B a b c d∧C a b c d∧D a b c d∧E a b c d∧F a b c d∧H a b c d:=⟨a,b,c,d,hA,hB,hC,hD,hE,hF,hH⟩
theorem i_EA5EA4{A B C D E:Ta→Prop}{F H I J K:Ta→Tb→Prop}(a)(hA:A a)(hB:B a)(hC:C a)(hD:D a)(hE:E a)(b)(hF:F a b)(hH:H a b)(hI:I a b)(hJ:J a b)(hK:K a b):∃a,A a∧B a∧C a∧D a∧E a∧∃b,F a b∧H a b∧I a b∧J a b∧K a b:=⟨a,hA,hB,hC,hD,hE,b,hF,hH,hI,hJ,hK⟩
theorem i_E4A7{A B C D E F H I:Ta→Tb→Tc→Td→Prop}(a)(b)(c)(d)(hA:A a b c d)(hB:B a b c d)(hC:C a b c d)(hD:D a b c d)(hE:E a b c d)(hF:F a b c d)(hH:H a b c d)(hI:I a b c d):∃a,∃b,∃c,∃d,A a b c d∧B a b c d∧C a b c d∧D a b c d∧E a b c d∧F a b c d∧H a b c d∧I a b c d:=⟨a,b,c,d,hA,hB,hC,hD,hE,hF,hH,hI⟩
theorem i_E2A7E2A{A B C D E F H:Ta→Tb→Prop}{I J:Ta→Tb→Tc→Td→Prop}(a)(b)(hA:A a b)(hB:B a b)(hC:C a b)(hD:D a b)(hE:E a b)(hF:F a b)(hH:H a b)(c)(d)(hI:I a b c d)(hJ:J a b c d):∃a,∃b,A a b∧B a b∧C a b∧D a b∧E a b∧F a b∧H a b∧∃c,∃d,I a b c d∧J a b c d:=⟨a,b,hA,hB,hC,hD,hE,hF,hH,c,d,hI,hJ⟩
theorem i_E2A6EA3{A B C D E F:Ta→Tb→Prop}{H I J K:Ta→Tb→Tc→Prop}(a)(b)(hA:A a b)(hB:B a b)(hC:C a b)(hD:D a b)(hE:E a b)(hF:F a b)(c)(hH:H a b c)(hI:I a b c)(hJ:J a b c)(hK:K a b c):∃a,∃b,A a b∧B a b∧C a b∧D a b∧E a b∧F a b∧∃c,H a b c∧I a b c∧J a b c∧K a b c:=⟨a,b,hA,hB,hC,hD,hE,hF,c,hH,hI,hJ,hK⟩
theorem i_E3A6EA2{A B C D E F:Ta→Tb→Tc→Prop}{H I J:Ta→Tb→Tc→Td→Prop}(a)(b)(c)(hA:A a b c)(hB:B a b c)(hC:C a b c)(hD:D a b c)(hE:E a b c)(hF:F a b c)(d)(hH:H a b c d)(hI:I a b c d)(hJ:J a b c d):∃a,∃b,∃c,A a b c∧B a b c∧C a b c∧D a b c∧E a b c∧F a b c∧∃d,H a b c d∧I a b c d∧J a b c d:=⟨a,b,c,hA,hB,hC,hD,hE,hF,d,hH,hI,hJ⟩
theorem i_E5A7{A B C D E F H I:Ta→Tb→Tc→Td→Te→Prop}(a)(b)(c)(d)(e)(hA:A a b c d e)(hB:B a b c d e)(hC:C a b c d e)(hD:D a b c d e)(hE:E a b c d e)(hF:F a b c d e)(hH:H a b c d e)(hI:I a b c d e):∃a,∃b,∃c,∃d,∃e,A a b c d e∧B a b c d e∧C a b c d e∧D a b c d e∧E a b c d e∧F a b c d e∧H a b c d e∧I a b c d e:=⟨a,b,c,d,e,hA,hB,hC,hD,hE,hF,hH,hI⟩
theorem i_EAE3A8{A:Ta→Prop}{B C D E F H I J K:Ta→Tb→Tc→Td→Prop}(a)(hA:A a)(b)(c)(d)(hB:B a b c d)(hC:C a b c d)(hD:D a b c d)(hE:E a b c d)(hF:F a b c d)(hH:H a b c d)(hI:I a b c d)(hJ:J a b c d)(hK:K a b c d):∃a,A a∧∃b,∃c,∃d,B a b c d∧C a b c d∧D a b c d∧E a b c d∧F a b c d∧H a b c d∧I a b c d∧J a b c d∧K a b c d:=⟨a,hA,b,c,d,hB,hC,hD,hE,hF,hH,hI,hJ,hK⟩
theorem i_E5A8{A B C D E F H I J:Ta→Tb→Tc→Td→Te→Prop}(a)(b)(c)(d)(e)(hA:A a b c d e)(hB:B a b c d e)(hC:C a b c d e)(hD:D a b c d e)(hE:E a b c d e)(hF:F a b c d e)(hH:H a b c d e)(hI:I a b c d e)(hJ:J a b c d e):∃a,∃b,∃c,∃d,∃e,A a b c d e∧B a b c d e∧C a b c d e∧D a b c d e∧E a b c d e∧F a b c d e∧H a b c d e∧I a b c d e∧J a b c d e:=⟨a,b,c,d,e,hA,hB,hC,hD,hE,hF,hH,hI,hJ⟩
theorem i_EA5EA7{A B C D E:Ta→Prop}{F H I J K L M N:Ta→Tb→Prop}(a)(hA:A a)(hB:B a)(hC:C a)(hD:D a)(hE:E a)(b)(hF:F a b)(hH:H a b)(hI:I a b)(hJ:J a b)(hK:K a b)(hL:L a b)(hM:M a b)(hN:N a b):∃a,A a∧B a∧C a∧D a∧E a∧∃b,F a b∧H a b∧I a b∧J a b∧K a b∧L a b∧M a b∧N a b:=⟨a,hA,hB,hC,hD,hE,b,hF,hH,hI,hJ,hK,hL,hM,hN⟩
theorem i_EAE4A9{A:Ta→Prop}{B C D E F H I J K L:Ta→Tb→Tc→Td→Te→Prop}(a)(hA:A a)(b)(c)(d)(e)(hB:B a b c d e)(hC:C a b c d e)(hD:D a b c d e)(hE:E a b c d e)(hF:F a b c d e)(hH:H a b c d e)(hI:I a b c d e)(hJ:J a b c d e)(hK:K a b c d e)(hL:L a b c d e):∃a,A a∧∃b,∃c,∃d,∃e,B a b c d e∧C a b c d e∧D a b c d e∧E a b c d e∧F a b c d e∧H a b c d e∧I a b c d e∧J a b c d e∧K a b c d e∧L a b c d e:=⟨a,hA,b,c,d,e,hB,hC,hD,hE,hF,hH,hI,hJ,hK,hL⟩
theorem i_E8A7{A B C D E F H I:Ta→Tb→Tc→Td→Te→Tf→Tg→Ti→Prop}(a)(b)(c)(d)(e)(f)(g)(i)(hA:A a b c d e f g i)(hB:B a b c d e f g i)(hC:C a b c d e f g i)(hD:D a b c d e f g i)(hE:E a b c d e f g i)(hF:F a b c d e f g i)(hH:H a b c d e f g i)(hI:I a b c d e f g i):∃a,∃b,∃c,∃d,∃e,∃f,∃g,∃i,A a b c d e f g i∧B a b c d e f g i∧C a b c d e f g i∧D a b c d e f g i∧E a b c d e f g i∧F a b c d e f g i∧H a b c d e f g i∧I a b c d e f g i:=⟨a,b,c,d,e,f,g,i,hA,hB,hC,hD,hE,hF,hH,hI⟩
theorem i_EAE6A9{A:Ta→Prop}{B C D E F H I J K L:Ta→Tb→Tc→Td→Te→Tf→Tg→Prop}(a)(hA:A a)(b)(c)(d)(e)(f)(g)(hB:B a b c d e f g)(hC:C a b c d e f g)(hD:D a b c d e f g)(hE:E a b c d e f g)(hF:F a b c d e f g)(hH:H a b c d e f g)(hI:I a b c d e f g)(hJ:J a b c d e f g)(hK:K a b c d e f g)(hL:L a b c d e f g):∃a,A a∧∃b,∃c,∃d,∃e,∃f,∃g,B a b c d e f g∧C a b c d e f g∧D a b c d e f g∧E a b c d e f g∧F a b c d e f g∧H a b c d e f g∧I a b c d e f g∧J a b c d e f g∧K a b c d e f g∧L a b c d e f g:=⟨a,hA,b,c,d,e,f,g,hB,hC,hD,hE,hF,hH,hI,hJ,hK,hL⟩
end
end Mine

namespace Mine
section
variable (M:Model) (A:Around)
abbrev kTru (Q:Bool→Shared→Prop) (E:Value→Shared→Prop):Value→Shared→Prop:=fun c s=>wpAny M A (truthy c) Q E s
abbrev kSeq (rest:List Stmt) (env:Env) (Q:Flow→Shared→Prop) (E:Value→Shared→Prop):Flow→Shared→Prop:=fun f s=>match f with | .next=>wpAny M A (execs rest env) Q E s | f=>Q f s
abbrev kAttr (attr:Str) (Q E:Value→Shared→Prop):Value→Shared→Prop:=fun o s=>wpAny M A (getAttr o attr true) Q E s
abbrev kMe2 (pos:Pos) (args:List Expr) (env:Env) (Q E:Value→Shared→Prop):Value×List Value→Shared→Prop:=fun fx s=>wpAny M A (callWith pos fx.1 fx.2 (backTo pos (starEach args env)) []) Q E s
abbrev kMe (name:Str) (pl:Sem Bool) (pos:Pos) (args:List Expr) (env:Env) (Q E:Value→Shared→Prop):Value→Shared→Prop:=fun ov s=>wpAny M A (getMethod ov name pl) (kMe2 M A pos args env Q E) E s
abbrev kCall (pos:Pos) (args:List Expr) (env:Env) (Q E:Value→Shared→Prop):Value→Shared→Prop:=fun f s=>wpAny M A (callWith pos f [] (backTo pos (starEach args env)) []) Q E s
abbrev kCons (Q:List Value→Shared→Prop) (v:Value):List Value→Shared→Prop:=fun vs s=>Q (v::vs) s
abbrev kArg (pos:Pos) (rest:List Expr) (env:Env) (Q:List Value→Shared→Prop) (E:Value→Shared→Prop):Value→Shared→Prop:=fun v s=>wpAny M A (spliced (backTo pos (starEach rest env))) (kCons Q v) E s
abbrev kCm2 (op:CmpOp) (a:Value) (Q E:Value→Shared→Prop):Value→Shared→Prop:=fun b s=>wpAny M A (compareOp op a b) Q E s
abbrev kCm (r:Expr) (env:Env) (op:CmpOp) (Q E:Value→Shared→Prop):Value→Shared→Prop:=fun a s=>wpAny M A (eval r env) (kCm2 M A op a Q E) E s
abbrev kIf (body orelse:List Stmt) (env:Env) (Q:Flow→Shared→Prop) (E:Value→Shared→Prop):Bool→Shared→Prop:=fun b s=>if b then wpAny M A (execs body env) Q E s else wpAny M A (execs orelse env) Q E s
abbrev kNxt (Q:Flow→Shared→Prop):Unit→Shared→Prop:=fun _=>Q .next
abbrev kSto (x:Str) (env:Env) (Q:Flow→Shared→Prop) (E:Value→Shared→Prop):Value→Shared→Prop:=fun v s=>wpAny M A (storeName env x v) (kNxt Q) E s
abbrev kAny (Q:Flow→Shared→Prop):Value→Shared→Prop:=fun _=>Q .next
abbrev kRet (Q:Flow→Shared→Prop):Value→Shared→Prop:=fun v=>Q (.ret v)
abbrev kAnd (rest:List Expr) (pos:Pos) (env:Env) (whole:Sem Value) (Q:Bool→Shared→Prop) (E:Value→Shared→Prop):Bool→Shared→Prop:=fun c s=>if c then wpAny M A (isTrue (.BoolOp .And rest pos) env whole) Q E s else Q false s
abbrev kSu2 (value slice:Expr) (o:Value) (Q E:Value→Shared→Prop):Value→Shared→Prop:=fun i s=>wpAny M A (subscriptTail value slice o i) Q E s
abbrev kSu (value slice:Expr) (env:Env) (Q E:Value→Shared→Prop):Value→Shared→Prop:=fun o s=>wpAny M A (eval slice env) (kSu2 M A value slice o Q E) E s
abbrev kBi2 (op:Operator) (a:Value) (Q E:Value→Shared→Prop):Value→Shared→Prop:=fun b s=>wpAny M A (binaryOp op a b) Q E s
abbrev kBi (r:Expr) (env:Env) (op:Operator) (Q E:Value→Shared→Prop):Value→Shared→Prop:=fun a s=>wpAny M A (eval r env) (kBi2 M A op a Q E) E s
abbrev kIfe (body orelse:Expr) (env:Env) (Q E:Value→Shared→Prop):Bool→Shared→Prop:=fun c s=>if c then wpAny M A (eval body env) Q E s else wpAny M A (eval orelse env) Q E s
abbrev kTup (Q E:Value→Shared→Prop):List Value→Shared→Prop:=fun vs s=>wpAny M A (newTuple vs) Q E s
abbrev kLst (Q E:Value→Shared→Prop):List Value→Shared→Prop:=fun vs s=>wpAny M A (newList vs) Q E s
abbrev kSa2 (attr:Str) (v:Value) (Q:Flow→Shared→Prop) (E:Value→Shared→Prop):Value→Shared→Prop:=fun ov s=>wpAny M A (setAttr ov attr v) (kNxt Q) E s
abbrev kSa (o:Expr) (attr:Str) (env:Env) (Q:Flow→Shared→Prop) (E:Value→Shared→Prop):Value→Shared→Prop:=fun v s=>wpAny M A (eval o env) (kSa2 M A attr v Q E) E s
end
section
variable {M:Model} {A:Around} {env:Env} {E:Value→Shared→Prop} {s:Shared}
theorem seq_k {st rest} {Q:Flow→Shared→Prop} (h:wpAny M A (exec st env) (kSeq M A rest env Q E) E s):wpAny M A (execs (st::rest) env) Q E s:=wpAny_execs_cons (wpAny_mono h (fun f s h=>by cases f<;>exact h) fun _ _ h=>h)
theorem attr_k {x attr:Str} {xp pos:Pos} {Q:Value→Shared→Prop} (h:wpAny M A (eval (.Name x xp) env) (kAttr M A attr Q E) E s)
  (he:eval (.Attribute (.Name x xp) attr pos) env=(do
   let o ← eval (.Name x xp) env
   standAt pos.atName
   let r ← holding [o] (getAttr o attr true)
   letTemporaryGo (.Name x xp) o r
   pure r):=by with_unfolding_all rfl):wpAny M A (eval (.Attribute (.Name x xp) attr pos) env) Q E s:=Attribute_Name_ h he
theorem me_k {o:Expr} {name:Str} {apos pos:Pos} {args:List Expr} {pl:Sem Bool} {Q:Value→Shared→Prop} (h:wpAny M A (eval o env) (kMe M A name pl pos args env Q E) E s)
  (he:eval (.Call (.Attribute o name apos) args [] pos) env=(do
   let ov ← eval o env
   standAt apos.atName
   let (f,first) ← holding [ov] (getMethod ov name pl)
   callWith pos f first (backTo pos (starEach args env)) []):=by rfl):wpAny M A (eval (.Call (.Attribute o name apos) args [] pos) env) Q E s:=MethodCall_ h he
theorem call_k {func:Expr} {args:List Expr} {pos:Pos} {Q:Value→Shared→Prop} (h:wpAny M A (eval func env) (kCall M A pos args env Q E) E s)
  (he:eval (.Call func args [] pos) env=(do callWith pos (← eval func env) [] (backTo pos (starEach args env)) (backToKw pos (keywordEach [] env))):=by rfl):wpAny M A (eval (.Call func args [] pos) env) Q E s:=Call_ h he
theorem arg_k {e:Expr} {rest:List Expr} {pos:Pos} {Q:List Value→Shared→Prop} (h:wpAny M A (eval e env) (kArg M A pos rest env Q E) E s)
  (he:starEach (e::rest) env=(false,eval e env)::starEach rest env:=by rfl):wpAny M A (spliced (backTo pos (starEach (e::rest) env))) Q E s:=args_cons h he
theorem cmpt_k {l op r pos whole} {Q:Bool→Shared→Prop} (h:wpAny M A (eval l env) (kCm M A r env op (kTru M A Q E) E) E s)
  (hm:behindInMarks op r=false:=by with_unfolding_all rfl):wpAny M A (isTrue (.Compare l [op] [r] pos) env whole) Q E s:=wpAny_isTrue_Compare1 h hm
theorem cmp_k {l op r pos} {Q:Value→Shared→Prop} (h:wpAny M A (eval l env) (kCm M A r env op Q E) E s)
  (hm:behindInMarks op r=false:=by with_unfolding_all rfl):wpAny M A (eval (.Compare l [op] [r] pos) env) Q E s:=wpAny_Compare1 h hm
theorem if_k {test body orelse pos} {Q:Flow→Shared→Prop} (h:wpAny M A (isTrue test env (eval test env)) (kIf M A body orelse env Q E) E s):wpAny M A (exec (.If test body orelse pos) env) Q E s:=wpAny_If h
theorem sto_k {x pos' value pos} {Q:Flow→Shared→Prop} (h:wpAny M A (eval value env) (kSto M A x env Q E) E s)
  (hs:swapsWith value (some (.Name x pos')) pos.line env=pure false:=by rfl):wpAny M A (exec (.Assign [.Name x pos'] value pos) env) Q E s:=wpAny_Assign_Name h hs
theorem exp_k {prog:Program} {w:World} {e pos} {Q:Flow→Shared→Prop} (h:wpAny (model prog w) A (eval e env) (kAny Q) E s)
  (hi:interactive env=false:=by rfl) (hs:swapsWith e none pos.line env=pure false:=by rfl):wpAny (model prog w) A (exec (.Expr e pos) env) Q E s:=wpAny_Expr_any h hi hs
theorem ret_k {e pos} {Q:Flow→Shared→Prop} (h:wpAny M A (eval e env) (kRet Q) E s):wpAny M A (exec (.Return (some e) pos) env) Q E s:=wpAny_Return_some h
theorem and_k {x rest pos whole} {Q:Bool→Shared→Prop} (h:wpAny M A (isTrue x env (eval x env)) (kAnd M A rest pos env whole Q E) E s):wpAny M A (isTrue (.BoolOp .And (x::rest) pos) env whole) Q E s:=isTrue_and h
theorem plain_k {e:Expr} {whole:Sem Value} {Q:Bool→Shared→Prop} (h:wpAny M A whole (kTru M A Q E) E s)
  (he:isTrue e env whole=(do let v ← whole;standAt e.pos;holding [v] (truthy v)):=by rfl):wpAny M A (isTrue e env whole) Q E s:=isTrue_plain h he
theorem sub_k {value slice pos} {Q:Value→Shared→Prop} (h:wpAny M A (eval value env) (kSu M A value slice env Q E) E s):wpAny M A (eval (.Subscript value slice pos) env) Q E s:=Subscript_ h
theorem bin_k {l op r pos} {Q:Value→Shared→Prop} (h:wpAny M A (eval l env) (kBi M A r env op Q E) E s):wpAny M A (eval (.BinOp l op r pos) env) Q E s:=wpAny_BinOp h
theorem ife_k {test body orelse pos} {Q:Value→Shared→Prop} (h:wpAny M A (isTrue test env (eval test env)) (kIfe M A body orelse env Q E) E s):wpAny M A (eval (.IfExp test body orelse pos) env) Q E s:=IfExp_ h
theorem tup_k {elts:List Expr} {k:Nat} {pos:Pos} {Q:Value→Shared→Prop} (h:wpAny M A (spliced (backTo pos (starEach elts env))) (kTup M A Q E) E s):wpAny M A (eval (.Tuple elts k pos) env) Q E s:=Tuple_ h
theorem lst_k {elts:List Expr} {pos:Pos} {Q:Value→Shared→Prop} (h:wpAny M A (spliced (backTo pos (starEach elts env))) (kLst M A Q E) E s):wpAny M A (eval (.List elts pos) env) Q E s:=List_ h
theorem sa_k {o attr pos' value pos} {Q:Flow→Shared→Prop} (h:wpAny M A (eval value env) (kSa M A o attr env Q E) E s)
  (hs:swapsWith value (some (.Attribute o attr pos')) pos.line env=pure false:=by rfl):wpAny M A (exec (.Assign [.Attribute o attr pos'] value pos) env) Q E s:=plainObj_wpAny_Assign_Attribute h hs
end
noncomputable def lput (x:Str) (v:Value) (m:Str→Option Value):Str→Option Value:=fun y=>if y=x then some v else m y
theorem lput_eta {m:Str→Option Value} {x:Str} {v:Value} (h:m x=some v):lput x v m=m:=by
 funext y
 unfold lput
 by_cases e:y=x
 ·rw [if_pos e,e,h]
 ·rw [if_neg e]
theorem fr_put {h₀ h:Heap} {L:Addr} {m:Str→Option Value} {x:Str} {v:Value} (F:Fr h₀ L h m) (e:m x=some v):Fr h₀ L h (lput x v m):=(lput_eta e).symm▸F
theorem fr_on {h₀ h:Heap} {L:Addr} {m m₀:Str→Option Value} {x:Str} {v:Value} (e:m₀ x=some v) (F:Fr h₀ L h m) (k:m x=m₀ x:=by rfl):Fr h₀ L h (lput x v m):=fr_put F (k.trans e)
theorem storeX_k {M:Model} {A:Around} {E:Value→Shared→Prop} {s:Shared} {h₀:Heap} {L a:Addr} {m:Str→Option Value} {cn:Str} {cs:Scope} {ccd:Value} {cl:List (Str×Addr)} {x:Str} {v:Value} {Q:Unit→Shared→Prop} {news:List (Addr×Obj)} (F:Fr h₀ L s.heap m) (N:News h₀ L s.heap news)
  (h:∀ h',Fr h₀ L h' (lput x v m)→News h₀ L h' news→Q () { s with heap:=h',toks:=s.toks + 1 })
  (hk:cs.kind=.function:=by rfl) (hx:(envX cn cs L a ccd cl).kindOf x=some .local:=by rfl):wpAny M A (storeName (envX cn cs L a ccd cl) x v) Q E s:=storeX_L F N h hk hx
theorem ite_id {c:Prop} {i:Decidable c} {a b:Prop} (h:@ite Prop c i a b):@ite Prop c i a b:=h
abbrev kRes (Q E:Value→Shared→Prop):Result→Shared→Prop:=fun r s'=>match r with | .ok (.ret v)=>Q v s' | .ok _=>False | .error e=>E e s'
theorem call_res {M:Model} {A:Around} {f:Value} {pos:List Value} {kw:List (Str×Value)} {Q E:Value→Shared→Prop} {s:Shared} (h:codeAny M A (.call f ⟨pos,kw⟩) (kRes Q E) s):wpAny M A (call f pos kw) Q E s:=wpAny_call h
abbrev kCk (K:Frag) (M:Model) (A:Around) (f:Value) (first:List Value) (Q E:Value→Shared→Prop):List Value→Shared→Prop:=fun vs s₁=>K.In s₁.heap∧wpAny M A (call f (first++vs)) Q E s₁
abbrev kCj (K:Frag) (q g:Addr) (self:Value) (M:Model) (A:Around) (first:List Value) (Q E:Value→Shared→Prop):List Value→Shared→Prop:=fun vs s₁=>MethP K q g self s₁.heap∧wpAny M A (call (.ref q) (first++vs)) Q E s₁
theorem callK_k {M:Model} {A:Around} {E:Value→Shared→Prop} {s:Shared} {K:Frag} {env:Env} {pos:Pos} {f:Value} {first:List Value} {Q:Value→Shared→Prop} {h₀:Heap} {e:Expr} {rest:List Expr} (_X:K.In h₀) (hk:keepIn K f=true) (h:wpAny M A (spliced (backTo pos (starEach (e::rest) env))) (kCk K M A f first Q E) E s)
  (he:starEach (e::rest) env=(false,eval e env)::starEach rest env:=by rfl) (hplain:(backTo pos (starEach rest env)).any (·.1)=false:=by rfl) :
  wpAny M A (callWith pos f first (backTo pos (starEach (e::rest) env)) []) Q E s:=callWith_K _X hk h he hplain
theorem callM_k {M:Model} {A:Around} {E:Value→Shared→Prop} {s:Shared} {K:Frag} {env:Env} {pos:Pos} {first:List Value} {Q:Value→Shared→Prop} {h₀:Heap} {L:Addr} {news:List (Addr×Obj)} {q g:Addr} {self:Value} {e:Expr} {rest:List Expr} (_X:K.In h₀) (_N:News h₀ L s.heap news) (_q:(q,methodObj (.ref g) self)∈news) (hf:fnIn K g=true) (h:wpAny M A (spliced (backTo pos (starEach (e::rest) env))) (kCj K q g self M A first Q E) E s)
  (he:starEach (e::rest) env=(false,eval e env)::starEach rest env:=by rfl) (hplain:(backTo pos (starEach rest env)).any (·.1)=false:=by rfl) :
  wpAny M A (callWith pos (.ref q) first (backTo pos (starEach (e::rest) env)) []) Q E s:=callWith_M _X _N _q hf h he hplain
abbrev hst (s:Shared) (h:Heap) (t:Nat):Shared:={ s with heap:=h,toks:=t }
end Mine
namespace Mine
section
variable {prog:Program} {w:World} {A:Around} {E:Value→Shared→Prop} {s:Shared} {h₀:Heap} {L:Addr} {m:Str→Option Value} {env:Env}
theorem off1_mem {D:Addr}:∀ {l:Led},Off1 D l→∀ p∈l,p.1≠D
 | [],_,_,h=>nomatch h
 | _::_,x,p,h=>by
  rcases List.mem_cons.mp h with rfl | h
  ·exact x.1
  ·exact off1_mem x.2 p h
noncomputable def InTurn (prog:Program) (w:World) (A:Around) (h₀:Heap) (L:Addr) (m:Str→Option Value) (s:Shared) (news:Led) (x:Str) {β:Type} (t:Addr→Sem β) (its:List Value) (R:Value→β→Prop):Prop :=
 ∀ v∈its,∀ I oI C oC D ys m₂ h tk (E':Value→Shared→Prop),NsObj oC m₂→m₂ x=some v→Fr h₀ L h m→News h₀ L h ((I,oI)::(C,oC)::(D,lst ys)::news) →
  wpAny (model prog w) A (t C) (fun r s'=>R v r∧∃ h' tk',s'={ s with heap:=h',toks:=tk' }∧Fr h₀ L h' m∧News h₀ L h' ((I,oI)::(C,oC)::(D,lst ys)::news)) E' { s with heap:=h,toks:=tk }
theorem compRestT_pure {ct elt:Expr} {x:Str} {scope:Scope} {cl:List (Str×Addr)} {ax:Addr} {its:List Value} {k₀:Nat} {news:Led} {pz:Value→Bool} {f:Value→Value} {Fin:List Value→Led→Prop}
  (hm:(ax,listOf its.toArray k₀)∈news)
  (ht:InTurn prog w A h₀ L m s news x (fun C=>isTrue ct (compEnvC scope cl C env) (eval ct (compEnvC scope cl C env))) its (fun v ok=>ok=pz v))
  (he:InTurn prog w A h₀ L m s news x (fun C=>eval elt (compEnvC scope cl C env)) its (fun v y=>y=f v)) (g:Heap) :
  ∀ (k i:Nat) (ys:List Value),i + k=its.length→Fin (ys++((its.drop i).filter pz).map f) news →
   CompRestT prog w A h₀ L m env ct elt x scope cl { s with heap:=g } (SrcAt h₀ ax its.toArray) (fun i v=>its.toArray[i]?=some v) Fin k i ys news
 | 0,i,ys,hi,hF=>by
  refine CompRestT.zero ?_
  rw [List.drop_of_length_le (by omega)] at hF
  simpa using hF
 | k + 1,i,ys,hi,hF=>by
  refine CompRestT.succ fun v I oI C oC D m₂ h tk E' hP hns hx F N off hne=>?_
  have hv:its[i]?=some v:=by simpa using hP
  have hmem:v∈its:=List.mem_of_getElem? hv
  have hS:SrcAt h₀ ax its.toArray news:=.inr ⟨_,hm,rfl,_,rfl⟩
  have hd:its.drop i=v::its.drop (i + 1):=by
   obtain ⟨hlt,e⟩:=List.getElem?_eq_some_iff.mp hv
   (refine rwl (List.drop_eq_getElem_cons hlt ..) ?_;refine rwl (e ..) ?_;with_reducible rfl)
  rw [hd] at hF
  refine wpAny_mono (ht v hmem I oI C oC D ys m₂ h tk E' hns hx F N) (fun ok s' r=>?_) fun _ _ e=>e
  (refine e_AE2A2 (r) ?_;clear r;intro e9_0 h' tk' e9_3 F' N';subst e9_0;subst e9_3)
  by_cases hp:pz v=true
  ·refine rwl (if_pos hp ..) ?_
   rw [List.filter_cons_of_pos hp,List.map_cons] at hF
   refine wpAny_mono (he v hmem I oI C oC D ys m₂ h' tk' E' hns hx F' N') (fun y s'' r=>?_) fun _ _ e=>e
   (refine e_AE2A2 (r) ?_;clear r;intro e9_0 h'' tk'' e9_3 F'' N'';subst e9_0;subst e9_3)
   exact i_E3A5 h'' tk'' news rfl F'' N'' off hS (compRestT_pure hm ht he g k (i + 1) _ (ar_succ (by assumption)) (by simpa using hF))
  ·refine rwl (if_neg hp ..) ?_
   rw [List.filter_cons_of_neg hp] at hF
   exact i_E3A5 h' tk' news rfl F' N' off hS (compRestT_pure hm ht he g k (i + 1) _ (ar_succ (by assumption)) hF)

theorem comp_test {ct elt iter:Expr} {x:Str} {px:Pos} {scope:Scope} {cl:List (Str×Addr)} {pos:Pos} {Q:Value→Shared→Prop} (pz:Value→Bool) (f:Value→Value) (F₀:Fr h₀ L s.heap m) (hh:A.handled=none)
  (h:wpAny (model prog w) A (eval iter env) (fun xv s₁=>∃ ax its k₀ news,xv=.ref ax∧Fr h₀ L s₁.heap m∧News h₀ L s₁.heap news∧(ax,listOf its.toArray k₀)∈news∧its.length≤1000 ∧
   InTurn prog w A h₀ L m s₁ news x (fun C=>isTrue ct (compEnvC scope cl C env) (eval ct (compEnvC scope cl C env))) its (fun v ok=>ok=pz v) ∧
   InTurn prog w A h₀ L m s₁ news x (fun C=>eval elt (compEnvC scope cl C env)) its (fun v y=>y=f v) ∧
   ∀ D h tk,Fr h₀ L h m→News h₀ L h ((D,lst ((its.filter pz).map f))::news)→(∀ p∈news,p.1≠D)→Q (.ref D) { s₁ with heap:=h,toks:=tk }) E s)
  (hclos:closureFor scope env=pure cl) (hcell:∀ y∈scope.names,y.2≠.cell) (hkind:scope.kind=.function)
  (hnames:∀ y∈scope.names,y.2=.local→scope.names.lookup y.1=some .local) (hx:scope.names.lookup x=some .local)
  (hs:∀ x,foldedSetIterable iter env x=pure x) :
  wpAny (model prog w) A (eval (.ListComp elt [⟨.Name x px,iter,[ct],0⟩] scope pos) env) Q E s:=by
 refine ListComp_T F₀ hclos hcell hkind hnames hx (wpAny_mono h (fun xv s₁ r=>?_) fun _ _ e=>e) hs
 (refine e_E4A7 (r) ?_;clear r;intro ax its k₀ news e9_4 F N hm hl ht he fin;subst e9_4)
 refine CompSrcT.ledger hh F N hm (by (refine rwl (List.size_toArray ..) ?_;refine rwl (sizeLine_eq ..) ?_);omega) fun g=>?_
 have z:=compRestT_pure (Fin:=FinE h₀ L m { s₁ with heap:=g } Q) hm ht he g its.length 0 [] (by omega) (by
  intro D h tk F' N' o
  rw [List.drop_zero,List.nil_append] at N'
  exact fin D h tk F' N' (off1_mem o))
 refine rwl (List.size_toArray ..) ?_
 exact z
end
section
variable {M:Model} {A:Around} {E:Value→Shared→Prop} {s:Shared} {Q:Value→Shared→Prop} {x y:Addr} {ox oy:Obj}
theorem isnot_refs (hx:s.heap.get? x=some ox) (hy:s.heap.get? y=some oy) (hnt:ox.cls≠.type "tuple") (h:Q (.bool (x != y)) s):wpAny M A (compareOp .IsNot (.ref x) (.ref y)) Q E s:=by
 by_cases e:x=y
 ·subst e
  exact wpAny_isNot_ref_self (by simpa using h)
 ·exact wpAny_isNot_ref_other e hx hy hnt (by rw [show (x != y)=true by simpa using e] at h;exact h)
theorem is_refs (hx:s.heap.get? x=some ox) (hy:s.heap.get? y=some oy) (hnt:ox.cls≠.type "tuple") (h:Q (.bool (x == y)) s):wpAny M A (compareOp .Is (.ref x) (.ref y)) Q E s:=by
 by_cases e:x=y
 ·subst e
  exact wpAny_is_ref_self (by simpa using h)
 ·exact wpAny_is_ref_other e hx hy hnt (by rw [show (x == y)=false by simpa using e] at h;exact h)
end
section
variable {prog:Program} {w:World} {A:Around} {E:Value→Shared→Prop} {s:Shared} {h₀:Heap} {L:Addr} {m:Str→Option Value} {news:Led}
theorem add_lists2 {l b:Addr} {vs ws:List Value} {k k':Nat} {Q:Value→Shared→Prop} (F:Fr h₀ L s.heap m) (N:News h₀ L s.heap news) (hl:(l,listOf vs.toArray k)∈news) (hb:(b,listOf ws.toArray k')∈news)
  (hsz:vs.length + ws.length≤2000)
  (h:∀ q h',Fr h₀ L h' m→News h₀ L h' ((q,listOf (vs++ws).toArray 0)::news)→(∀ p∈news,p.1 < q)→Q (.ref q) { s with heap:=h' }) :
  wpAny (model prog w) A (binaryOp .Add (.ref l) (.ref b)) Q E s :=
 add_lists F N (News.isList N hl) (News.isList N hb) (fun h' F' N'=>h _ h' F' N' fun p hp=>Heap.lt_size (N p hp).1) (by refine rwl (sizeLine_eq ..) ?_;omega)
end
noncomputable abbrev refsO (l:List Addr) (k:Nat):Obj:=listOf (l.map Value.ref).toArray k
theorem bne_ref (b u:Addr):(b != u)=(Value.ref b != Value.ref u):=by
 by_cases h:b=u
 ·subst h;simp
 ·have h2:Value.ref b≠Value.ref u:=fun q=>h (Value.ref.inj q)
  simp [bne_iff_ne.mpr h,bne_iff_ne.mpr h2]
theorem filter_refs (u:Addr) (l:List Addr):((l.map Value.ref).filter fun v=>v != Value.ref u)=(l.filter fun b=>b != u).map Value.ref:=by
 induction l with
 | nil=>rfl
 | cons b r ih =>
  have e:(Value.ref b != Value.ref u)=(b != u):=by
   by_cases h:b=u
   ·subst h;simp
   ·have h2:Value.ref b≠Value.ref u:=fun q=>h (Value.ref.inj q)
    simp [bne_iff_ne.mpr h,bne_iff_ne.mpr h2]
  (refine rwl (List.map_cons ..) ?_;refine rwl (List.filter_cons ..) ?_;refine rwl (List.filter_cons ..) ?_;refine rwl (e ..) ?_;refine rwl (ih ..) ?_)
  split<;>rfl
theorem get_of_news {h₀ h:Heap} {L a:Addr} {o:Obj} {l:Led} (N:News h₀ L h l) (m:(a,o)∈l):h.get? a=some o:=(N _ m).1
theorem lt_of_mem {l:Led} {q a:Addr} {o:Obj} (h:∀ p∈l,p.1 < q) (m:(a,o)∈l):@LT.lt Nat _ a q:=h _ m
theorem ne_ld:Value.type "list"≠Value.type "dict":=by decide
theorem ne_rt {a:Addr} {t:String}:Value.ref a≠Value.type t:=by nofun
noncomputable def InstsIn (C:Addr) (l:List Addr) (news:Led):Prop:=∀ b∈l,∃ d,(b,instObj C d)∈news
theorem allLt_mem {q:Nat}:∀ {l:Led},AllLt q l→∀ p∈l,p.1 < q
 | [],_,_,h=>nomatch h
 | _::_,x,p,h=>by
  rcases List.mem_cons.mp h with rfl | h
  ·exact x.1
  ·exact allLt_mem x.2 p h
end Mine
namespace Mine
section
variable {prog:Program} {w:World} {A:Around} {E:Value→Shared→Prop} {s:Shared} {h₀:Heap} {L c P:Addr} {m mg:Str→Option Value} {bm:Addr} {ob:Obj} {env:Env}
theorem gen_code {ps:Array Value} {pos:Pos} {qualname:Str} {scope:Scope} {Q:Value→Shared→Prop} {news:Led} (F:Fr h₀ L s.heap m) (N:News h₀ L s.heap news) (hcode:env.code=.ref c) (C:CodeHd h₀ c P) (hP:(P,tabObj ps)∈news) (ht:TriplesOk ps.toList)
  (h:∀ code' h' tk ps',Fr h₀ L h' m→News h₀ L h' (upd P (tabObj ps') news)→TriplesOk ps'.toList→Heap.ExtBut P s.heap h'→s.heap.objs.size≤h'.objs.size→Q code' { s with heap:=h',toks:=tk }) :
  wpAny (model prog w) A (genexprCode env pos qualname scope) Q E s:=by
 have hPg:=(N _ hP).1
 have C':=C.keeps F.keep
 have hcd:=C'.code hPg ht
 cases hf:codeAmong pos ps.toList with
 | some c' =>
  refine wpAny_genexprCode_hit hcode hcd hf ?_
  exact h c' s.heap s.toks ps F (news_updOf N hP) ht (fun _ _ _ e=>e) (Nat.le_refl _)
 | none =>
  refine wpAny_genexprCodeX hcode hcd (C'.tab hPg) hf fun c' h' tk hx hge hlt hc3 _ htab _=>?_
  have htr:TriplesOk (ps++#[rawInt pos.line,rawInt pos.col,.ref c']).toList:=by
   (obtain ⟨o,vs,file,tf,flags,tg,inF,text,tt,op,_,_,_,_,_,_,_,hop,hpd,htr,hne⟩:=hc3)
   exact htr
  have hPn:=(N _ hP).2
  refine h (.ref c') h' tk _ ⟨?_,fun b o e=>hx b o (fun q=>by rw [q,hPn.2] at e;cases e) (F.keep b o e),F.above⟩ ?_ htr hx (Nat.le_trans hge (Nat.le_of_lt hlt))
  ·exact F.ns.at' fun o e=>hx L o (Ne.symm hPn.1) e
  ·intro p hp
   rcases of_mem_upd hp with rfl | ⟨hp,hn⟩
   ·exact ⟨htab.2,hPn⟩
   ·exact ⟨hx _ _ hn (N p hp).1,(N p hp).2⟩

theorem passing_true (n:Nat):passing (fun _=>true) n 0=List.range n:=by
 simp [passing]
theorem gen_refs {elt iter:Expr} {x:Str} {px:Pos} {scope:Scope} {cl:List (Str×Addr)} {pos:Pos} {Q:Value→Shared→Prop} (q:Addr→Bool) (F₀:Fr h₀ L s.heap m)
  (hh:A.handled=none) (M:BMod h₀ env.globals mg bm ob) (hlim:h₀.NoLimit) (hcode:env.code=.ref c) (C:CodeHd h₀ c P) (hroom:A.depth < recursionLimit)
  (h:wpAny (model prog w) A (eval iter env) (fun xv s₁=>∃ l its k news ps,xv=.ref l∧Fr h₀ L s₁.heap m∧News h₀ L s₁.heap news∧(l,refsO its k)∈news∧AllBare s₁.gens∧(P,tabObj ps)∈news∧TriplesOk ps.toList ∧
   (∀ (code':Value) (C:Addr) (A':Around) E' (b:Addr) (t:Shared) m₂,A'.handled=none→A'.depth≤A.depth + 1→A'.units≤A.units + 8→b∈its→t.heap.Ns C m₂→m₂ x=some (.ref b)→(∀ b o,b≠P→s₁.heap.get? b=some o→t.heap.get? b=some o) →
    wpAny (model prog w) A' (eval elt (genEnv scope cl C code' builtinsNs env)) (fun v s₃=>v=.bool (q b)∧Keeps t s₃) E' t) ∧
   (∀ a s₅ K ps',Fr h₀ L s₅.heap m→News h₀ L s₅.heap (upd P (tabObj ps') news)→TriplesOk ps'.toList→AllBare s₅.gens→s₅.os=s₁.os→L≤K→(∀ p∈news,p.1≤K) →
    Gen prog w A K a its.length (fun j v=>∃ b,its[j]?=some b∧v=.bool (q b)) s₅→Q (.ref a) s₅)) E s)
  (hclos:closureFor scope env=pure cl) (hcell:∀ y∈scope.names,y.2≠.cell) (h0:scope.names.lookup (".0":Str)=some NameKind.local)
  (hx:scope.names.lookup x=some .local) (hkind:scope.kind=.function) (hco:scope.isCoroutine=false)
  (hs:∀ x,genFold iter env x=pure x) :
  wpAny (model prog w) A (eval (.GeneratorExp elt [⟨.Name x px,iter,[],0⟩] scope pos) env) Q E s:=by
 refine wpAny_GeneratorExp_walksQD hh hco hclos hcell h0 hx hkind hroom (wpAny_mono h (fun xv s₁ r=>?_) fun _ _ e=>e) hs
 (refine e_E5A8 (r) ?_;clear r;intro l its k news ps e9_5 F₁ N₁ hl G₁ hP ht hq fin;subst e9_5)
 have hlst:s₁.heap.IsList l (its.map Value.ref).toArray:=News.isList N₁ hl
 have hlt:l < s₁.heap.objs.size:=Heap.lt_size (N₁ _ hl).1
 have hPlt:P < s₁.heap.objs.size:=Heap.lt_size (N₁ _ hP).1
 refine wpAny_pyIter_list hlst ?_
 have up:∀ b o,s₁.heap.get? b=some o→(s₁.heap.push { cls:=.type "list_iterator",data:=.fields #[.ref l,.int 0 0] }).get? b=some o:=fun b o e=>Heap.get?_push_of_some _ e
 have F₂:=F₁.keeps up
 have N₂:News h₀ L _ news:=N₁.grown up
 refine ⟨(hlim.keeps F₁.keep).push _,gen_code (s:={ s₁ with heap:=_ }) F₂ N₂ hcode C hP ht fun code' h₃ tk ps' F₃ N₃ ht' hx₃ hsz=>?_⟩
 have M₃:=M.keeps F₃.keep
 refine wpAny_builtinsFor M₃.ns M₃.name M₃.ne M₃.obj M₃.cls M₃.dict M₃.data ?_
 have hlP:l≠P:=fun e=>by
  have:=news_fun N₁ hl (e▸hP)
  exact absurd (congrArg Obj.cls this) (by nofun)
 have hIP:s₁.heap.objs.size≠P:=Nat.ne_of_gt hPlt
 rw [Heap.size_push] at hsz
 have hIlt:s₁.heap.objs.size < h₃.objs.size:=hsz
 have old:∀ b o,b≠P→s₁.heap.get? b=some o→h₃.get? b=some o:=fun b o hb e=>hx₃ b o hb (up b o e)
 have hlim₃:h₃.NoLimit:=hlim.keeps F₃.keep
 have hLlt:=F₁.ns.lt
 have hcs:cStatics < s₁.heap.objs.size:=by
  (refine e_EA (hlim.keeps F₁.keep) ?_;intro _ hn _)
  exact hn.lt
 refine i_E8A7 s₁.heap.objs.size ([s₁.heap.objs.size,l]) ([s₁.heap.objs.size]) ((its.map Value.ref).toArray.size) _ _ (fun _=>true) (fun i v=>∃ b,its[i]?=some b∧v=.bool (q b)) rfl (fun A' hA=>Walks.list hA _ _ (Nat.ne_of_lt hlt) _) ?_ ?_ hlim₃ ?_ ?_ ?_
 ·refine ⟨⟨_,hx₃ _ _ hIP (Heap.get?_push_size _ rfl),rfl,rfl⟩,?_⟩
  (refine e_EA (hlst) ?_;clear hlst;intro o e r)
  exact ⟨o,old _ _ hlP e,r⟩
 ·intro b hb
  rcases List.mem_cons.mp hb with rfl | hb
  ·exact hIlt
  ·refine rwl (List.mem_singleton.mp hb ..) ?_;exact Nat.lt_trans hlt hIlt
 ·intro hm
  rw [List.mem_singleton.mp hm] at hcs
  exact Nat.lt_irrefl _ hcs
 ·intro href hhref
  refine ⟨fun A' E' i v t m₂ hA hD hU hv hn hm hkp=>?_,fun A' E' i v t m₂ hA hD hU hv _ hn hm hkp=>?_⟩
  ·exact wpAny_pure ⟨rfl,_,_,rfl,fun _ _ e=>e⟩
  ·have hv':(its.map Value.ref)[i]?=some v:=by simpa using hv
   rw [List.getElem?_map] at hv'
   (refine e_EA (Option.map_eq_some_iff.mp hv') ?_;intro b hb e9_2;subst e9_2)
   refine wpAny_mono (hq code' _ A' E' b t m₂ hA hD hU (List.mem_of_getElem? hb) hn hm fun b o hbP e=>?_) (fun v s₃ r=>⟨⟨b,hb,r.1⟩,r.2⟩) fun _ _ e=>e
   refine hkp b (List.mem_range.mpr (Heap.lt_size (old b o hbP e))) (fun hm=>?_) o (hhref b o (old b o hbP e))
   rw [List.mem_singleton.mp hm] at e
   exact Nat.lt_irrefl _ (Heap.lt_size e)
 ·intro a h₅ tk₅ gs hgb hag hsz₅ hk₅ W hat
  have hpos:0 < s₁.heap.objs.size:=Nat.lt_of_le_of_lt (Nat.zero_le _) hlt
  have hlast:∀ b,b < s₁.heap.objs.size→b≤s₁.heap.objs.size - 1:=fun b hb=>Nat.le_sub_one_of_lt hb
  refine fin a _ (s₁.heap.objs.size - 1) ps' (F₃.keeps hk₅) (N₃.grown hk₅) ht' (G₁.push hgb) rfl (hlast _ hLlt) (fun p hp=>hlast _ (Heap.lt_size (N₁ p hp).1)) ?_
  rw [passing_true,List.length_range] at W
  have hlen:(its.map Value.ref).toArray.size=its.length:=by simp
  rw [hlen] at W hat
  refine i_E4A5 _ _ _ _ (W.imp fun j y hy=>?_) ?_ (fun i s' st=>st.1.typeIs) List.mem_cons_self ?_ ?_
  ·(refine e_EAEA (hy) ?_;clear hy;intro i hi b hb e9_4;subst e9_4)
   have hi':=List.getElem?_eq_some_iff.mp hi
   obtain ⟨_,e⟩:=hi'
   simp only [List.getElem_range] at e
   subst e
   exact ⟨b,hb,rfl⟩
  ·exact hat
  ·intro b hb
   show b < h₅.objs.size
   refine rwl (hsz₅ ..) ?_
   rcases List.mem_cons.mp hb with rfl | hb
   ·exact Nat.lt_succ_self _
   ·rcases List.mem_cons.mp hb with rfl | hb
    ·exact Nat.lt_succ_of_lt hag
    ·exact Nat.lt_succ_of_lt (Nat.lt_trans (List.mem_range.mp hb) hag)
  ·intro b hb
   have hI:s₁.heap.objs.size - 1 < s₁.heap.objs.size:=Nat.sub_lt hpos Nat.one_pos
   rcases List.mem_cons.mp hb with rfl | hb
   ·exact Nat.lt_trans hI hIlt
   ·refine rwl (List.mem_singleton.mp hb ..) ?_;exact hI
end
end Mine
namespace Mine
noncomputable def Cl (s s':Shared):Prop:=s'.os=s.os∧(AllBare s.gens→AllBare s'.gens)
noncomputable def Only (s s':Shared):Prop:=∃ h t,s'={ s with heap:=h,toks:=t }
theorem Only.refl (s:Shared):Only s s:=⟨_,_,rfl⟩
theorem Only.heap {s s':Shared} {h:Heap} {t:Nat} (x:Only s s'):Only s { s' with heap:=h,toks:=t }:=by (refine e_E2 (x) ?_;clear x;intro _ _ e9_2;subst e9_2);exact ⟨_,_,rfl⟩
noncomputable def Closed (G:Shared→Prop):Prop:=∀ (s:Shared) (h:Heap) (t:Nat),G s→G { s with heap:=h,toks:=t }
theorem Only.closed (s:Shared):Closed (Only s):=fun _ _ _ x=>x.heap
theorem Cl.refl (s:Shared):Cl s s:=⟨rfl,id⟩
theorem Cl.heap {s:Shared} {h:Heap} {t:Nat}:Cl s { s with heap:=h,toks:=t }:=⟨rfl,id⟩
theorem Cl.closed (s:Shared):Closed (Cl s):=fun _ _ _ x=>⟨x.1,x.2⟩
theorem Cl.heapR {s s':Shared} {h:Heap} {t:Nat} (x:Cl s s'):Cl s { s' with heap:=h,toks:=t }:=⟨x.1,x.2⟩
section
variable {prog:Program} {w:World} {A:Around} {E:Value→Shared→Prop} {s:Shared} {h₀:Heap} {L:Addr} {m:Str→Option Value} {env:Env}
noncomputable def ForStep (h₀:Heap) (L:Addr) (S:Led→Prop) (J:Nat→(Str→Option Value)→Led→Prop) (G:Shared→Prop) (Q:Flow→Shared→Prop) (I:Addr) (oI:Obj) (i:Nat) (f:Flow) (s₂:Shared):Prop:=match f with
 | .ret v=>Q (.ret v) s₂
 | .brk=>Q .next s₂
 | _=>∃ m' news',G s₂∧Fr h₀ L s₂.heap m'∧News h₀ L s₂.heap ((I,oI)::news')∧(∀ p∈news',p.1≠I)∧S news'∧J (i + 1) m' news'
theorem forLoop_gen {R:Result→Shared→Prop} {x:Str} {px:Pos} {body:List Stmt} {I:Addr} {fp:List Addr} {n:Nat} {P:Nat→Value→Prop} {St:Nat→Heap→Prop} {S:Led→Prop} {news:Led} {G:Shared→Prop} (hG:Closed G) (hGs:G s)
  (W:Walks prog w A I fp [I] n P St) (hIo:∀ i h,St i h→∃ o,h.get? I=some o)
  (hSt:∀ i h h' o nw,St i h→h.get? I=some o→h'.get? I=some o→(∀ b o,h₀.get? b=some o→h'.get? b=some o)→News h₀ env.locals h' nw→S nw→St i h')
  (hx:env.kindOf x=some .local) (hp:(env.scope.kind == .class || (env.scope.kind == .module && env.locals != env.globals))=false)
  (hIL:env.locals≠I) (hI₀:h₀.get? I=none) (hst:St 0 s.heap) (F:Fr h₀ env.locals s.heap m) (N:News h₀ env.locals s.heap news) (off:∀ p∈news,p.1≠I) (hS:S news)
  (J:Nat→(Str→Option Value)→Led→Prop) (h0:J 0 m news) (Qx:Flow→Shared→Prop) (hQx:∀ f s',Qx f s'→R (.ok f) s')
  (step:∀ i v m₁ news₁ s₁ oI,G s₁→i < n→P i v→J i m₁ news₁→S news₁→(∀ p∈news₁,p.1≠I)→Fr h₀ env.locals s₁.heap (fun y=>if y=x then some v else m₁ y)→News h₀ env.locals s₁.heap ((I,oI)::news₁) →
   wpAny (model prog w) A (execs body env) (ForStep h₀ env.locals S J G Qx I oI i) (notedBy (model prog w) A env fun e s'=>R (.error e) s') s₁)
  (hR:∀ s' m' news',G s'→Fr h₀ env.locals s'.heap m'→News h₀ env.locals s'.heap news'→J n m' news'→R (.ok .next) s') :
  codeAny (model prog w) A (.forLoop (.Name x px) (.ref I) body [] env) R s:=by
 have old:∀ b o,h₀.get? b=some o→b≠I:=fun b o e q=>by rw [q,hI₀] at e;cases e
 refine codeAny_forLoop
  (fun k s'=>∃ m' news' i,G s'∧St i s'.heap∧Fr h₀ env.locals s'.heap m'∧News h₀ env.locals s'.heap news'∧(∀ p∈news',p.1≠I)∧S news'∧J i m' news'∧i≤n∧k=n + 1 - i) ?_ (n + 1)
  ⟨m,news,0,hGs,hst,F,N,off,hS,h0,Nat.zero_le _,rfl⟩
 intro k s' e8_2;(refine e_E3A8 (e8_2) ?_;clear e8_2;intro m' news' i hcl hst' F' N' hnw' hS' hJ hi e9_11;subst e9_11)
 have next:∀ h₁:Heap,(∀ b o,b ∉ [I]→s'.heap.get? b=some o→h₁.get? b=some o)→Fr h₀ env.locals h₁ m'∧News h₀ env.locals h₁ news':=fun h₁ hk₁ =>
  ⟨⟨F'.ns.at' fun o e=>hk₁ _ o (by simpa using hIL) e,fun b o e=>hk₁ b o (by simpa using old b o e) (F'.keep b o e),F'.above⟩,fun p hp=>⟨hk₁ _ _ (by simpa using hnw' p hp) (N' p hp).1,(N' p hp).2⟩⟩
 by_cases hlt:i < n
 ·refine W.item i _ _ _ hlt hst' fun v h₁ tk₁ hP hst₁ hk₁=>?_
  (refine e_A (next h₁ hk₁) ?_;intro F₁ N₁)
  refine wpAny_assign_Name (wpAny_storeName_local hx F₁.ns (fun h₂ hn₂ hs₂=>?_) hp)
  have F₂:=F₁.set hn₂ hs₂
  have N₂:=N₁.set hs₂
  (refine e_E (hIo _ _ hst₁) ?_;intro oI heI)
  have heI₂:h₂.get? I=some oI:=(hs₂.2 I (Ne.symm hIL)).trans heI
  have N₃:News h₀ env.locals h₂ ((I,oI)::news'):=fun p hp=>by
   rcases List.mem_cons.mp hp with rfl | hp
   ·exact ⟨heI₂,Ne.symm hIL,hI₀⟩
   ·exact N₂ p hp
  refine wpAny_mono (step i v m' news' { s' with heap:=h₂,toks:=tk₁ + 1 } oI (hG _ _ _ hcl) hlt hP hJ hS' hnw' F₂ N₃) (fun f s₃ h₃=>?_) fun _ _ e=>e
  have fin:(∃ m' news',G s₃∧Fr h₀ env.locals s₃.heap m'∧News h₀ env.locals s₃.heap ((I,oI)::news')∧(∀ p∈news',p.1≠I)∧S news'∧J (i + 1) m' news') →
    ∃ k' ,k' < n + 1 - i∧∃ m' news' i',G s₃∧St i' s₃.heap∧Fr h₀ env.locals s₃.heap m'∧News h₀ env.locals s₃.heap news'∧(∀ p∈news',p.1≠I)∧S news'∧J i' m' news'∧i'≤n∧k'=n + 1 - i':=by
   intro e8_0;(refine e_E2A5 (e8_0) ?_;clear e8_0;intro m₂ news₂ c₂ F₃ N₃ off₂ hS₂ hJ₂)
   have N₄:News h₀ env.locals s₃.heap news₂:=fun p hp=>N₃ p (.tail _ hp)
   refine i_EAE3A8 (n + 1 - (i + 1)) (ar_dec (by assumption)) m₂ news₂ (i + 1) c₂ ?_ F₃ N₄ off₂ hS₂ hJ₂ hlt rfl
   exact hSt _ _ _ oI news₂ hst₁ heI (N₃ _ (.head _)).1 F₃.keep N₄ hS₂
  cases f with
  | ret v=>exact hQx _ _ h₃
  | brk=>exact hQx _ _ h₃
  | cont=>exact fin h₃
  | next=>exact fin h₃
 ·have hin:i=n:=ar_end (by assumption) (by assumption)
  subst hin
  refine W.done _ _ _ hst' fun h₁ tk₁ hk₁=>wpAny_execs_nil ?_
  (refine e_A (next h₁ hk₁) ?_;intro F₁ N₁)
  exact hR _ m' news' (hG _ _ _ hcl) F₁ N₁ hJ
def ForAt (prog:Program) (w:World) (A:Around) (h₀:Heap) (env:Env) (x:Str) (body:List Stmt) (Q:Flow→Shared→Prop) (E:Value→Shared→Prop) (it:Value) (s₂:Shared):Prop:=∀ Zp:Prop,(∀ (J:Nat→(Str→Option Value)→Led→Prop) (G:Shared→Prop) (I:Addr) (fp:List Addr) (n:Nat) (P:Nat→Value→Prop) (St:Nat→Heap→Prop) (S:Led→Prop) (m:Str→Option Value) (news:Led),(Closed G)→(it=.ref I)→(G s₂)→(Walks prog w A I fp [I] n P St)→((∀ i h,St i h→∃ o,h.get? I=some o))→((∀ i h h' o nw,St i h→h.get? I=some o→h'.get? I=some o→(∀ b o,h₀.get? b=some o→h'.get? b=some o)→News h₀ env.locals h' nw→S nw→St i h'))→(env.locals≠I)→(h₀.get? I=none)→(St 0 s₂.heap)→(Fr h₀ env.locals s₂.heap m)→(News h₀ env.locals s₂.heap news)→((∀ p∈news,p.1≠I))→(S news)→(J 0 m news)→((∀ i v m₁ news₁ s₁ oI,G s₁→i < n→P i v→J i m₁ news₁→S news₁→(∀ p∈news₁,p.1≠I)→Fr h₀ env.locals s₁.heap (fun y=>if y=x then some v else m₁ y)→News h₀ env.locals s₁.heap ((I,oI)::news₁)→wpAny (model prog w) A (execs body env) (ForStep h₀ env.locals S J G Q I oI i) E s₁))→(∀ s' m' news',G s'→Fr h₀ env.locals s'.heap m'→News h₀ env.locals s'.heap news'→J n m' news'→Q .next s')→Zp)→Zp
theorem for_at {Q:Flow→Shared→Prop} {x:Str} {px pos:Pos} {iter:Expr} {body:List Stmt} (h₀:Heap)
  (h:wpAny (model prog w) A (eval iter env) (fun xv s₁=>wpAny (model prog w) A (pyIter xv) (fun it s₂=>ForAt prog w A h₀ env x body Q E it s₂) E s₁) E s)
  (hx:env.kindOf x=some .local) (hp:(env.scope.kind == .class || (env.scope.kind == .module && env.locals != env.globals))=false)
  (hs:∀ x,foldedSetIterable iter env x=pure x)
  (hE:PassesOwn (model prog w) A env E) :
  wpAny (model prog w) A (exec (.For (.Name x px) iter body [] pos) env) Q E s:=by
 refine wpAny_For (wpAny_mono h (fun xv s₁ h₁=>wpAny_mono h₁ (fun it s₂ h₂=>?_) fun _ _ e=>e) fun _ _ e=>e) hs
 (refine h₂ _ ?_;clear h₂;intro J G I fp n P St S m news hG e9_11 hGs W hIo hSt hIL hI₀ hst F N off hS h0 step hQ;subst e9_11)
 refine forLoop_gen (R:=fun r s'=>match r with | .ok f=>Q f s' | .error e=>cameBackBy (model prog w) A env E e s') hG hGs W hIo hSt hx hp hIL hI₀ hst F N off hS J h0 Q (fun f s' q=>q) (by intros;exact wpAny_passesOwn hE (by apply step<;>assumption)) hQ

def ForList (prog:Program) (w:World) (A:Around) (h₀:Heap) (env:Env) (x:Str) (body:List Stmt) (Q:Flow→Shared→Prop) (E:Value→Shared→Prop) (xv:Value) (s₁:Shared):Prop:=∀ Zp:Prop,(∀ (J:Nat→(Str→Option Value)→Led→Prop) (G:Shared→Prop) (ax:Addr) (its:List Value) (k:Nat) (m₀:Str→Option Value) (news₀:Led),(Closed G)→(xv=.ref ax)→(G s₁)→(A.handled=none)→(Fr h₀ env.locals s₁.heap m₀)→(News h₀ env.locals s₁.heap news₀)→((ax,listOf its.toArray k)∈news₀)→(J 0 m₀ news₀)→((∀ i v m₁ news₁ s₂ I oI,G s₂→its[i]?=some v→J i m₁ news₁→(ax,listOf its.toArray k)∈news₁→(∀ p∈news₁,p.1≠I)→Fr h₀ env.locals s₂.heap (fun y=>if y=x then some v else m₁ y)→News h₀ env.locals s₂.heap ((I,oI)::news₁)→wpAny (model prog w) A (execs body env) (ForStep h₀ env.locals (fun nw=>(ax,listOf its.toArray k)∈nw) J G Q I oI i) E s₂))→(∀ s' m' news',G s'→Fr h₀ env.locals s'.heap m'→News h₀ env.locals s'.heap news'→J its.length m' news'→Q .next s')→Zp)→Zp
theorem for_list {Q:Flow→Shared→Prop} {x:Str} {px pos:Pos} {iter:Expr} {body:List Stmt} (h₀:Heap)
  (h:wpAny (model prog w) A (eval iter env) (ForList prog w A h₀ env x body Q E) E s)
  (hx:env.kindOf x=some .local) (hp:(env.scope.kind == .class || (env.scope.kind == .module && env.locals != env.globals))=false)
  (hs:∀ x,foldedSetIterable iter env x=pure x)
  (hE:PassesOwn (model prog w) A env E) :
  wpAny (model prog w) A (exec (.For (.Name x px) iter body [] pos) env) Q E s:=by
 refine for_at h₀ (wpAny_mono h (fun xv s₁ h₁=>?_) fun _ _ e=>e) hx hp hs hE
 (refine h₁ _ ?_;clear h₁;intro J G ax its k m₀ news₀ hG e9_8 hg hh F N hm hJ step fin;subst e9_8)
 have hl:s₁.heap.IsList ax its.toArray:=News.isList N hm
 have hlt:ax < s₁.heap.objs.size:=Heap.lt_size (N _ hm).1
 refine wpAny_pyIter_list hl ?_
 have up:∀ b o,s₁.heap.get? b=some o→(s₁.heap.push { cls:=.type "list_iterator",data:=.fields #[.ref ax,.int 0 0] }).get? b=some o:=fun b o e=>Heap.get?_push_of_some _ e
 have W:=Walks.list (prog:=prog) (w:=w) hh s₁.heap.objs.size ax (Nat.ne_of_lt hlt) its.toArray
 rw [List.size_toArray] at W
 refine fun _ kM=>kM J G s₁.heap.objs.size _ its.length _ _ (fun nw=>(ax,listOf its.toArray k)∈nw) m₀ news₀ hG rfl (hG _ _ s₁.toks hg) W (fun i h st=>by (refine e_EA (st.1) ?_;intro o e _);exact ⟨o,e⟩) ?_ (Nat.ne_of_lt F.ns.lt) (next_is_new F) ⟨⟨_,Heap.get?_push_size _ rfl,rfl,rfl⟩,hl.push _⟩ (F.keeps up) (N.grown up) (fun p hp=>Nat.ne_of_lt (Heap.lt_size (N p hp).1)) hm hJ ?_ fin
 ·intro i h h' o nw st e e' hk Nw hS
  refine ⟨by (refine e_EA (st.1) ?_;intro o' q r);cases e.symm.trans q;exact ⟨_,e',r⟩,News.isList Nw hS⟩
 ·intro i v m₁ news₁ s₂ oI c hi hP hJ' hS off F' N'
  exact step i v m₁ news₁ s₂ _ oI c (by simpa using hP) hJ' hS off F' N'
def ForVals (prog:Program) (w:World) (A:Around) (h₀:Heap) (env:Env) (x:Str) (body:List Stmt) (Q:Flow→Shared→Prop) (E:Value→Shared→Prop) (xv:Value) (s₁:Shared):Prop:=∀ Zp:Prop,(∀ (J:Nat→(Str→Option Value)→Led→Prop) (G:Shared→Prop) (vw d:Addr) (od:Obj) (kvs:List (Str×Value)) (m₀:Str→Option Value) (news₀:Led),(Closed G)→(xv=.ref vw)→(G s₁)→(A.handled=none)→(Fr h₀ env.locals s₁.heap m₀)→(News h₀ env.locals s₁.heap news₀)→((vw,({ cls:=.type "dict_values",data:=.fields #[.ref d] }:Obj))∈news₀)→((d,od)∈news₀)→(od.IsDictOf (strKind prog w) kvs)→(J 0 m₀ news₀)→((∀ i k v m₁ news₁ s₂ I oI,G s₂→kvs[i]?=some (k,v)→J i m₁ news₁→(d,od)∈news₁→(∀ p∈news₁,p.1≠I)→Fr h₀ env.locals s₂.heap (fun y=>if y=x then some v else m₁ y)→News h₀ env.locals s₂.heap ((I,oI)::news₁)→wpAny (model prog w) A (execs body env) (ForStep h₀ env.locals (fun nw=>(d,od)∈nw) J G Q I oI i) E s₂))→(∀ s' m' news',G s'→Fr h₀ env.locals s'.heap m'→News h₀ env.locals s'.heap news'→J kvs.length m' news'→Q .next s')→Zp)→Zp
theorem for_values {Q:Flow→Shared→Prop} {x:Str} {px pos:Pos} {iter:Expr} {body:List Stmt} (h₀:Heap)
  (h:wpAny (model prog w) A (eval iter env) (ForVals prog w A h₀ env x body Q E) E s)
  (hx:env.kindOf x=some .local) (hp:(env.scope.kind == .class || (env.scope.kind == .module && env.locals != env.globals))=false)
  (hs:∀ x,foldedSetIterable iter env x=pure x)
  (hE:PassesOwn (model prog w) A env E) :
  wpAny (model prog w) A (exec (.For (.Name x px) iter body [] pos) env) Q E s:=by
 refine for_at h₀ (wpAny_mono h (fun xv s₁ h₁=>?_) fun _ _ e=>e) hx hp hs hE
 (refine h₁ _ ?_;clear h₁;intro J G vw d od kvs m₀ news₀ hG e9_9 hg hh F N hv hm hd hJ step fin;subst e9_9)
 (refine e_E ((kda_dict N hm hd).dictAt) ?_;intro ep hat)
 have hlt:d < s₁.heap.objs.size:=hat.lt_size
 refine wpAny_pyIter_values ⟨_,(N _ hv).1,rfl,rfl⟩ hat ?_
 have up:∀ b o,s₁.heap.get? b=some o→(s₁.heap.push { cls:=.type "dict_valueiterator",data:=.fields #[.ref d,.int 0 0,.int kvs.length 0,.int ep 0] }).get? b=some o:=fun b o e=>Heap.get?_push_of_some _ e
 have W:=Walks.dictValues (prog:=prog) (w:=w) (knd:=strKind prog w) hh s₁.heap.objs.size d (Nat.ne_of_lt hlt) kvs ep
 obtain ⟨es,hexact⟩:∃ es,od.ExactDict∧od.data=.dict es ep∧KeysOf (strKind prog w) es∧Pairs (strKind prog w) es.toList kvs∧(kvs.map (·.1)).Nodup:=by
  (refine e_E2A (hat) ?_;clear hat;intro o' es ho' r)
  cases (N _ hm).1.symm.trans ho'
  exact ⟨es,r⟩
 refine fun _ kM=>kM J G s₁.heap.objs.size _ kvs.length _ _ (fun nw=>(d,od)∈nw) m₀ news₀ hG rfl (hG _ _ s₁.toks hg) W (fun i h st=>by (refine e_EA (st.1) ?_;intro o e _);exact ⟨o,e⟩) ?_ (Nat.ne_of_lt F.ns.lt) (next_is_new F) ⟨⟨_,Heap.get?_push_size _ rfl,rfl,rfl⟩,hat.push _⟩ (F.keeps up) (N.grown up) (fun p hp=>Nat.ne_of_lt (Heap.lt_size (N p hp).1)) hm hJ ?_ fin
 ·intro i h h' o nw st e e' hk Nw hS
  refine ⟨by (refine e_EA (st.1) ?_;intro o' q r);cases e.symm.trans q;exact ⟨_,e',r⟩,⟨od,es,(Nw _ hS).1,hexact⟩⟩
 ·intro i v m₁ news₁ s₂ oI c hi hP hJ' hS off F' N'
  (refine e_E (hP) ?_;clear hP;intro k hk)
  exact step i k v m₁ news₁ s₂ _ oI c hk hJ' hS off F' N'
def ForValsP (prog:Program) (w:World) (A:Around) (h₀:Heap) (env:Env) (x:Str) (body:List Stmt) (Q:Flow→Shared→Prop) (E:Value→Shared→Prop) (xv:Value) (s₁:Shared):Prop:=∀ Zp:Prop,(∀ (vw d:Addr) (od:Obj) (kvs:List (Str×Value)) (m₀:Str→Option Value) (news₀:Led),(xv=.ref vw)→(A.handled=none)→(Fr h₀ env.locals s₁.heap m₀)→(News h₀ env.locals s₁.heap news₀)→((vw,({ cls:=.type "dict_values",data:=.fields #[.ref d] }:Obj))∈news₀)→((d,od)∈news₀)→(od.IsDictOf (strKind prog w) kvs)→((∀ k v I oI h tk,(k,v)∈kvs→Fr h₀ env.locals h (fun y=>if y=x then some v else m₀ y)→News h₀ env.locals h ((I,oI)::news₀)→wpAny (model prog w) A (execs body env) (fun f s'=>f=.next∧∃ h' tk',s'={ s₁ with heap:=h',toks:=tk' }∧Fr h₀ env.locals h' (fun y=>if y=x then some v else m₀ y)∧News h₀ env.locals h' ((I,oI)::news₀)) E { s₁ with heap:=h,toks:=tk }))→(∀ h' tk o,Fr h₀ env.locals h' (fun y=>if y=x then o else m₀ y)→News h₀ env.locals h' news₀→Q .next { s₁ with heap:=h',toks:=tk })→Zp)→Zp
theorem for_values_pure {Q:Flow→Shared→Prop} {x:Str} {px pos:Pos} {iter:Expr} {body:List Stmt} (h₀:Heap)
  (h:wpAny (model prog w) A (eval iter env) (ForValsP prog w A h₀ env x body Q E) E s)
  (hx:env.kindOf x=some .local) (hp:(env.scope.kind == .class || (env.scope.kind == .module && env.locals != env.globals))=false)
  (hs:∀ x,foldedSetIterable iter env x=pure x)
  (hE:PassesOwn (model prog w) A env E) :
  wpAny (model prog w) A (exec (.For (.Name x px) iter body [] pos) env) Q E s:=by
 refine for_values h₀ (wpAny_mono h (fun xv s₁ h₁=>?_) fun _ _ e=>e) hx hp hs hE
 (refine h₁ _ ?_;clear h₁;intro vw d od kvs m₀ news₀ e9_6 hh F N hv hm hd step fin;subst e9_6)
 refine fun _ kM=>kM (fun _ m' nw=>nw=news₀∧∃ o,m'=fun y=>if y=x then o else m₀ y) (Only s₁) vw d od kvs m₀ news₀ (Only.closed _) rfl (Only.refl _) hh F N hv hm hd ⟨rfl,m₀ x,?_⟩ ?_ ?_
 ·funext y
  by_cases e:y=x
  ·(refine rwl (if_pos e ..) ?_;refine rwl (e ..) ?_;with_reducible rfl)
  ·(refine rwl (if_neg e ..) ?_;with_reducible rfl)
 ·intro i k v m₁ news₁ s₂ I oI e8_8 hk e8_10 hS off F' N';(refine e_E2 (e8_8) ?_;clear e8_8;intro h2 t2 e9_2;subst e9_2);(refine e_AE (e8_10) ?_;clear e8_10;intro e9_0 o e9_2;subst e9_0;subst e9_2)
  have em:(fun y=>if y=x then some v else if y=x then o else m₀ y)=fun y=>if y=x then some v else m₀ y:=by
   funext y
   by_cases e:y=x
   ·(refine rwl (if_pos e ..) ?_;refine rwl (if_pos e ..) ?_;with_reducible rfl)
   ·(refine rwl (if_neg e ..) ?_;refine rwl (if_neg e ..) ?_;refine rwl (if_neg e ..) ?_;with_reducible rfl)
  rw [em] at F'
  refine wpAny_mono (step k v I oI h2 t2 (List.mem_of_getElem? hk) F' N') (fun f s₃ r=>?_) fun _ _ e=>e
  (refine e_AE2A2 (r) ?_;clear r;intro e9_0 h3 t3 e9_3 F3 N3;subst e9_0;subst e9_3)
  exact i_E2A6E _ news₁ ⟨_,_,rfl⟩ F3 N3 off hm rfl (some v) rfl
 ·intro s' m' news' e8_3 F' N' e8_6;(refine e_E2 (e8_3) ?_;clear e8_3;intro h2 t2 e9_2;subst e9_2);(refine e_AE (e8_6) ?_;clear e8_6;intro e9_0 o e9_2;subst e9_0;subst e9_2)
  exact fin h2 t2 o F' N'
def ForNone (A:Around) (h₀:Heap) (env:Env) (Q:Flow→Shared→Prop) (xv:Value) (s₁:Shared):Prop:=∀ Zp:Prop,(∀ (ax:Addr) (k:Nat) (m₀:Str→Option Value) (news₀:Led),(xv=.ref ax)→(A.handled=none)→(Fr h₀ env.locals s₁.heap m₀)→(News h₀ env.locals s₁.heap news₀)→((ax,listOf #[] k)∈news₀)→(∀ h' tk,Fr h₀ env.locals h' m₀→News h₀ env.locals h' news₀→Q .next { s₁ with heap:=h',toks:=tk })→Zp)→Zp
theorem for_empty {Q:Flow→Shared→Prop} {x:Str} {px pos:Pos} {iter:Expr} {body:List Stmt} (h₀:Heap)
  (h:wpAny (model prog w) A (eval iter env) (ForNone A h₀ env Q) E s)
  (hx:env.kindOf x=some .local) (hp:(env.scope.kind == .class || (env.scope.kind == .module && env.locals != env.globals))=false)
  (hs:∀ x,foldedSetIterable iter env x=pure x)
  (hE:PassesOwn (model prog w) A env E) :
  wpAny (model prog w) A (exec (.For (.Name x px) iter body [] pos) env) Q E s:=by
 refine for_list h₀ (wpAny_mono h (fun xv s₁ h₁=>?_) fun _ _ e=>e) hx hp hs hE
 (refine h₁ _ ?_;clear h₁;intro ax k m₀ news₀ e9_4 hh F N hm fin;subst e9_4)
 refine fun _ kM=>kM (fun _ m' nw=>m'=m₀∧nw=news₀) (Only s₁) ax ([]) k m₀ news₀ (Only.closed _) rfl (Only.refl _) hh F N hm ⟨rfl,rfl⟩ ?_ ?_
 ·intro i v m₁ news₁ s₂ I oI _ e
  simp at e
 ·intro s' m' news' e8_3 F' N' e8_6;(refine e_E2 (e8_3) ?_;clear e8_3;intro h' t e9_2;subst e9_2);(refine e_A (e8_6) ?_;clear e8_6;intro e9_0 e9_1;subst e9_0;subst e9_1)
  exact fin h' t F' N'
end
end Mine
namespace Mine
section
variable {prog:Program} {w:World} {A:Around} {E:Value→Shared→Prop} {s:Shared} {h₀:Heap} {L:Addr} {m:Str→Option Value} {env:Env}
noncomputable def InTurn2 {κ:Type} (prog:Program) (w:World) (A:Around) (h₀:Heap) (L:Addr) (m:Str→Option Value) (s:Shared) (news:Led) (B:κ→(Str→Option Value)→Prop) {β:Type} (t:Addr→Sem β) (ks:List κ) (R:κ→β→Prop):Prop :=
 ∀ k∈ks,∀ I oI C oC D ys m₂ h tk (E':Value→Shared→Prop),NsObj oC m₂→B k m₂→Fr h₀ L h m→News h₀ L h ((I,oI)::(C,oC)::(D,lst ys)::news) →
  wpAny (model prog w) A (t C) (fun r s'=>R k r∧∃ h' tk',s'={ s with heap:=h',toks:=tk' }∧Fr h₀ L h' m∧News h₀ L h' ((I,oI)::(C,oC)::(D,lst ys)::news)) E' { s with heap:=h,toks:=tk }
theorem comp_blockG {κ:Type} {ks:List κ} {Rep:κ→Value→Prop} {B:κ→(Str→Option Value)→Prop} {pz:Nat→Bool} {J:Nat→List Value→Led→Prop} {Src:Led→Prop} {target c elt iter:Expr} {scope:Scope} {cl:List (Str×Addr)} {pos:Pos} {s₂:Shared} {I:Addr} {fp:List Addr} {P:Nat→Value→Prop} {St:Nat→Heap→Prop} {news:Led}
  {RR:Value→Addr→Result→Shared→Prop}
  (W:Walks prog w A I fp [I] ks.length P St)
  (hgo:∀ i v (s:Shared) (Q:Unit→Shared→Prop) (E:Value→Shared→Prop),St i s.heap→Q () s→wpAny (model prog w) A (letOwnedTupleGo target (.ref I) v) Q E s)
  (hP:∀ i v,P i v→∃ k,ks[i]?=some k∧Rep k v)
  (hsz:ks.length≤sizeLine) (hIo:∀ i h,St i h→∃ o,h.get? I=some o)
  (hSt:∀ i h h' o nw,St i h→h.get? I=some o→h'.get? I=some o→(∀ b o,h₀.get? b=some o→h'.get? b=some o)→News h₀ L h' nw→Src nw→St i h')
  (hcell:∀ y∈scope.names,y.2≠.cell) (hkind:scope.kind=.function)
  (bind:∀ k∈ks,∀ v C m₁ (s:Shared) (Q:Unit→Shared→Prop) (E':Value→Shared→Prop),Rep k v→s.heap.Ns C m₁→(∀ nw,News h₀ L s.heap nw→Src nw →
   (∀ h' tk m₂,h'.Ns C m₂→B k m₂→(∀ b o,b≠C→s.heap.get? b=some o→h'.get? b=some o)→Q () { s with heap:=h',toks:=tk })→wpAny (model prog w) A (assign target (compEnvC scope cl C env) v) Q E' s))
  (hst:St 0 s₂.heap) (hfp:∀ b∈fp,b < s₂.heap.objs.size)
  (F:Fr h₀ L s₂.heap m) (N:News h₀ L s₂.heap news) (hIL:L≠I) (hI₀:h₀.get? I=none) (off:∀ p∈news,p.1≠I) (hsrc:Src news) (hJ:J 0 [] news) (hlenJ:∀ i ys nw,J i ys nw→ys.length≤i)
  (test:∀ i k,ks[i]?=some k→∀ I oI C oC D ys nw m₂ h tk (E':Value→Shared→Prop),J i ys nw→Src nw→NsObj oC m₂→B k m₂→Fr h₀ L h m→News h₀ L h ((I,oI)::(C,oC)::(D,lst ys)::nw) →
   wpAny (model prog w) A (isTrue c (compEnvC scope cl C env) (eval c (compEnvC scope cl C env))) (fun ok s'=>ok=pz i∧∃ h' tk',s'={ s₂ with heap:=h',toks:=tk' }∧Fr h₀ L h' m∧News h₀ L h' ((I,oI)::(C,oC)::(D,lst ys)::nw)) E' { s₂ with heap:=h,toks:=tk })
  (skip:∀ i k ys nw,ks[i]?=some k→pz i=false→J i ys nw→J (i + 1) ys nw)
  (elem:∀ i k,ks[i]?=some k→pz i=true→∀ I oI C oC D ys nw m₂ h tk (E':Value→Shared→Prop),J i ys nw→Src nw→NsObj oC m₂→B k m₂→Fr h₀ L h m→News h₀ L h ((I,oI)::(C,oC)::(D,lst ys)::nw)→(∀ p∈nw,p.1≠I∧p.1≠C∧p.1≠D)→I≠C→I≠D→C≠D →
   wpAny (model prog w) A (eval elt (compEnvC scope cl C env)) (fun y s'=>∃ h' tk' nw',s'={ s₂ with heap:=h',toks:=tk' }∧Fr h₀ L h' m∧News h₀ L h' ((I,oI)::(C,oC)::(D,lst ys)::nw')∧(∀ p∈nw',p.1≠I∧p.1≠C∧p.1≠D)∧Src nw'∧J (i + 1) (ys++[y]) nw') E' { s₂ with heap:=h,toks:=tk })
  (hRR:∀ D C h tk m' ys nw,J ks.length ys nw→Fr h₀ L h m→News h₀ L h ((D,lst ys)::nw)→(∀ p∈nw,p.1≠D)→h.Ns C m'→h₀.get? C=none→h₀.get? D=none→C≠L→D≠L→C≠D→(∀ p∈nw,p.1≠C)→RR (.ref D) C (.ok .next) { s₂ with heap:=h,toks:=tk }) :
  wpAny (model prog w) A (newList []) (fun acc s₃=>wpAny (model prog w) A (newFunctionEnv scope env.globals cl [] env.qual none .none (some env)) (fun cenv s₄ =>
   codeAny (model prog w) A (.compStart (.ListComp elt [⟨target,iter,[c],0⟩] scope pos) 0 (.ref I) acc { cenv with scope:=relabel scope env }) (RR acc cenv.locals) s₄) E s₃) E s₂:=by
 refine wpAny_newObj_type (wpAny_newFunctionEnv hcell (by intro y hy;simp at hy) (fun h₁ hns₁ hsb₁=>?_) hkind)
 dsimp only at hns₁ hsb₁ ⊢
 generalize hH2:s₂.heap.push { cls:=.type "list",dict:=none,data:=.seq ([]:List Value).toArray }=H2 at hns₁ hsb₁ ⊢
 have hC:H2.objs.size=s₂.heap.objs.size + 1:=by (refine rwr (hH2 ..) ?_;refine rwl (Heap.size_push ..) ?_;with_reducible rfl)
 have hDC:s₂.heap.objs.size≠H2.objs.size:=by refine rwl (hC ..) ?_;exact Nat.ne_of_lt (Nat.lt_succ_self _)
 have below:∀ b,b < s₂.heap.objs.size→b≠H2.objs.size∧b≠s₂.heap.objs.size:=fun b hb=>⟨by refine rwl (hC ..) ?_;exact Nat.ne_of_lt (Nat.lt_succ_of_lt hb),Nat.ne_of_lt hb⟩
 have hDf:s₂.heap.objs.size ∉ fp:=fun hm=>Nat.lt_irrefl _ (hfp _ hm)
 have hCf:H2.objs.size ∉ fp:=fun hm=>by have:=hfp _ hm;rw [hC] at this;exact Nat.lt_irrefl _ (Nat.lt_of_succ_lt this)
 have hIf:I∈fp:=W.sub I (List.mem_singleton.mpr rfl)
 have hIlt:I < s₂.heap.objs.size:=hfp I hIf
 have old:∀ b o,s₂.heap.get? b=some o→h₁.get? b=some o:=fun b o e=>hsb₁.extBut b o (below b (Heap.lt_size e)).1 (Heap.get?_push_of_some _ (hH2▸Heap.get?_push_of_some _ e))
 have hacc:h₁.get? s₂.heap.objs.size=some (lst []):=hsb₁.extBut _ _ hDC (Heap.get?_push_of_some _ (hH2▸Heap.get?_push_size _ rfl))
 have hst₁:St 0 h₁:=W.frame _ _ _ hst fun b _ o e=>old b o e
 have fresh:∀ a,s₂.heap.objs.size≤a→s₂.heap.get? a=none:=fun a ha=>by
  cases e:s₂.heap.get? a with
  | none=>rfl
  | some o'=>exact absurd (Heap.lt_size e) (Nat.not_lt.mpr ha)
 have fresh₀:∀ a,s₂.heap.objs.size≤a→h₀.get? a=none:=fun a ha=>by
  cases e:h₀.get? a with
  | none=>rfl
  | some o'=>have:=F.keep a o' e;rw [fresh a ha] at this;cases this
 have hD₀:h₀.get? s₂.heap.objs.size=none:=fresh₀ _ (Nat.le_refl _)
 have hC₀:h₀.get? H2.objs.size=none:=fresh₀ _ (by refine rwl (hC ..) ?_;exact Nat.le_succ _)
 have hLlt:L < s₂.heap.objs.size:=F.ns.lt
 have hDL:s₂.heap.objs.size≠L:=Ne.symm (below L hLlt).2
 have hCL:H2.objs.size≠L:=Ne.symm (below L hLlt).1
 have hCI:I≠H2.objs.size:=(below I hIlt).1
 have hDI:I≠s₂.heap.objs.size:=(below I hIlt).2
 have offD:∀ p∈news,p.1≠s₂.heap.objs.size:=fun p hp=>Nat.ne_of_lt (Heap.lt_size (N p hp).1)
 have offC:∀ p∈news,p.1≠H2.objs.size:=fun p hp=>(below _ (Heap.lt_size (N p hp).1)).1
 have loop:∀ s₃:Shared,s₃={ s₂ with heap:=h₁,toks:=s₂.toks + ([]:List (Str×Value)).length } →
   codeAny (model prog w) A (.compLoop (.ListComp elt [⟨target,iter,[c],0⟩] scope pos) 0 (.ref I) (.ref s₂.heap.objs.size) (compEnvC scope cl H2.objs.size env))
    (RR (.ref s₂.heap.objs.size) H2.objs.size) s₃:=by
  rintro s₃ rfl
  refine kct_loop
   (fun k s'=>∃ h' tk i m' ys nw,s'={ s₂ with heap:=h',toks:=tk }∧i≤ks.length∧k=ks.length + 1 - i∧St i h'∧Fr h₀ L h' m∧h'.Ns H2.objs.size m'∧News h₀ L h' ((s₂.heap.objs.size,lst ys)::nw)∧J i ys nw∧Src nw∧∀ p∈nw,p.1≠I∧p.1≠H2.objs.size∧p.1≠s₂.heap.objs.size) ?_ (ks.length + 1)
   ⟨h₁,_,0,_,[],news,rfl,Nat.zero_le _,rfl,hst₁,F.keeps old,hns₁,fun p hp=>?_,hJ,hsrc,fun p hp=>⟨off p hp,offC p hp,offD p hp⟩⟩
  ·intro k s' e8_2;(refine e_E6A9 (e8_2) ?_;clear e8_2;intro h' tk i m' ys nw e9_6 hi e9_8 hst' F' hn' N' hJ' hsrc' off';subst e9_6;subst e9_8)
   by_cases hlt:i < ks.length
   ·refine W.item i _ _ _ hlt hst' fun v h₂ tk₂ hPv hst₂ hk₂=>?_
    refine hgo _ _ _ _ _ hst₂ ?_
    (refine e_EA (hP i v hPv) ?_;intro k hk hrep)
    have hmem:k∈ks:=List.mem_of_getElem? hk
    have N₂:News h₀ L h₂ ((s₂.heap.objs.size,lst ys)::nw):=news_but N' hk₂ fun p hp=>by
     rcases List.mem_cons.mp hp with rfl | hp
     ·exact Ne.symm hDI
     ·exact (off' p hp).1
    refine bind k hmem v H2.objs.size m' _ _ _ hrep (hn'.at' fun o e=>hk₂ _ o (by simpa using Ne.symm hCI) e) nw (fun p hp=>N₂ p (.tail _ hp)) hsrc' fun h₃ tk₃ m₂ hn₃ hB hs₃=>?_
    have hst₃:St (i + 1) h₃:=W.frame _ _ _ hst₂ fun b hb o e=>hs₃ b o (fun q=>hCf (by have q':b=H2.objs.size:=q;refine rwr (q' ..) ?_;exact hb)) e
    (refine e_E (hIo _ _ hst₃) ?_;intro oI heI)
    (refine e_EA (ns_obj hn₃) ?_;intro oC heC hoC)
    have F₂:Fr h₀ L h₂ m:=fr_but F' hk₂ hIL hI₀
    have F₃:Fr h₀ L h₃ m:=⟨F₂.ns.at' fun o e=>hs₃ L o (Ne.symm hCL) e,fun b o e=>hs₃ b o (fun q=>by rw [q,hC₀] at e;cases e) (F₂.keep b o e),F₂.above⟩
    have N₃:News h₀ L h₃ ((I,oI)::(H2.objs.size,oC)::(s₂.heap.objs.size,lst ys)::nw):=fun p hp=>by
     rcases List.mem_cons.mp hp with rfl | hp
     ·exact ⟨heI,Ne.symm hIL,hI₀⟩
     ·rcases List.mem_cons.mp hp with rfl | hp
      ·exact ⟨heC,hCL,hC₀⟩
      ·have z:=N₂ p hp
       refine ⟨hs₃ _ _ ?_ z.1,z.2⟩
       rcases List.mem_cons.mp hp with rfl | hp
       ·exact hDC
       ·exact (off' p hp).2.1
    refine wpAny_mono (test i k hk I oI H2.objs.size oC s₂.heap.objs.size ys nw m₂ h₃ _ _ hJ' hsrc' hoC hB F₃ N₃) (fun ok s₄ h₄=>?_) fun _ _ e=>e
    (refine e_AE2A2 (h₄) ?_;clear h₄;intro hok h₄ tk₄ e9_3 F₄ N₄;subst e9_3)
    cases hp:pz i with
    | true =>
     rw [hp] at hok;subst hok
     simp only [if_true]
     refine wpAny_mono (elem i k hk hp I oI H2.objs.size oC s₂.heap.objs.size ys nw m₂ h₄ _ _ hJ' hsrc' hoC hB F₄ N₄ off' hCI hDI (Ne.symm hDC)) (fun y s₅ h₅=>?_) fun _ _ e=>e
     (refine e_E3A5 (h₅) ?_;clear h₅;intro h₅ tk₅ nw₅ e9_3 F₅ N₅ off₅ hsrc₅ hJ₅;subst e9_3)
     have zI:=(N₅ (I,oI) List.mem_cons_self).1
     have zC:=(N₅ (H2.objs.size,oC) (List.mem_cons_of_mem _ List.mem_cons_self)).1
     have zD:=(N₅ (s₂.heap.objs.size,lst _) (List.mem_cons_of_mem _ (List.mem_cons_of_mem _ List.mem_cons_self))).1
     have N₅':News h₀ L h₅ nw₅:=fun p hp=>N₅ p (List.mem_cons_of_mem _ (List.mem_cons_of_mem _ (List.mem_cons_of_mem _ hp)))
     have hst₅:St (i + 1) h₅:=hSt _ _ _ _ nw₅ hst₃ heI zI F₅.keep N₅' hsrc₅
     have hln:ys.toArray.size≤sizeLine:=by
      refine rwl (List.size_toArray ..) ?_
      exact Nat.le_trans (hlenJ _ _ _ hJ') (Nat.le_trans hi hsz)
     refine append_at (hsz:=hln) zD fun h₆ hs₆ hD₆=>?_
     refine i_EAE6A9 (ks.length + 1 - (i + 1)) (ar_dec (by assumption)) h₆ tk₅ (i + 1) _ (ys++[y]) nw₅ rfl hlt rfl (W.frame _ _ _ hst₅ fun b hb o e=>hs₆.extBut b o (fun q=>hDf (q▸hb)) e) (F₅.change hs₆ hDL hD₀) ((hoC.ns zC).sameBut hs₆ (Ne.symm hDC)) (fun p hp'=>?_) hJ₅ hsrc₅ off₅
     rcases List.mem_cons.mp hp' with rfl | hp'
     ·exact ⟨hD₆.trans (congrArg some (lst_snoc _ _)),hDL,hD₀⟩
     ·exact ⟨hs₆.extBut _ _ (off₅ p hp').2.2 (N₅' p hp').1,(N₅' p hp').2⟩
    | false =>
     rw [hp] at hok;subst hok
     simp only [Bool.false_eq_true,if_false]
     have zI:=(N₄ (I,oI) List.mem_cons_self).1
     have zC:=(N₄ (H2.objs.size,oC) (List.mem_cons_of_mem _ List.mem_cons_self)).1
     have N₄':News h₀ L h₄ nw:=fun p hp=>N₄ p (List.mem_cons_of_mem _ (List.mem_cons_of_mem _ (List.mem_cons_of_mem _ hp)))
     have hst₄:St (i + 1) h₄:=hSt _ _ _ _ nw hst₃ heI zI F₄.keep N₄' hsrc'
     refine i_EAE6A9 (ks.length + 1 - (i + 1)) (ar_dec (by assumption)) h₄ tk₄ (i + 1) _ ys nw rfl hlt rfl hst₄ F₄ (hoC.ns zC) (fun p hp'=>?_) (skip i k ys nw hk hp hJ') hsrc' off'
     rcases List.mem_cons.mp hp' with rfl | hp'
     ·exact N₄ _ (List.mem_cons_of_mem _ (List.mem_cons_of_mem _ List.mem_cons_self))
     ·exact N₄' p hp'
   ·obtain rfl:i=ks.length:=Nat.le_antisymm hi (Nat.not_lt.mp hlt)
    refine W.done _ _ _ hst' fun h₂ tk₂ hk₂=>?_
    exact hRR _ _ h₂ tk₂ _ ys nw hJ' (fr_but F' hk₂ hIL hI₀) (news_but N' hk₂ fun p hp=>by
     rcases List.mem_cons.mp hp with rfl | hp
     ·exact Ne.symm hDI
     ·exact (off' p hp).1) (fun p hp=>(off' p hp).2.2) (hn'.at' fun o e=>hk₂ _ o (by simpa using Ne.symm hCI) e) hC₀ hD₀ hCL hDL (Ne.symm hDC) (fun p hp=>(off' p hp).2.1)
  ·rcases List.mem_cons.mp hp with rfl | hp
   ·exact ⟨hacc,hDL,hD₀⟩
   ·exact ⟨old _ _ (N p hp).1,(N p hp).2⟩
 exact codeAny_compStart_list (loop _ rfl) (W.self 0 _ _ _ hst₁ (loop _ rfl))
theorem comp_block {κ:Type} {ks:List κ} {Rep:κ→Value→Prop} {B:κ→(Str→Option Value)→Prop} {pz:κ→Bool} {f:κ→Value} {target c elt iter:Expr} {scope:Scope} {cl:List (Str×Addr)} {pos:Pos} {s₂:Shared} {I:Addr} {fp:List Addr} {P:Nat→Value→Prop} {St:Nat→Heap→Prop} {news:Led}
  {RR:Value→Addr→Result→Shared→Prop}
  (W:Walks prog w A I fp [I] ks.length P St)
  (hgo:∀ i v (s:Shared) (Q:Unit→Shared→Prop) (E:Value→Shared→Prop),St i s.heap→Q () s→wpAny (model prog w) A (letOwnedTupleGo target (.ref I) v) Q E s)
  (hP:∀ i v,P i v→∃ k,ks[i]?=some k∧Rep k v)
  (hsz:ks.length≤sizeLine) (hIo:∀ i h,St i h→∃ o,h.get? I=some o)
  (hSt:∀ i h h' o,St i h→h.get? I=some o→h'.get? I=some o→(∀ b o,h₀.get? b=some o→h'.get? b=some o)→News h₀ L h' news→St i h')
  (hcell:∀ y∈scope.names,y.2≠.cell) (hkind:scope.kind=.function)
  (bind:∀ k∈ks,∀ v C m₁ (s:Shared) (Q:Unit→Shared→Prop) (E':Value→Shared→Prop),Rep k v→s.heap.Ns C m₁→News h₀ L s.heap news →
   (∀ h' tk m₂,h'.Ns C m₂→B k m₂→(∀ b o,b≠C→s.heap.get? b=some o→h'.get? b=some o)→Q () { s with heap:=h',toks:=tk })→wpAny (model prog w) A (assign target (compEnvC scope cl C env) v) Q E' s)
  (hst:St 0 s₂.heap) (hfp:∀ b∈fp,b < s₂.heap.objs.size)
  (F:Fr h₀ L s₂.heap m) (N:News h₀ L s₂.heap news) (hIL:L≠I) (hI₀:h₀.get? I=none) (off:∀ p∈news,p.1≠I)
  (test:InTurn2 prog w A h₀ L m s₂ news B (fun C=>isTrue c (compEnvC scope cl C env) (eval c (compEnvC scope cl C env))) ks (fun k ok=>ok=pz k))
  (elem:InTurn2 prog w A h₀ L m s₂ news B (fun C=>eval elt (compEnvC scope cl C env)) (ks.filter pz) (fun k y=>y=f k))
  (hRR:∀ D C h tk m',Fr h₀ L h m→News h₀ L h ((D,lst ((ks.filter pz).map f))::news)→(∀ p∈news,p.1≠D)→h.Ns C m'→h₀.get? C=none→h₀.get? D=none→C≠L→D≠L→C≠D→(∀ p∈news,p.1≠C)→RR (.ref D) C (.ok .next) { s₂ with heap:=h,toks:=tk }) :
  wpAny (model prog w) A (newList []) (fun acc s₃=>wpAny (model prog w) A (newFunctionEnv scope env.globals cl [] env.qual none .none (some env)) (fun cenv s₄ =>
   codeAny (model prog w) A (.compStart (.ListComp elt [⟨target,iter,[c],0⟩] scope pos) 0 (.ref I) acc { cenv with scope:=relabel scope env }) (RR acc cenv.locals) s₄) E s₃) E s₂:=by
 have tk1:∀ {i:Nat} {k:κ},ks[i]?=some k→ks.take (i + 1)=ks.take i++[k]:=fun hk=>by rw [List.take_add_one,hk];rfl
 have pk:∀ {i:Nat} {k:κ},ks[i]?=some k→(ks[i]?).any pz=pz k:=fun hk=>by rw [hk];rfl
 refine comp_blockG (pz:=fun i=>(ks[i]?).any pz) (J:=fun i ys nw=>nw=news∧ys=((ks.take i).filter pz).map f) (Src:=fun nw=>nw=news) W hgo hP hsz hIo (fun i h h' o nw a b c d e q=>hSt i h h' o a b c d (q▸e)) hcell hkind
  (fun k hk v C m₁ s Q E' r n nw N' q h=>bind k hk v C m₁ s Q E' r n (q▸N') h) hst hfp F N hIL hI₀ off rfl ⟨rfl,rfl⟩ (fun i ys nw e=>?_)
  (fun i k hk I oI C oC D ys nw m₂ h tk E' _ S a b F N=>wpAny_mono (test k (List.mem_of_getElem? hk) I oI C oC D ys m₂ h tk E' a b F (S▸N)) (fun ok s' r=>⟨r.1.trans (pk hk).symm,S▸r.2⟩) fun _ _ e=>e)
  (fun i k ys nw hk hp e=>⟨e.1,?_⟩) (fun i k hk hp I oI C oC D ys nw m₂ h tk E' e S a b F5 N5 off5 _ _ _=>?_) (fun D C h tk m' ys nw e F N=>?_)
 ·rw [e.2,List.length_map];exact Nat.le_trans (List.length_filter_le ..) (List.length_take_le ..)
 ·rw [e.2,tk1 hk,List.filter_append,List.filter_cons_of_neg (by rw [← pk hk,hp];decide),List.filter_nil,List.append_nil]
 ·subst S
  have hk':k∈ks.filter pz:=List.mem_filter.mpr ⟨List.mem_of_getElem? hk,(pk hk).symm.trans hp⟩
  refine wpAny_mono (elem k hk' I oI C oC D ys m₂ h tk E' a b F5 N5) (fun y s' r=>?_) fun _ _ e=>e
  obtain ⟨ry,h',t',r1,r2,r3⟩:=r
  exact ⟨h',t',_,r1,r2,r3,off5,rfl,rfl,by rw [e.2,tk1 hk,List.filter_append,List.filter_cons_of_pos ((pk hk).symm.trans hp),List.filter_nil,List.map_append,ry];rfl⟩
 ·obtain ⟨rfl,rfl⟩:=e
  rw [List.take_length] at N
  exact hRR D C h tk m' F N
theorem kind_comp {scope:Scope} {cl:List (Str×Addr)} {C:Addr} {x:Str} (hx:scope.names.lookup x=some .local):(compEnvC scope cl C env).kindOf x=some .local:=lookup_relabel_local hx
theorem ns_par {scope:Scope} {cl:List (Str×Addr)} {C:Addr} (hkind:scope.kind=.function):((compEnvC scope cl C env).scope.kind == .class || ((compEnvC scope cl C env).scope.kind == .module && (compEnvC scope cl C env).locals != (compEnvC scope cl C env).globals))=false:=by simp [compEnvC,relabel,hkind]
theorem go_list_name {x:Str} {px:Pos} {it v:Value} {Q:Unit→Shared→Prop} (h:Q () s):wpAny (model prog w) A (letOwnedTupleGo (.Name x px) it v) Q E s:=by unfold letOwnedTupleGo;exact wpAny_pure h
theorem go_list_tuple {elts:List Expr} {x1} {pos:Pos} {I l:Addr} {i:Nat} {v:Value} {Q:Unit→Shared→Prop} (hit:s.heap.IsListIter I l i) (hQ:Q () s):wpAny (model prog w) A (letOwnedTupleGo (.Tuple elts x1 pos) (.ref I) v) Q E s:=by
 cases v with
 | ref T=>exact wpAny_letOwnedTupleGo_listiter hit hQ
 | _=>unfold letOwnedTupleGo;exact wpAny_pure hQ
def Over (prog:Program) (w:World) (A:Around) (h₀:Heap) (L:Addr) (m:Str→Option Value) (env:Env) (scope:Scope) (cl:List (Str×Addr)) (target c elt:Expr) (Q:Value→Shared→Prop) (B:Value→(Str→Option Value)→Prop) (pz:Value→Bool) (f:Value→Value) (xv:Value) (s₁:Shared):Prop:=∀ Zp:Prop,(∀ (ax:Addr) (its:List Value) (k₀:Nat) (news:Led),(xv=.ref ax)→(Fr h₀ L s₁.heap m)→(News h₀ L s₁.heap news)→((ax,listOf its.toArray k₀)∈news)→(its.length≤1000)→((∀ v∈its,∀ C m₁ (s:Shared) (Q:Unit→Shared→Prop) (E':Value→Shared→Prop),s.heap.Ns C m₁→News h₀ L s.heap news→(∀ h' tk m₂,h'.Ns C m₂→B v m₂→(∀ b o,b≠C→s.heap.get? b=some o→h'.get? b=some o)→Q () { s with heap:=h',toks:=tk })→wpAny (model prog w) A (assign target (compEnvC scope cl C env) v) Q E' s))→(InTurn2 prog w A h₀ L m s₁ news B (fun C=>isTrue c (compEnvC scope cl C env) (eval c (compEnvC scope cl C env))) its (fun v ok=>ok=pz v))→(InTurn2 prog w A h₀ L m s₁ news B (fun C=>eval elt (compEnvC scope cl C env)) (its.filter pz) (fun v y=>y=f v))→(∀ D h tk,Fr h₀ L h m→News h₀ L h ((D,lst ((its.filter pz).map f))::news)→(∀ p∈news,p.1≠D)→Q (.ref D) { s₁ with heap:=h,toks:=tk })→Zp)→Zp
theorem Over.mk {prog:Program} {w:World} {A:Around} {h₀:Heap} {L:Addr} {m:Str→Option Value} {env:Env} {scope:Scope} {cl:List (Str×Addr)} {target c elt:Expr} {Q:Value→Shared→Prop} {B:Value→(Str→Option Value)→Prop} {pz:Value→Bool} {f:Value→Value} {xv:Value} {s₁:Shared} (ax:Addr) (its:List Value) (k₀:Nat) (news:Led) (f0:xv=.ref ax) (f1:Fr h₀ L s₁.heap m) (f2:News h₀ L s₁.heap news) (f3:(ax,listOf its.toArray k₀)∈news) (f4:its.length≤1000) (f5:(∀ v∈its,∀ C m₁ (s:Shared) (Q:Unit→Shared→Prop) (E':Value→Shared→Prop),s.heap.Ns C m₁→News h₀ L s.heap news→(∀ h' tk m₂,h'.Ns C m₂→B v m₂→(∀ b o,b≠C→s.heap.get? b=some o→h'.get? b=some o)→Q () { s with heap:=h',toks:=tk })→wpAny (model prog w) A (assign target (compEnvC scope cl C env) v) Q E' s)) (f6:InTurn2 prog w A h₀ L m s₁ news B (fun C=>isTrue c (compEnvC scope cl C env) (eval c (compEnvC scope cl C env))) its (fun v ok=>ok=pz v)) (f7:InTurn2 prog w A h₀ L m s₁ news B (fun C=>eval elt (compEnvC scope cl C env)) (its.filter pz) (fun v y=>y=f v)) (f8:∀ D h tk,Fr h₀ L h m→News h₀ L h ((D,lst ((its.filter pz).map f))::news)→(∀ p∈news,p.1≠D)→Q (.ref D) { s₁ with heap:=h,toks:=tk }):Over prog w A h₀ L m env scope cl target c elt Q B pz f xv s₁:=fun _ k=>k ax its k₀ news f0 f1 f2 f3 f4 f5 f6 f7 f8
theorem comp_over {target c elt iter:Expr} {scope:Scope} {cl:List (Str×Addr)} {pos:Pos} {Q:Value→Shared→Prop} (B:Value→(Str→Option Value)→Prop) (pz:Value→Bool) (f:Value→Value) (_F₀:Fr h₀ L s.heap m) (hh:A.handled=none)
  (hgo:∀ I l i v (s:Shared) (Q:Unit→Shared→Prop) (E:Value→Shared→Prop),s.heap.IsListIter I l i→Q () s→wpAny (model prog w) A (letOwnedTupleGo target (.ref I) v) Q E s)
  (h:wpAny (model prog w) A (eval iter env) (Over prog w A h₀ L m env scope cl target c elt Q B pz f) E s)
  (hclos:closureFor scope env=pure cl) (hcell:∀ y∈scope.names,y.2≠.cell) (hkind:scope.kind=.function)
  (hnames:∀ y∈scope.names,y.2=.local→scope.names.lookup y.1=some .local)
  (hs:∀ x,foldedSetIterable iter env x=pure x) :
  wpAny (model prog w) A (eval (.ListComp elt [⟨target,iter,[c],0⟩] scope pos) env) Q E s:=by
 refine rwl (eval_ListComp ..) ?_
 refine wpAny_comprehension_free (use:=none) rfl hs hclos hkind hnames (wpAny_mono h (fun xv s₁ h₁=>?_) fun _ _ e=>e)
 (refine h₁ _ ?_;clear h₁;intro ax its k₀ news e9_4 F N hm hl bind test elem fin;subst e9_4)
 have hls:s₁.heap.IsList ax its.toArray:=News.isList N hm
 have hlt:ax < s₁.heap.objs.size:=by (refine e_EA (hls) ?_;clear hls;intro _ e _);exact Heap.lt_size e
 refine wpAny_pyIter_list hls ?_
 have up:∀ b o,s₁.heap.get? b=some o→(s₁.heap.push { cls:=.type "list_iterator",data:=.fields #[.ref ax,.int 0 0] }).get? b=some o:=fun b o e=>Heap.get?_push_of_some _ e
 have W:=Walks.list (prog:=prog) (w:=w) hh s₁.heap.objs.size ax (Nat.ne_of_lt hlt) its.toArray
 rw [List.size_toArray] at W
 refine comp_block (Rep:=fun k v=>v=k) (B:=B) (ks:=its) W (fun i v s Q E st q=>hgo _ _ _ v s Q E st.1 q) (fun i v e=>⟨v,by simpa using e,rfl⟩) (by refine rwl (sizeLine_eq ..) ?_;omega) (fun i h st=>by (refine e_EA (st.1) ?_;intro o e _);exact ⟨o,e⟩) ?_ hcell hkind
  ?_ ⟨⟨_,Heap.get?_push_size _ rfl,rfl,rfl⟩,hls.push _⟩ (fun b hb=>?_) (F.keeps up) (N.grown up) (Nat.ne_of_lt F.ns.lt) (next_is_new F) (fun p hp=>Nat.ne_of_lt (Heap.lt_size (N p hp).1)) test elem ?_
 ·exact fun i h h' o st e e' k N'=>⟨by (refine e_EA (st.1) ?_;intro o' q r);cases e.symm.trans q;exact ⟨_,e',r⟩,News.isList N' hm⟩
 ·rintro k hk v C m₁ s Q E' rfl hn N' hq
  exact bind v hk C m₁ s Q E' hn N' hq
 ·show b < (s₁.heap.push _).objs.size
  refine rwl (Heap.size_push ..) ?_
  rcases List.mem_cons.mp hb with rfl | hb
  ·exact Nat.lt_succ_self _
  ·refine rwl (List.mem_singleton.mp hb ..) ?_;exact Nat.lt_succ_of_lt hlt
 ·intro D C h tk m' F' N' oD hn hC₀ hD₀ hCL hDL hCD offC
  refine ⟨m',hn,fun h'' hs''=>fin D h'' tk (F'.change hs'' hCL hC₀) (fun p hp=>?_) oD⟩
  refine ⟨hs''.extBut _ _ ?_ (N' p hp).1,(N' p hp).2⟩
  rcases List.mem_cons.mp hp with rfl | hp
  ·exact Ne.symm hCD
  ·exact offC p hp
def OverKeys (prog:Program) (w:World) (A:Around) (h₀:Heap) (L:Addr) (m:Str→Option Value) (env:Env) (scope:Scope) (cl:List (Str×Addr)) (x:Str) (c elt:Expr) (Q:Value→Shared→Prop) (pz:Str→Bool) (f:Str→Value) (xv:Value) (s₁:Shared):Prop:=∀ Zp:Prop,(∀ (vw d:Addr) (od:Obj) (kvs:List (Str×Value)) (news:Led),(xv=.ref vw)→(Fr h₀ L s₁.heap m)→(News h₀ L s₁.heap news)→((vw,({ cls:=.type "dict_keys",data:=.fields #[.ref d] }:Obj))∈news)→((d,od)∈news)→(od.IsDictOf (strKind prog w) kvs)→(kvs.length≤1000)→(InTurn2 prog w A h₀ L m s₁ news (fun k m₂=>∃ t,m₂ x=some (.str k t)) (fun C=>isTrue c (compEnvC scope cl C env) (eval c (compEnvC scope cl C env))) (kvs.map Prod.fst) (fun v ok=>ok=pz v))→(InTurn2 prog w A h₀ L m s₁ news (fun k m₂=>∃ t,m₂ x=some (.str k t)) (fun C=>eval elt (compEnvC scope cl C env)) ((kvs.map Prod.fst).filter pz) (fun v y=>y=f v))→(∀ D h tk,Fr h₀ L h m→News h₀ L h ((D,lst (((kvs.map Prod.fst).filter pz).map f))::news)→(∀ p∈news,p.1≠D)→Q (.ref D) { s₁ with heap:=h,toks:=tk })→Zp)→Zp
theorem OverKeys.mk {prog:Program} {w:World} {A:Around} {h₀:Heap} {L:Addr} {m:Str→Option Value} {env:Env} {scope:Scope} {cl:List (Str×Addr)} {x:Str} {c elt:Expr} {Q:Value→Shared→Prop} {pz:Str→Bool} {f:Str→Value} {xv:Value} {s₁:Shared} (vw d:Addr) (od:Obj) (kvs:List (Str×Value)) (news:Led) (f0:xv=.ref vw) (f1:Fr h₀ L s₁.heap m) (f2:News h₀ L s₁.heap news) (f3:(vw,({ cls:=.type "dict_keys",data:=.fields #[.ref d] }:Obj))∈news) (f4:(d,od)∈news) (f5:od.IsDictOf (strKind prog w) kvs) (f6:kvs.length≤1000) (f7:InTurn2 prog w A h₀ L m s₁ news (fun k m₂=>∃ t,m₂ x=some (.str k t)) (fun C=>isTrue c (compEnvC scope cl C env) (eval c (compEnvC scope cl C env))) (kvs.map Prod.fst) (fun v ok=>ok=pz v)) (f8:InTurn2 prog w A h₀ L m s₁ news (fun k m₂=>∃ t,m₂ x=some (.str k t)) (fun C=>eval elt (compEnvC scope cl C env)) ((kvs.map Prod.fst).filter pz) (fun v y=>y=f v)) (f9:∀ D h tk,Fr h₀ L h m→News h₀ L h ((D,lst (((kvs.map Prod.fst).filter pz).map f))::news)→(∀ p∈news,p.1≠D)→Q (.ref D) { s₁ with heap:=h,toks:=tk }):OverKeys prog w A h₀ L m env scope cl x c elt Q pz f xv s₁:=fun _ k=>k vw d od kvs news f0 f1 f2 f3 f4 f5 f6 f7 f8 f9
theorem comp_keys {x:Str} {px:Pos} {c elt iter:Expr} {scope:Scope} {cl:List (Str×Addr)} {pos:Pos} {Q:Value→Shared→Prop} (pz:Str→Bool) (f:Str→Value) (_F₀:Fr h₀ L s.heap m) (hh:A.handled=none)
  (h:wpAny (model prog w) A (eval iter env) (OverKeys prog w A h₀ L m env scope cl x c elt Q pz f) E s)
  (hclos:closureFor scope env=pure cl) (hcell:∀ y∈scope.names,y.2≠.cell) (hkind:scope.kind=.function)
  (hnames:∀ y∈scope.names,y.2=.local→scope.names.lookup y.1=some .local) (hx:scope.names.lookup x=some .local)
  (hs:∀ x,foldedSetIterable iter env x=pure x) :
  wpAny (model prog w) A (eval (.ListComp elt [⟨.Name x px,iter,[c],0⟩] scope pos) env) Q E s:=by
 refine rwl (eval_ListComp ..) ?_
 refine wpAny_comprehension_free (use:=none) rfl hs hclos hkind hnames (wpAny_mono h (fun xv s₁ h₁=>?_) fun _ _ e=>e)
 (refine h₁ _ ?_;clear h₁;intro vw d od kvs news e9_5 F N hv hm hd hl test elem fin;subst e9_5)
 (refine e_E ((kda_dict N hm hd).dictAt) ?_;intro ep hat)
 have hlt:d < s₁.heap.objs.size:=hat.lt_size
 have hne:d≠s₁.heap.objs.size:=Nat.ne_of_lt hlt
 refine kdl_pyIter_keys ⟨_,(N _ hv).1,rfl,rfl⟩ hat ?_
 have up:∀ b o,s₁.heap.get? b=some o→(s₁.heap.push { cls:=.type "dict_keyiterator",data:=.fields #[.ref d,.int 0 0,.int kvs.length 0,.int ep 0] }).get? b=some o:=fun b o e=>Heap.get?_push_of_some _ e
 have W:=Walks.dictKeys (prog:=prog) (w:=w) (knd:=strKind prog w) hh s₁.heap.objs.size d hne kvs ep
 rw [← List.length_map (f:=Prod.fst) (as:=kvs)] at W
 obtain ⟨es,hexact⟩:∃ es,od.ExactDict∧od.data=.dict es ep∧KeysOf (strKind prog w) es∧Pairs (strKind prog w) es.toList kvs∧(kvs.map (·.1)).Nodup:=by
  (refine e_E2A (hat) ?_;clear hat;intro o' es ho' r)
  cases (N _ hm).1.symm.trans ho'
  exact ⟨es,r⟩
 refine comp_block (Rep:=fun k v=>(strKind prog w).is k v=true) (B:=fun k m₂=>∃ t,m₂ x=some (.str k t)) (pz:=pz) (f:=f) (ks:=kvs.map Prod.fst) W (fun i v s Q E st q=>letGo_keyiter st.1 q) (fun i v e=>?_) (by (refine rwl (List.length_map ..) ?_;refine rwl (sizeLine_eq ..) ?_);omega) (fun i h st=>by (refine e_EA (st.1) ?_;intro o e _);exact ⟨o,e⟩) ?_ hcell hkind
  ?_ ⟨⟨_,Heap.get?_push_size _ rfl,rfl,by refine rwl (List.length_map ..) ?_;rfl⟩,hat.push _⟩ (fun b hb=>?_) (F.keeps up) (N.grown up) (Nat.ne_of_lt F.ns.lt) (next_is_new F) (fun p hp=>Nat.ne_of_lt (Heap.lt_size (N p hp).1)) test elem ?_
 ·(refine e_E2A (e) ?_;clear e;intro k x e1 e2)
  exact ⟨k,by (refine rwl (List.getElem?_map ..) ?_;refine rwl (e1 ..) ?_);rfl,e2⟩
 ·exact fun i h h' o st e e' k N'=>⟨by (refine e_EA (st.1) ?_;intro o' q r);cases e.symm.trans q;exact ⟨_,e',r⟩,⟨od,es,(N' _ hm).1,hexact⟩⟩
 ·intro k hk v C m₁ s Q E' hv hn N' hq
  (refine e_E (Value.isStrOf_shape hv) ?_;intro t e9_1;subst e9_1)
  refine wpAny_assign_Name (wpAny_storeName_local (kind_comp hx) hn (fun h₃ hn₃ hs₃=>?_) (ns_par hkind))
  exact hq h₃ _ _ hn₃ ⟨t,if_pos rfl⟩ fun b o hb e=>hs₃.extBut b o hb e
 ·show b < (s₁.heap.push _).objs.size
  refine rwl (Heap.size_push ..) ?_
  rcases List.mem_cons.mp hb with rfl | hb
  ·exact Nat.lt_succ_self _
  ·refine rwl (List.mem_singleton.mp hb ..) ?_;exact Nat.lt_succ_of_lt hlt
 ·intro D C h tk m' F' N' oD hn hC₀ hD₀ hCL hDL hCD offC
  refine ⟨m',hn,fun h'' hs''=>fin D h'' tk (F'.change hs'' hCL hC₀) (fun p hp=>?_) oD⟩
  refine ⟨hs''.extBut _ _ ?_ (N' p hp).1,(N' p hp).2⟩
  rcases List.mem_cons.mp hp with rfl | hp
  ·exact Ne.symm hCD
  ·exact offC p hp
theorem bind2 {scope:Scope} {cl:List (Str×Addr)} {a b:Str} {pa pb tp:Pos} {kk:Nat} {C T:Addr} {x y:Value} {nt:Nat} {m₁:Str→Option Value} {Q:Unit→Shared→Prop} {news:Led} (hh:A.handled=none) (hkind:scope.kind=.function) (ha:scope.names.lookup a=some .local) (hb:scope.names.lookup b=some .local)
  (hn:s.heap.Ns C m₁) (N:News h₀ L s.heap news) (hT:(T,({ cls:=.type "tuple",data:=.seq #[x,y] nt }:Obj))∈news) (hab:a≠b)
  (h:∀ (h':Heap) (tk:Nat) m₂,h'.Ns C m₂→(m₂ a=some x∧m₂ b=some y)→(∀ c o,c≠C→s.heap.get? c=some o→h'.get? c=some o)→Q () { s with heap:=h',toks:=tk }) :
  wpAny (model prog w) A (assign (.Tuple [.Name a pa,.Name b pb] kk tp) (compEnvC scope cl C env) (.ref T)) Q E s :=
 kcp_assign hh ⟨_,(N _ hT).1,rfl,nt,rfl⟩ (kind_comp ha) (kind_comp hb) (ns_par hkind) hn fun h' tk hn' hk=>h h' tk _ hn' ⟨by (refine rwl (if_neg hab ..) ?_;refine rwl (if_pos rfl ..) ?_;with_reducible rfl),if_pos rfl⟩ hk
theorem bind3 {scope:Scope} {cl:List (Str×Addr)} {a b d:Str} {pa pb pd tp:Pos} {kk:Nat} {C T:Addr} {x y z:Value} {nt:Nat} {m₁:Str→Option Value} {Q:Unit→Shared→Prop} {news:Led} (hh:A.handled=none) (hkind:scope.kind=.function) (ha:scope.names.lookup a=some .local) (hb:scope.names.lookup b=some .local) (hd:scope.names.lookup d=some .local)
  (hn:s.heap.Ns C m₁) (N:News h₀ L s.heap news) (hT:(T,({ cls:=.type "tuple",data:=.seq #[x,y,z] nt }:Obj))∈news) (hab:a≠b) (had:a≠d) (hbd:b≠d)
  (h:∀ (h':Heap) (tk:Nat) m₂,h'.Ns C m₂→(m₂ a=some x∧m₂ b=some y∧m₂ d=some z)→(∀ c o,c≠C→s.heap.get? c=some o→h'.get? c=some o)→Q () { s with heap:=h',toks:=tk }) :
  wpAny (model prog w) A (assign (.Tuple [.Name a pa,.Name b pb,.Name d pd] kk tp) (compEnvC scope cl C env) (.ref T)) Q E s:=by
 refine wpAny_assign_Tuple hh ⟨_,(N _ hT).1,rfl,nt,rfl⟩ rfl rfl fun h₁ he₁=>?_
 have hL:C≠s.heap.objs.size:=Nat.ne_of_lt hn.lt
 have hn₁:h₁.Ns C m₁:=hn.at' fun o e=>he₁ _ o hL e
 have up₁:∀ c o,s.heap.get? c=some o→h₁.get? c=some o:=fun c o e=>he₁ c o (Nat.ne_of_lt (Heap.lt_size e)) e
 show wpAny _ _ (assignInOrder [assign (.Name a pa) (compEnvC scope cl C env),assign (.Name b pb) (compEnvC scope cl C env),assign (.Name d pd) (compEnvC scope cl C env)] [x,y,z]) _ _ _
 refine assignInOrder_cons ?_
 refine wpAny_assign_Name (wpAny_storeName_local (kind_comp ha) hn₁ (fun h₂ hn₂ hs₂=>?_) (ns_par hkind))
 refine assignInOrder_cons ?_
 refine wpAny_assign_Name (wpAny_storeName_local (kind_comp hb) hn₂ (fun h₃ hn₃ hs₃=>?_) (ns_par hkind))
 refine assignInOrder_cons ?_
 refine wpAny_assign_Name (wpAny_storeName_local (kind_comp hd) hn₃ (fun h₄ hn₄ hs₄=>?_) (ns_par hkind))
 refine assignInOrder_nil ?_
 exact h h₄ _ _ hn₄ ⟨by (refine rwl (if_neg had ..) ?_;refine rwl (if_neg hab ..) ?_;refine rwl (if_pos rfl ..) ?_;with_reducible rfl),by (refine rwl (if_neg hbd ..) ?_;refine rwl (if_pos rfl ..) ?_;with_reducible rfl),if_pos rfl⟩ fun c o hc e=>hs₄.extBut c o hc (hs₃.extBut c o hc (hs₂.extBut c o hc (up₁ c o e)))
end
end Mine
namespace Mine
theorem typeCall_list_0:checkTypeCall "list" ⟨[],[]⟩=pure ():=by kernel_rfl
theorem newCall_list_0:checkBuiltinCall "list.__new__" ⟨[.type "list"],[]⟩=pure ():=by kernel_rfl
theorem typeCall_dict_0:checkTypeCall "dict" ⟨[],[]⟩=pure ():=by kernel_rfl
theorem newCall_dict_0:checkBuiltinCall "dict.__new__" ⟨[.type "dict"],[]⟩=pure ():=by kernel_rfl
section
variable {prog:Program} {w:World} {A:Around} {E:Value→Shared→Prop} {s:Shared} {h₀:Heap} {L:Addr} {m:Str→Option Value} {news:Led}
theorem code_list_new0 {Q₁:Value→Shared→Prop}
  (h:Q₁ (.ref s.heap.objs.size) { s with heap:=s.heap.push { cls:=.type "list",data:=.seq #[] } }) :
  codeAny (model prog w) A (.call (.builtin "list.__new__") ⟨[.type "list"],[]⟩) (wants Q₁ E) s:=by
 refine codeAny_of_tree ?_
 show wpAny _ A.in1 (do checkBuiltinCall "list.__new__" ⟨[.type "list"],[]⟩;again (.builtin "list.__new__" ⟨[.type "list"],[]⟩)) _ _ s
 refine wpAny_bind (wpAny_of_eq newCall_list_0 (wpAny_pure ⟨plainId_quiet F.plain_list_new _,codeAny_builtin_stack F.entry_list_new rfl fun p st=>?_⟩))
 refine rwl (Around.under_plainId F.plain_list_new _ ..) ?_
 have hsub:=sub_list_self
 have hown:=owner_list_new
 obtain ⟨hp,g,d,tk,os⟩:=s
 dsimp only;(try rw [hown])
 wp_walk
 exact h
theorem code_dict_new0 {Q₁:Value→Shared→Prop} (h:Q₁ (.ref s.heap.objs.size) { s with heap:=s.heap.push { cls:=.type "dict",data:=.dict #[] } }) :
  codeAny (model prog w) A (.call (.builtin "dict.__new__") ⟨[.type "dict"],[]⟩) (wants Q₁ E) s:=by
 refine codeAny_call_builtin F.kt_plain_dict_new F.kt_entry_dict_new (wpAny_of_eq newCall_dict_0 ?_)
 have hsub:=F.kt_sub_dict
 have hmro:=F.kt_mro_dict
 obtain ⟨hp,g,d,tk,os⟩:=s
 unfold Builtin.«dict.__new__»
 wp_walk
 exact h
theorem call_list0 {Q:Value→Shared→Prop} (h:∀ h' k,(∀ b o,s.heap.get? b=some o→h'.get? b=some o)→h'.get? s.heap.objs.size=some (listOf #[] k)→Q (.ref s.heap.objs.size) { s with heap:=h' }) :
  wpAny (model prog w) A (call (.type "list") []) Q E s:=by
 refine callType_codes (Q₁:=fun obj s₁=>obj=.ref s.heap.objs.size∧s₁={ s with heap:=s.heap.push { cls:=.type "list",data:=.seq #[] } }) PySem.F.called_list typeCall_list_0 PySem.F.entry_list_init
  (code_list_new0 ⟨rfl,rfl⟩) fun obj s₁ h₁=>?_
 (refine e_A (h₁) ?_;clear h₁;intro e9_0 e9_1;subst e9_0;subst e9_1)
 have hS:(s.heap.push { cls:=.type "list",data:=.seq #[] }).get? s.heap.objs.size=some { cls:=.type "list",data:=.seq #[] }:=Heap.get?_push_size _ rfl
 refine ⟨⟨_,hS,rfl⟩,PySem.F.args_list_init_1 _,?_⟩
 show wpAny _ _ (do let old ← Builtin.List.listItems (.ref s.heap.objs.size);Builtin.List.listUpdate (.ref s.heap.objs.size) (fun _=>#[]);letGo old.toList.reverse;ret .none) _ _ _
 refine wpAny_bind ?_
 unfold Builtin.List.listItems
 refine wpAny_bind (wpAny_seqItems hS rfl (wpAny_pure ?_))
 show wpAny _ _ (updateSeq s.heap.objs.size (fun _=>#[]) >>= fun _=>letGo (#[]:Array Value).toList.reverse >>= fun _=>ret .none) _ _ _
 refine wpAny_bind (wpAny_updateSeq hS rfl ?_)
 have hS₂:=Heap.get?_update_self (Obj.mapSeq (fun _=>(#[]:Array Value))) hS rfl
 refine wpAny_bind (wpAny_letGo ?_)
 refine wpAny_pure ?_
 exact ⟨rfl,h _ _ (fun b o e=>(Heap.get?_update_other _ _ (Ne.symm (Nat.ne_of_lt (Heap.lt_size e)))).trans (Heap.get?_push_of_some _ e)) hS₂⟩
theorem call_dict0 {Q:Value→Shared→Prop} (h:Q (.ref s.heap.objs.size) { s with heap:=s.heap.push { cls:=.type "dict",data:=.dict #[] } }) :
  wpAny (model prog w) A (call (.type "dict") []) Q E s:=by
 refine callType_codes (Q₁:=fun obj s₁=>obj=.ref s.heap.objs.size∧s₁={ s with heap:=s.heap.push { cls:=.type "dict",data:=.dict #[] } }) F.kt_called_dict typeCall_dict_0 F.entry_dict_init (code_dict_new0 ⟨rfl,rfl⟩) ?_
 intro obj s₁ e8_2;(refine e_A (e8_2) ?_;clear e8_2;intro e9_0 e9_1;subst e9_0;subst e9_1)
 have hnew:(s.heap.push { cls:=.type "dict",data:=.dict #[] }).DictOf (strKind prog w) s.heap.objs.size []:=Heap.DictOf.new s.heap
 refine ⟨hnew.typeIs,F.args_dict_init_1 _,?_⟩
 unfold Builtin.«dict.__init__»
 refine wpAny_bind ?_
 unfold Builtin.Dict.selfAndRest
 refine wpAny_bind (wpAny_notOrdered_dict hnew.typeIs ?_)
 show wpAny _ _ (pure (s.heap.objs.size,([]:List Value))) _ _ _
 refine wpAny_pure ?_
 show wpAny _ _ (Builtin.Dict.addKeywords s.heap.objs.size [] >>= fun _=>ret .none) _ _ _
 exact wpAny_bind (wpAny_pure (wpAny_pure ⟨rfl,h⟩))
theorem list0 {Q:Value→Shared→Prop} (F:Fr h₀ L s.heap m) (N:News h₀ L s.heap news) (h:∀ q k h',Fr h₀ L h' m→News h₀ L h' ((q,listOf #[] k)::news)→(∀ p∈news,p.1 < q)→Q (.ref q) { s with heap:=h' }) :
  wpAny (model prog w) A (call (.type "list") []) Q E s :=
 call_list0 fun h' k hk hq=>h _ k h' (F.keeps hk) (news_pushed F N hk hq rfl) fun p hp=>Heap.lt_size (N p hp).1
theorem dict0 {Q:Value→Shared→Prop} (F:Fr h₀ L s.heap m) (N:News h₀ L s.heap news) (h:∀ q h',Fr h₀ L h' m→News h₀ L h' ((q,dictOf [] 0)::news)→(∀ p∈news,p.1 < q)→Q (.ref q) { s with heap:=h' }) :
  wpAny (model prog w) A (call (.type "dict") []) Q E s :=
 call_dict0 (h _ _ (F.push _) (News.push F N _) fun p hp=>Heap.lt_size (N p hp).1)
end
end Mine
namespace Mine
section
variable {prog:Program} {w:World} {A:Around} {E:Value→Shared→Prop} {s:Shared} {K:Frag} {x y C:Addr} {ox oy:Obj} {od od':Option Obj}
theorem ifBound_eq {M:Model} {b:Value} {Q:Option Value→Shared→Prop} (X:K.In s.heap) (I:InstAt s.heap x ox C od) (hs:findIn K (.ref C) "__eq__"=some (some (.builtin "object.__eq__")))
  (h:wpAny M A (call (.builtin "object.__eq__") [.ref x,b]) (fun v=>Q (some v)) E s):wpAny M A (callSpecialIfBound? (.ref x) "__eq__" [b]) Q E s:=by
 simp -iota only [callSpecialIfBound?,bindSpecialIfBound?]
 refine wpAny_holding (wpAny_bind (wpAny_bind (wpAny_bind (I.type.here ((looks_findIn X hs).here ?_)))))
 dsimp only;rw [F.slot_object_eq.bind]
 refine wpAny_bind (wpAny_askSetting (wpAny_ite ?_))
 have fin:wpAny M A (call (.builtin "object.__eq__") ([.ref x]++[b]) >>= fun v=>pure (some v)) Q E s:=wpAny_bind (wpAny_mono h (fun v s' h'=>wpAny_pure h') fun _ _ h'=>h')
 split
 ·exact wpAny_bind (wpAny_pure (wpAny_pure fin))
 ·exact wpAny_tryCatch (wpAny_bind (wpAny_pure (wpAny_pure fin)))
theorem looks_isInst (X:K.In s.heap) (I:InstAt s.heap x ox C od) (hm:mroIn K C (.type "object")=some true) {M:Model}:Looks M s.heap (isInstance (.ref x) (.type "object")) true :=
 I.type.andThen (looks_mroIn X hm)
theorem call_eq_same (X:K.In s.heap) (I:InstAt s.heap x ox C od) (hm:mroIn K C (.type "object")=some true) {Q:Value→Shared→Prop} (hq:Q (.bool true) s) :
  wpAny (model prog w) A (call (.builtin "object.__eq__") [.ref x,.ref x]) Q E s :=
 wpAny_call (codeAny_call_builtin F.slot_object_eq.plain F.cmpEntry_eq (check_slot F.cmpKind_eq F.cmpSplit_eq (looks_isInst X I hm) (F.cmpArgs_eq _ _) (objEq_entry_same hq)))
theorem call_eq_other (X:K.In s.heap) (I:InstAt s.heap x ox C od) (hm:mroIn K C (.type "object")=some true) (hxy:x≠y) (hy:s.heap.get? y=some oy) (hx:s.heap.get? x=some ox) (hnt:ox.cls≠.type "tuple") {Q:Value→Shared→Prop} (hq:Q .notImplemented s) :
  wpAny (model prog w) A (call (.builtin "object.__eq__") [.ref x,.ref y]) Q E s :=
 wpAny_call (codeAny_call_builtin F.slot_object_eq.plain F.cmpEntry_eq (check_slot F.cmpKind_eq F.cmpSplit_eq (looks_isInst X I hm) (F.cmpArgs_eq _ _) (objEq_entry_other hxy hx hy hnt hq)))
theorem eq_same {Q:Value→Shared→Prop} (hu:A.units < cLine) (X:K.In s.heap) (I:InstAt s.heap x ox C od) (hs:findIn K (.ref C) "__eq__"=some (some (.builtin "object.__eq__"))) (hm:mroIn K C (.type "object")=some true)
  (hq:Q (.bool true) s):wpAny (model prog w) A (compareOp .Eq (.ref x) (.ref x)) Q E s:=by
 show wpAny _ _ (richCompare .Eq (.ref x) (.ref x)) _ _ _
 unfold richCompare
 simp -iota only [oneThing_ref,cmpInfo_Eq]
 refine wpAny_holding (wpAny_bind (wpAny_cRoomFor hu ?_))
 refine wpAny_bind (I.type.here (wpAny_bind (I.type.here ?_)))
 refine rwl (if_neg (by simp) ..) ?_
 refine wpAny_bind (wpAny_pure ?_)
 simp -iota only [Bool.false_eq_true,if_false]
 refine wpAny_bind ?_
 unfold tryCompare
 exact wpAny_bind (ifBound_eq X I hs (call_eq_same X I hm (wpAny_pure (wpAny_pure hq))))
theorem eq_other {Q:Value→Shared→Prop} (hu:A.units < cLine) (X:K.In s.heap) (I:InstAt s.heap x ox C od) (J:InstAt s.heap y oy C od') (hs:findIn K (.ref C) "__eq__"=some (some (.builtin "object.__eq__"))) (hm:mroIn K C (.type "object")=some true)
  (hxy:x≠y) (hq:Q (.bool false) s):wpAny (model prog w) A (compareOp .Eq (.ref x) (.ref y)) Q E s:=by
 have hnx:ox.cls≠.type "tuple":=by refine rwl (I.cls ..) ?_;nofun
 have hny:oy.cls≠.type "tuple":=by refine rwl (J.cls ..) ?_;nofun
 show wpAny _ _ (richCompare .Eq (.ref x) (.ref y)) _ _ _
 unfold richCompare
 simp -iota only [oneThing_ref,cmpInfo_Eq]
 refine wpAny_holding (wpAny_bind (wpAny_cRoomFor hu ?_))
 refine wpAny_bind (I.type.here (wpAny_bind (J.type.here ?_)))
 refine rwl (if_neg (by simp) ..) ?_
 refine wpAny_bind (wpAny_pure ?_)
 simp -iota only [Bool.false_eq_true,if_false]
 refine wpAny_bind ?_
 unfold tryCompare
 refine wpAny_bind (ifBound_eq X I hs (call_eq_other X I hm hxy J.at_ I.at_ hnx (wpAny_pure ?_)))
 simp -iota only [Bool.not_false,if_true]
 refine wpAny_bind (wpAny_bind (ifBound_eq X J hs (call_eq_other X J hm hxy.symm I.at_ J.at_ hny (wpAny_pure ?_))))
 refine wpAny_bind (wpAny_rule (wpAny_bind (wpAny_isSame_ref_other hxy I.at_ J.at_ hnx ?_)))
 exact wpAny_pure hq
end
theorem slot_fn_ne:Slot "function" "__ne__" "object.__ne__":=Slot.of (T:="function") (name:="__ne__") (owner:="object") (n:="__ne__") (by (refine rwl (typeLookup_type ..) ?_;refine rwl (builtinLookup_eq_fast ..) ?_);kernel_rfl) (by decide +kernel) (by decide +kernel) (by decide +kernel) (by first | exact .inl (by decide +kernel) | exact .inr (by decide +kernel)) (by refine rwl (isSubtype_type ..) ?_;kernel_rfl)
theorem slot_fn_eq:Slot "function" "__eq__" "object.__eq__":=Slot.of (T:="function") (name:="__eq__") (owner:="object") (n:="__eq__") (by (refine rwl (typeLookup_type ..) ?_;refine rwl (builtinLookup_eq_fast ..) ?_);kernel_rfl) (by decide +kernel) (by decide +kernel) (by decide +kernel) (by first | exact .inl (by decide +kernel) | exact .inr (by decide +kernel)) (by refine rwl (isSubtype_type ..) ?_;kernel_rfl)
theorem sub_NoneType_fn:isSubtype (.type "NoneType") (.type "function")=pure false:=by refine rwl (isSubtype_type ..) ?_;kernel_rfl
theorem none_ne_ref (a:Addr):Gives (Builtin.«NoneType.__ne__» ⟨[.none,.ref a],[]⟩) (.val (Value.notImplemented)) :=
 .of_wp fun M A E s Q h=>by obtain ⟨hp,g,d,tk,os⟩:=s;wp_walk;exact ⟨_,rfl,h⟩
section
variable {prog:Program} {w:World} {A:Around} {E:Value→Shared→Prop} {s:Shared} {fa:Addr}
theorem objEq_ref_none {Q:Fin→Shared→Prop} (hq:Q (.done (.ret .notImplemented)) s):wpAny (model prog w) A (Builtin.«object.__eq__» ⟨[.ref fa,.none],[]⟩) Q E s:=by
 unfold Builtin.«object.__eq__»
 obtain ⟨hp,g,d,tk,os⟩:=s
 wp_walk
 exact hq
theorem fn_special_eq (hT:s.TypeIs (.ref fa) "function") {Q:Option Value→Shared→Prop} (hq:Q (some .notImplemented) s):wpAny (model prog w) A (callSpecialIfBound? (.ref fa) "__eq__" [.none]) Q E s:=by
 simp -iota only [callSpecialIfBound?,bindSpecialIfBound?]
 refine wpAny_holding (wpAny_bind (wpAny_bind (wpAny_specialOf hT slot_fn_eq.lookup ?_)))
 dsimp only;rw [slot_fn_eq.bind]
 refine wpAny_bind (wpAny_askSetting (wpAny_ite ?_))
 have hcall:wpAny (model prog w) A (call (.builtin "object.__eq__") ([.ref fa]++[.none])) (fun v s'=>v=.notImplemented∧Q (some v) s') E s :=
  wpAny_call (codeAny_call_builtin slot_fn_eq.plain F.cmpEntry_eq (slot_fn_eq.check _ _ _ _ _ _ _ _ hT (F.cmpArgs_eq _ _) (objEq_ref_none ⟨rfl,hq⟩)))
 have fin:wpAny (model prog w) A (call (.builtin "object.__eq__") ([.ref fa]++[.none]) >>= fun v=>pure (some v)) Q E s:=wpAny_bind (wpAny_mono hcall (fun v s' h'=>wpAny_pure h'.2) fun _ _ h'=>h')
 split
 ·exact wpAny_bind (wpAny_pure (wpAny_pure fin))
 ·exact wpAny_tryCatch (wpAny_bind (wpAny_pure (wpAny_pure fin)))
theorem objNe_ref_none (hT:s.TypeIs (.ref fa) "function") (hu:A.units < cLine) {Q:Fin→Shared→Prop} (hq:Q (.done (.ret .notImplemented)) s) :
  wpAny (model prog w) A (Builtin.«object.__ne__» ⟨[.ref fa,.none],[]⟩) Q E s:=by
 unfold Builtin.«object.__ne__»
 obtain ⟨hp,g,d,tk,os⟩:=s
 repeat (first | with_reducible refine wpAny_cRoomFor hu ?_ | with_reducible refine fn_special_eq hT ?_ | wp_step)
 exact hq
theorem ne_fn_none {Q:Value→Shared→Prop} (hT:s.TypeIs (.ref fa) "function") (hu:A.units + 1 < cLine) (hq:Q (.bool true) s):wpAny (model prog w) A (compareOp .NotEq (.ref fa) .none) Q E s:=by
 show wpAny _ A (richCompare .NotEq _ _) Q E s
 have hu0:A.units < cLine:=Nat.lt_of_succ_lt hu
 unfold richCompare
 simp -iota only [cmpInfo_NotEq,hT.oneThing_none]
 refine wpAny_holding (wpAny_bind (wpAny_cRoomFor hu0 ?_))
 refine wpAny_bind (wpAny_typeOf hT (wpAny_bind (wpAny_typeOf (T:="NoneType") rfl ?_)))
 refine rwl (if_pos (by decide) ..) ?_
 refine wpAny_bind (wpAny_of_eq sub_NoneType_fn ?_)
 simp -iota only [Bool.false_eq_true,if_false]
 refine wpAny_bind (m:=tryCompare _ _ _) (wpAny_tryCompare_declines hT slot_fn_ne ?_)
 refine wpAny_call (codeAny_call_builtin slot_fn_ne.plain F.cmpEntry_ne (slot_fn_ne.check _ _ _ _ _ _ _ _ hT (F.cmpArgs_ne _ _) (objNe_ref_none hT hu ?_)))
 refine ⟨rfl,?_⟩
 simp -iota only [Bool.not_false,if_true]
 refine wpAny_bind (m:=tryCompare _ _ _) (wpAny_tryCompare_declines (T:="NoneType") rfl F.slot_NoneType_ne_refl ?_)
 refine call_gives F.slot_NoneType_ne_refl rfl F.entry_NoneType_ne (F.args_NoneType_ne_2 _ _) (none_ne_ref fa) ⟨rfl,?_⟩
 exact wpAny_bind (wpAny_rule (wpAny_bind (wpAny_of_eq (show isSame (.ref fa) .none=pure false from rfl) (wpAny_pure hq))))
end
end Mine
namespace Mine
local macro_rules | `(tactic| walk_at $k:str)=>`(tactic| k_extra $k)
local macro_rules | `(tactic| k_mem)=>`(tactic| k_extra "mem")
local macro_rules | `(tactic| ktr_room)=>`(tactic| k_extra "room")
local macro_rules | `(tactic| ktr_units)=>`(tactic| k_extra "units")
theorem said:True:=by
 k_with "mem"=>first | (with_reducible exact List.mem_cons_self) | (with_reducible refine' List.mem_cons_of_mem _ ?_;k_mem) | (with_reducible assumption) | (with_reducible refine' List.mem_append_right _ ?_;k_mem) | (with_reducible exact mem_upd_self) | (with_reducible refine' mem_upd ?_ ?_;k_mem;first | exact NeA.out (by with_reducible assumption) | k_ne) | exact List.mem_cons_self | exact mem_upd_self | assumption
 k_with "room"=>first | exact room _ hdp _ (fun _=>rfl) (fun _=>rfl) rfl | (dsimp only [A1];exact room _ hdp _ (fun _=>rfl) (fun _=>rfl) rfl) | exact ar_dp hdp | exact ar_dp5 hdp (by assumption) | (dsimp only [A1];first | exact ar_dp hdp | exact ar_dp5 hdp (by assumption))
 k_with "units"=>first | exact room _ hun _ (fun _=>rfl) (fun _=>rfl) rfl | (dsimp only [A1];exact room _ hun _ (fun _=>rfl) (fun _=>rfl) rfl) | exact ar_un hun | exact ar_un5 hun (by assumption) | (dsimp only [A1];first | exact ar_un hun | exact ar_un5 hun (by assumption))
 k_with "execs cons"=>((refine (?_:PySem.wpAny _ _ _ _ _ _));(try refine (?_:PySem.wpAny _ _ _ _ _ (PySem.Shared.mk _ _ _ _ _)));(try k_gentoks);(try k_extra "f");(with_reducible refine seq_k ?_);(try dsimp only))
 k_with "execs nil"=>((refine (?_:PySem.wpAny _ _ _ _ _ _));(try refine (?_:PySem.wpAny _ _ _ _ _ (PySem.Shared.mk _ _ _ _ _)));(try k_gentoks);(try k_extra "f");(refine PySem.wpAny_execs_nil ?_))
 k_with "eval Attribute Name"=>refine attr_k ?_
 k_with "eval Call Attribute"=>refine me_k ?_
 k_with "eval Call"=>(plain_pass;refine call_k ?_)
 k_with "spliced"=>(plain_pass;refine arg_k ?_)
 k_with "isTrue Compare"=>refine cmpt_k ?_
 k_with "eval Compare"=>refine cmp_k ?_
 k_with "exec If"=>refine if_k ?_
 k_with "exec Assign"=>first | (with_reducible refine sa_k ?_ ?_;rotate_left;with_unfolding_all rfl) | (plain_pass;refine sto_k ?_)
 k_with "exec Expr"=>(plain_pass;refine exp_k ?_)
 k_with "exec Return some"=>refine ret_k ?_
 k_with "isTrue BoolOp"=>((fail_if_success with_reducible refine PyProof.Rows.isTrue_and_nil ?_);with_reducible refine and_k ?_)
 k_with "isTrue"=>(plain_pass;refine plain_k ?_)
 k_with "eval Subscript"=>refine sub_k ?_
 k_with "eval BinOp"=>refine bin_k ?_
 k_with "eval IfExp"=>with_reducible refine ife_k ?_
 k_with "eval Tuple"=>refine tup_k ?_
 k_with "eval List"=>refine lst_k ?_
 k_with "truthy bool"=>(refine PySem.wpAny_truthy_bool ?_;try ((fail_if_success with_reducible refine PyProof.Rows.ite_tt ?_);(fail_if_success with_reducible refine PyProof.Rows.ite_ff ?_);with_reducible refine ite_id ?_))
 k_with "ite"=>first | with_reducible refine PyProof.Rows.ite_tt ?_ | with_reducible refine PyProof.Rows.ite_ff ?_
 k_with "storeName"=>(k_here;k_dflt (refine' storeX_k ?F ?N ?_ ?a ?b;(case F=>k_asm);(case N=>k_asm);(case a=>rfl);(case b=>rfl);k_whole;intro _ _ _;(try k_sweep)))
 k_with "ar"=>first | exact ar_dec (by assumption) | exact ar_succ (by assumption) | exact ar_le (by assumption) (by rfl) | exact ar_lt (by assumption) (by rfl) | exact ar_eq (by assumption) (by assumption) (by rfl) | exact ar_le2 (by assumption) (by assumption) (by rfl) | exact ar_lt2 (by assumption) (by assumption) (by rfl) | exact ar_inc (by assumption) (by assumption) (by rfl) | exact ar_lit (by assumption) (by assumption) (by rfl) | exact ar_inmin (by assumption) (by assumption) | exact ar_min (by assumption) (by rfl) | exact ar_add (by assumption) (by assumption) (by rfl) | exact ar_add2 (by assumption) (by assumption) (by assumption) (by rfl) | exact ar_un (by assumption) | exact ar_dp (by assumption) | exact ar_un5 (by assumption) (by assumption) | exact ar_dp5 (by assumption) (by assumption) | exact ar_c3 (by assumption) (by assumption) | exact ar_c4 (by assumption) (by assumption) (by assumption) | exact ar_c1 (by assumption) (by assumption) | exact ar_c2 (by assumption) (by assumption) (by rfl) | exact ar_nat (by assumption) (by assumption) (by assumption) | exact ar_63 (by assumption) (by assumption) (by rfl) | exact ar_pos (by assumption) | exact ar_i63 (by assumption) (by rfl) | exact ar_tn (by assumption) | exact ar_lv (by assumption) (by assumption) (by assumption) | exact ar_29 (by assumption) | exact ar_k (by assumption) | exact ar_k1 (by assumption) | exact ar_s0 (by assumption) (by assumption) | exact ar_s1 (by assumption) | exact ar_s2 (by assumption) | exact ar_nl (by assumption) (by assumption) | exact ar_pd (by assumption) (by assumption) | exact ar_im | exact ar_5 _ (by assumption) | exact ar_end (by assumption) (by assumption) | exact Nat.le_sub_one_of_lt (by assumption) | exact Nat.lt_succ_self _ | exact Nat.add_le_add (by assumption) (by assumption) | exact Nat.add_le_add_left (by assumption) _ | exact Int.zero_add _ | exact (Int.ofNat_lt.mpr (by assumption))
 k_with "leaving ref"=>((guard_hyp lvMark:True);k_here;(refine leave_newS (by k_asm) (by assumption) (by k_asm) (by k_asm) ?_);intro hZ S' R' U';(try dsimp only at S' R' U' ⊢))
 k_with "callWith ref"=>(k_here;k_dflt (first | (refine' callK_k ?k1 ?k2 ?_;(case k1=>k_asm);(case k2=>k_is);k_whole) | (refine' callM_k ?k1 ?k2 ?k3 ?k4 ?_;(case k1=>k_asm);(case k2=>k_asm);(case k3=>k_mem);(case k4=>k_is);k_whole)))
 k_with "f"=>with_reducible first | refine (?_:PySem.wpAny _ _ _ _ _ (hst s _ _)) | refine (?_:PySem.wpAny _ _ _ _ _ (hst s₂ _ _)) | refine (?_:PySem.wpAny _ _ _ _ _ (hst s₁ _ _))
 k_with "w"=>((try k_extra "f");walk1;(try k_extra "f"))
 k_with "kE"=>(k_dflt (refine' code_def ?k1 ?k2 ?k3 ?k4 ?k5 ?kA ?kF ?kK ?k6 ?k7 ?k8 ?k9 ?kB ?_ ?c2 ?c3 ?c4 ?c5;(case kA | kF=>exact rfl);(case kK=>first | exact rfl | assumption);(case k1 | k2 | k3 | k4 | k5=>k_asm);(case k6 | k7=>k_is);(case k8=>ktr_room);(case k9=>first | exact BindsTo.of_eq rfl | exact binds_K (by k_in) rfl (by k_is) rfl rfl rfl | (refine' kp_binds ?kx ?ke;(case kx=>k_in);(case ke=>exact fun _=>rfl)));(case c5=>decide);(case kB=>exact locs rfl);(case c2 | c3 | c4=>exact rfl);k_whole);intro g' L' h' FG' F0 N' B' X' T';refine (let m1:=_;fun (F':Fr _ _ _ m1)=>?_) F0;clear F0;(try refine (let A1:=_;let qk:=_;let ek:=_;(?_:wpAny _ A1 _ qk ek _)));(try dsimp only))
 k_with "kC"=>(k_dflt (refine' code_defC ?k1 ?k2 ?k3 ?k4 ?k5 ?kA ?kF ?kK ?k6 ?k7 ?k8 ?k9 ?kB ?kD ?_ ?c2 ?c3 ?c4;(case kA | kF=>exact rfl);(case kK=>first | exact rfl | assumption);(case k1 | k2 | k3 | k4 | k5=>k_asm);(case k6 | k7=>k_is);(case k8=>ktr_room);(case k9=>first | exact BindsTo.of_eq rfl | exact binds_K (by k_in) rfl (by k_is) rfl rfl rfl | (refine' kp_binds ?kx ?ke;(case kx=>k_in);(case ke=>exact fun _=>rfl)));(case kB=>exact rfl);(case kD=>decide +kernel);(case c2 | c3 | c4=>exact rfl);k_whole);intro g' L' h' tk' cells' FG' F0 N' Y' B' X' T' l1;k_cells Y';(try simp only [List.cons_append,List.nil_append] at N');refine (let m1:=_;fun (F':Fr _ _ _ m1)=>?_) F0;clear F0;(try refine (let A1:=_;let qk:=_;let ek:=_;(?_:wpAny _ A1 _ qk ek _)));(try dsimp only))
 k_with "kR"=>(k_dflt (refine' kp_rest ?k1 ?k2 ?k3 ?k4 ?k5 ?kA ?kF ?kK ?k6 ?k7 ?k8 ?kV ?kP ?kG ?kB ?_ ?c2 ?c3 ?c4 ?c5;(case kA | kF=>exact rfl);(case kK=>first | exact rfl | assumption);(case k1 | k2 | k3 | k4 | k5=>k_asm);(case k6 | k7=>k_is);(case k8=>ktr_room);(case kV=>kl_lit);(case kP=>exact rfl);(case kG=>exact fun _=>rfl);(case kB=>exact fun _=>locs rfl);(case c5=>decide);(case c2 | c3 | c4=>exact rfl);k_whole);intro D' g' L' h' l1 FG' F0 N' B' X' T';refine (let m1:=_;fun (F':Fr _ _ _ m1)=>?_) F0;clear F0;(try refine (let A1:=_;let qk:=_;let ek:=_;(?_:wpAny _ A1 _ qk ek _)));(try dsimp only))
 k_with "kN0"=>(refine ks_node (by k_asm) (by k_asm) (by k_asm) (by k_asm) (by k_is) (by rfl) (by rfl) (by k_inst) (by k_is) (by rfl) (by first | exact M.lvl.2.1 | exact hpg.1 | rfl | decide +kernel) (by k_is) (by k_is) (by k_is) (by k_is) (by decide) (by rfl) (by rfl) (by rfl) (by rfl) (by first | exact M.lvl.2.2 | exact hpg.2 | decide +kernel) (by first | boot_by_name | rfl | kernel_rfl) ?_;intro so1 hS1 FS1 NS1 lS1;refine ks_method (by k_asm) (by k_asm) (by k_asm) (.head _) (by k_inst) (by k_is) (by first | k_is | ks_is) (by k_is) (by decide) ?_;intro q1 hQ1 FQ1 NQ1 lQ1)
 k_with "kN"=>(refine ks_node (by k_asm) (by k_asm) (by k_asm) (by k_asm) (by k_is) (by rfl) (by rfl) (by k_inst) (by k_is) (by rfl) (by first | exact M.lvl.2.1 | exact hpg.1 | rfl | decide +kernel) (by k_is) (by k_is) (by k_is) (by k_is) (by decide) (by rfl) (by rfl) (by rfl) (by rfl) (by first | exact M.lvl.2.2 | exact hpg.2 | decide +kernel) (by first | boot_by_name | rfl | kernel_rfl) ?_;intro so1 hS1 FS1 NS1 lS1;refine sup_attr (by k_asm) (by k_asm) (by k_asm) (.head _) (by k_inst) (by k_is) (by first | k_is | ks_is) (by k_is) (by decide) ?_;intro q1 hQ1 FQ1 NQ1 lQ1)
 k_with "kS1"=>(refine meth_star ?_;(iterate 2 k_extra "w");refine callWith_SM (K:=Kp w.params) (by k_asm) (.head _) (by k_is) ?_;(iterate 3 k_extra "w");refine call_meth (by k_asm) (.head _) ?_)
 k_with "kT0"=>(k_dflt (refine' ks_code_super ?k1 ?k2 ?k3 ?k4 ?k5 ?kA ?kF ?kK ?k6 ?k7 ?k8 ?k9 ?kB ?_ ?c1 ?c2 ?c3 ?c4;(case kA | kF=>exact rfl);(case kK=>first | exact rfl | assumption);(case k1 | k2 | k3 | k4 | k5=>k_asm);(case k6 | k7=>k_is);(case k8=>ktr_room);(case k9=>first | exact BindsTo.of_eq rfl | exact binds_K (by k_in) rfl (by k_is) rfl rfl rfl | (refine' kp_binds ?kx ?ke;(case kx=>k_in);(case ke=>exact fun _=>rfl)));(case kB=>exact locs rfl);(case c1=>decide);(case c2 | c3 | c4=>exact rfl);k_whole);intro g' L' h' FG' F0 N' B' X' T' l1;refine (let m1:=_;fun (F':Fr _ _ _ m1)=>?_) F0;clear F0;(try refine (let A1:=_;let qk:=_;let ek:=_;(?_:_root_.PySem.wpAt _ A1 _ _ qk ek _)));(try dsimp only))
 k_with "kT"=>(k_dflt (refine' sup_rest ?k1 ?k2 ?k3 ?k4 ?k5 ?kA ?kF ?kK ?k6 ?k7 ?k8 ?kV ?kP ?kG ?kB ?_ ?c2 ?c3 ?c4 ?c5;(case kA | kF=>exact rfl);(case kK=>first | exact rfl | assumption);(case k1 | k2 | k3 | k4 | k5=>k_asm);(case k6 | k7=>k_is);(case k8=>ktr_room);(case kV=>kl_lit);(case kP=>exact rfl);(case kG=>exact fun _=>rfl);(case kB=>exact fun _=>locs rfl);(case c5=>decide);(case c2 | c3 | c4=>exact rfl);k_whole);intro D' g' L' h' l1 FG' F0 N' B' X' T';refine (let m1:=_;fun (F':Fr _ _ _ m1)=>?_) F0;clear F0;(try refine (let A1:=_;let qk:=_;let ek:=_;(?_:_root_.PySem.wpAt _ A1 _ _ qk ek _)));(try dsimp only))
 k_with "kRC"=>(k_dflt (refine' rest_cells ?k1 ?k2 ?k3 ?k4 ?k5 ?kA ?kF ?kK ?k6 ?k7 ?k8 ?kV ?kP ?kG ?kB ?kD ?_ ?c2 ?c3 ?c4;(case kA | kF=>exact rfl);(case kK=>first | exact rfl | assumption);(case k1 | k2 | k3 | k4 | k5=>k_asm);(case k6 | k7=>k_is);(case k8=>ktr_room);(case kV=>kl_lit);(case kP=>exact rfl);(case kG | kB=>exact fun _=>rfl);(case kD=>decide +kernel);(case c2 | c3 | c4=>exact rfl);k_whole);intro D' g' L' h' tk' cells' l0 FG' F0 N' Y' B' X' T' l1;k_cells Y';(try simp only [List.cons_append,List.nil_append] at N');refine (let m1:=_;fun (F':Fr _ _ _ m1)=>?_) F0;clear F0;(try refine (let A1:=_;let qk:=_;let ek:=_;(?_:wpAny _ A1 _ qk ek _)));(try dsimp only))
 k_with "kTE"=>(refine call_res ?_;k_dflt (refine' code_tryX ?k1 ?k2 ?k3 ?k4 ?k5 ?kA ?kF ?kK ?k6 ?k7 ?k8 ?k9 ?kB ?_ ?c2 ?c3 ?c4 ?c5;(case kA | kF=>exact rfl);(case kK=>first | exact rfl | assumption);(case k1 | k2 | k3 | k4 | k5=>k_asm);(case k6 | k7=>k_is);(case k8=>ktr_room);(case k9=>first | exact BindsTo.of_eq rfl | exact binds_K (by k_in) rfl (by k_is) rfl rfl rfl | (refine' kp_binds ?kx ?ke;(case kx=>k_in);(case ke=>exact fun _=>rfl)));(case c5=>decide);(case kB=>exact locs rfl);(case c2 | c3 | c4=>exact rfl);k_whole);intro g' L' h' FG' F0 N' B' X' T' D';refine (let m1:=_;fun (F':Fr _ _ _ m1)=>?_) F0;clear F0;(try refine (let A1:=_;let qk:=_;let ek:=_;(?_:wpAny _ A1 _ qk ek _)));(try dsimp only))
 trivial
structure RoleA where
 (x d rl ul m1 m2:Addr)
 nm:Str
 (tn t1 t2 t3 t4 t5:Tok)
abbrev RoleA.sr (a:RoleA) (q:Addr):RoleA:={ a with rl:=q }
abbrev RoleA.su (a:RoleA) (q:Addr):RoleA:={ a with ul:=q }
noncomputable abbrev roleDE (P:Params) (r:RoleA):List DictEntry:=[⟨PyData.keyHash P "name",.str "name" r.t1,.str r.nm r.tn⟩,⟨PyData.keyHash P "roles",.str "roles" r.t2,.ref r.rl⟩,⟨PyData.keyHash P "users",.str "users" r.t3,.ref r.ul⟩,
 ⟨PyData.keyHash P "link_condition_func_map",.str "link_condition_func_map" r.t4,.ref r.m1⟩,⟨PyData.keyHash P "link_condition_func_params_map",.str "link_condition_func_params_map" r.t5,.ref r.m2⟩]
noncomputable abbrev roleD (P:Params) (r:RoleA):Obj:=dictOf (roleDE P r) 5
section
variable {prog:Program} {w:World} {p:Program} {loose:List Str} {mean:ExcName→Option Value} {mg mb:Str→Option Value}
 {dp un:Nat} {gd:Option (List Code)} {cn:Str} {cs:Scope} {a:Addr} {ccd:Value} {cl:List (Str×Addr)} {outer:List Env} {A₀:Around} {base h₀:Heap} {L:Addr} {m:Str→Option Value} {s:Shared} {Q E:Value→Shared→Prop} {news:Led}

theorem add_user (r:RoleA) (u ud:Addr) (us:List Addr) (k:Nat) (B:Below A₀ base outer h₀) (F:Fr h₀ L s.heap m) (X:(Kp w.params).In h₀) (N:News h₀ L s.heap news) (T:Top p loose mean mg mb h₀) (hk:cs.kind=.function) (hdp:dp + 1 < recursionLimit) (hun:un + 8 < cLine)
 (hx:(r.x,instObj 814 r.d)∈news) (hd:(r.d,roleD w.params r)∈news) (hl:(r.ul,refsO us k)∈news) (hus:us.length≤100) (hin:InstsIn 814 us news) (hu:(u,instObj 814 ud)∈news)
 (ret:∀ h' tk' q,Fr h₀ L h' m→(∀ p∈news,p.1≠q)→News h₀ L h' (upd r.d (roleD w.params (RoleA.su r q)) ((q,refsO ((us.filter fun b=>b != u)++[u]) 0)::news))→Q .none { s with heap:=h',toks:=tk' })
 : wpAny (model prog w) (ktrTop dp un gd cn cs L a ccd cl outer) (call (.ref 750) [.ref r.x,.ref u]) Q E s:=by
 (refine call_res ?_;k_extra "kC")
 k_extra "w"
 k_extra "w"
 k_extra "w"
 refine comp_test (fun v=>v != Value.ref u) id (by k_asm) rfl ?_ rfl (by decide) rfl (by decide) (by decide) (by intro _;rfl)
 k_extra "w"
 k_extra "w"
 k_extra "w"
 refine i_E4A7 _ (us.map Value.ref) k _ rfl (by k_asm) (by k_asm) (by k_mem) (by refine rwl (List.length_map ..) ?_;k_extra "ar") ?_ ?_ ?_
 ·intro v hv I oI C oC D ys m₂ h tk E' hns hm2 F'' N''
  (refine e_EA (List.mem_map.mp hv) ?_;intro b hb e9_2;subst e9_2)
  (refine e_E (hin b hb) ?_;intro bd hbd)
  iterate 3 k_extra "w"
  refine isnot_refs (get_of_news N'' (by k_mem)) (get_of_news N'' (by k_mem)) (by nofun) ?_
  k_extra "w"
  exact i_AE2A2 (bne_ref _ _) _ _ rfl F'' N''
 ·intro v hv I oI C oC D ys m₂ h tk E' hns hm2 F'' N''
  k_extra "w"
  exact i_AE2A2 rfl _ _ rfl F'' N''
 ·intro D h tk F'' N'' hD
  rw [filter_refs,List.map_id] at N''
  k_extra "w"
  k_extra "w"
  k_extra "w"
  k_extra "w"
  k_extra "w"
  refine add_lists2 (by k_asm) (by k_asm) (by k_mem) (by k_mem) ?_ ?_
  ·have:=List.length_filter_le (fun b=>b != u) us
   simp only [List.length_map,List.length_singleton];k_extra "ar"
  intro q h3 F3 N3 l3
  k_extra "w"
  refine set_upd (by k_asm) (by k_asm) (by k_asm) (by k_mem) (by k_mem) (by k_is) (by k_is) (by k_is) (by k_is) (by k_get) (by k_put) (Nat.le_of_ble_eq_true rfl) ?_
  intro h4 F4 N4
  iterate 2 k_extra "w"
  refine ret _ _ q (by k_asm) (fun p hp=>Nat.ne_of_lt (l3 _ (by k_mem))) (news_sub (by k_asm) fun p hp=>?_)
  rcases of_mem_upd hp with rfl | ⟨hp,hn⟩
  ·exact mem_upd_self
  ·refine mem_upd ?_ hn
   rcases List.mem_cons.mp hp with rfl | hp
   ·first | k_mem | simp
   ·first | k_mem | simp [hp]
theorem remove_user (r:RoleA) (u ud:Addr) (us:List Addr) (k:Nat) (B:Below A₀ base outer h₀) (F:Fr h₀ L s.heap m) (X:(Kp w.params).In h₀) (N:News h₀ L s.heap news) (T:Top p loose mean mg mb h₀) (hk:cs.kind=.function) (hdp:dp + 1 < recursionLimit) (hun:un + 8 < cLine)
 (hx:(r.x,instObj 814 r.d)∈news) (hd:(r.d,roleD w.params r)∈news) (hl:(r.ul,refsO us k)∈news) (hus:us.length≤100) (hin:InstsIn 814 us news) (hu:(u,instObj 814 ud)∈news)
 (ret:∀ h' tk' q k',Fr h₀ L h' m→(∀ p∈news,p.1≠q)→News h₀ L h' (upd r.d (roleD w.params (RoleA.su r q)) ((q,refsO (us.filter fun b=>b != u) k')::news))→Q .none { s with heap:=h',toks:=tk' })
 : wpAny (model prog w) (ktrTop dp un gd cn cs L a ccd cl outer) (call (.ref 755) [.ref r.x,.ref u]) Q E s:=by
 (refine call_res ?_;k_extra "kC")
 k_extra "w"
 k_extra "w"
 refine comp_test (fun v=>v != Value.ref u) id (by k_asm) rfl ?_ rfl (by decide) rfl (by decide) (by decide) (by intro _;rfl)
 k_extra "w"
 k_extra "w"
 k_extra "w"
 refine i_E4A7 _ (us.map Value.ref) k _ rfl (by k_asm) (by k_asm) (by k_mem) (by refine rwl (List.length_map ..) ?_;k_extra "ar") ?_ ?_ ?_
 ·intro v hv I oI C oC D ys m₂ h tk E' hns hm2 F'' N''
  (refine e_EA (List.mem_map.mp hv) ?_;intro b hb e9_2;subst e9_2)
  (refine e_E (hin b hb) ?_;intro bd hbd)
  iterate 3 k_extra "w"
  refine isnot_refs (get_of_news N'' (by k_mem)) (get_of_news N'' (by k_mem)) (by nofun) ?_
  k_extra "w"
  exact i_AE2A2 (bne_ref _ _) _ _ rfl F'' N''
 ·intro v hv I oI C oC D ys m₂ h tk E' hns hm2 F'' N''
  k_extra "w"
  exact i_AE2A2 rfl _ _ rfl F'' N''
 ·intro D h tk F'' N'' hD
  rw [filter_refs,List.map_id] at N''
  k_extra "w"
  refine set_upd (by k_asm) (by k_asm) (by k_asm) (by k_mem) (by k_mem) (by k_is) (by k_is) (by k_is) (by k_is) (by k_get) (by k_put) (Nat.le_of_ble_eq_true rfl) ?_
  intro h4 F4 N4
  iterate 2 k_extra "w"
  refine ret _ _ D ((us.filter fun b=>b != u).map Value.ref).length (by k_asm) (fun p hp=>hD _ (by k_mem)) (news_sub (by k_asm) fun p hp=>?_)
  rcases of_mem_upd hp with rfl | ⟨hp,hn⟩
  ·exact mem_upd_self
  ·refine mem_upd ?_ hn
   rcases List.mem_cons.mp hp with rfl | hp
   ·first | k_mem | simp
   ·first | k_mem | simp [hp]
end
inductive F2 {α β:Type} (R:α→β→Prop):List α→List β→Prop
 | nil:F2 R [] []
 | cons {a b as bs}:R a b→F2 R as bs→F2 R (a::as) (b::bs)
namespace F2
variable {α β γ δ:Type} {R S:α→β→Prop} {as as':List α} {bs bs':List β}
theorem mono (h:F2 R as bs) (k:∀ a b,R a b→S a b):F2 S as bs:=by
 induction h with
 | nil=>exact .nil
 | cons h _ ih=>exact .cons (k _ _ h) ih
theorem monoMem (h:F2 R as bs) (k:∀ a∈as,∀ b∈bs,R a b→S a b):F2 S as bs:=by
 induction h with
 | nil=>exact .nil
 | cons h _ ih=>exact .cons (k _ (.head _) _ (.head _) h) (ih fun a ha b hb=>k a (.tail _ ha) b (.tail _ hb))
theorem append (h:F2 R as bs) (h':F2 R as' bs'):F2 R (as++as') (bs++bs'):=by
 induction h with
 | nil=>exact h'
 | cons h _ ih=>exact .cons h ih
theorem one {a:α} {b:β} (h:R a b):F2 R [a] [b]:=.cons h .nil
theorem length (h:F2 R as bs):as.length=bs.length:=by
 induction h with
 | nil=>rfl
 | cons _ _ ih=>(refine rwl (List.length_cons ..) ?_;refine rwl (List.length_cons ..) ?_;refine rwl (ih ..) ?_;with_reducible rfl)
theorem filter (h:F2 R as bs) (p:α→Bool) (q:β→Bool) (k:∀ a b,R a b→p a=q b):F2 R (as.filter p) (bs.filter q):=by
 induction h with
 | nil=>exact .nil
 | @cons a b as bs h _ ih =>
  (refine rwl (List.filter_cons ..) ?_;refine rwl (List.filter_cons ..) ?_;refine rwl (k _ _ h ..) ?_)
  split
  ·exact .cons h ih
  ·exact ih
theorem left {a:α} (h:F2 R as bs) (m:a∈as):∃ b∈bs,R a b:=by
 induction h with
 | nil=>nomatch m
 | cons h _ ih =>
  rcases List.mem_cons.mp m with rfl | m
  ·exact ⟨_,.head _,h⟩
  ·(refine e_EA (ih m) ?_;intro b hb r)
   exact ⟨b,.tail _ hb,r⟩
theorem right {b:β} (h:F2 R as bs) (m:b∈bs):∃ a∈as,R a b:=by
 induction h with
 | nil=>nomatch m
 | cons h _ ih =>
  rcases List.mem_cons.mp m with rfl | m
  ·exact ⟨_,.head _,h⟩
  ·(refine e_EA (ih m) ?_;intro b hb r)
   exact ⟨b,.tail _ hb,r⟩
theorem map {T:γ→δ→Prop} {f:α→γ} {g:β→δ} (h:F2 R as bs) (k:∀ a b,R a b→T (f a) (g b)):F2 T (as.map f) (bs.map g):=by
 induction h with
 | nil=>exact .nil
 | cons h _ ih=>exact .cons (k _ _ h) ih
theorem nth (h:F2 R as bs) {i:Nat} {a:α} (e:as[i]?=some a):∃ b,bs[i]?=some b∧R a b:=by
 induction h generalizing i with
 | nil=>simp at e
 | cons h _ ih =>
  cases i with
  | zero=>simp at e;subst e;exact ⟨_,rfl,h⟩
  | succ i=>simp at e;exact ih e
theorem join {T:γ→β→Prop} {f:α→δ} {U:δ→γ→Prop} {cs:List γ} (h:F2 R as bs) (h':F2 U (as.map f) cs) (k:∀ a b c,R a b→U (f a) c→T c b):F2 T cs bs:=by
 induction h generalizing cs with
 | nil=>cases h';exact .nil
 | cons h _ ih =>
  cases h' with
  | cons u h'=>exact .cons (k _ _ _ h u) (ih h')
end F2
theorem inj_of_nodup_map {α β:Type} {f:α→β}:∀ {l:List α},(l.map f).Nodup→∀ {a b},a∈l→b∈l→f a=f b→a=b
 | [],_,_,_,h,_,_=>nomatch h
 | x::l,hn,a,b,ha,hb,e=>by
  rw [List.map_cons,List.nodup_cons] at hn
  rcases List.mem_cons.mp ha with ea | ha'
  ·rcases List.mem_cons.mp hb with eb | hb'
   ·(refine rwl (ea ..) ?_;refine rwl (eb ..) ?_;with_reducible rfl)
   ·exact absurd (by (refine rwr (ea ..) ?_;refine rwl (e ..) ?_);exact List.mem_map_of_mem hb') hn.1
  ·rcases List.mem_cons.mp hb with eb | hb'
   ·exact absurd (by (refine rwr (eb ..) ?_;refine rwr (e ..) ?_);exact List.mem_map_of_mem ha') hn.1
   ·exact inj_of_nodup_map hn.2 ha' hb' e
noncomputable def Names:List Str:=["ann","bob","cat","dan","yak","zed"]
theorem names_short {n:Str} (h:n∈Names):n.length≤100:=by
 have:∀ n∈Names,n.length≤100:=by decide +kernel
 exact this n h
theorem nodup_le {α:Type} [BEq α] [LawfulBEq α]:∀ {l m:List α},l.Nodup→(∀ x∈l,x∈m)→l.length≤m.length
 | [],_,_,_=>Nat.zero_le _
 | a::l,m,hn,hs=>by
  rw [List.nodup_cons] at hn
  have ha:=hs a (.head _)
  have h:=nodup_le (l:=l) (m:=m.erase a) hn.2 fun x hx=>(List.mem_erase_of_ne (fun e:x=a=>hn.1 (by refine rwr (e ..) ?_;exact hx))).mpr (hs x (.tail _ hx))
  rw [List.length_erase_of_mem ha] at h
  have:0 < m.length:=List.length_pos_of_mem ha
  refine rwl (List.length_cons ..) ?_;k_extra "ar"
structure RoleS where
 a:RoleA
 (rs us:List Addr)
 (k k2:Nat)
structure RoleIn (P:Params) (news:Led) (r:RoleS):Prop where
 x:(r.a.x,instObj 814 r.a.d)∈news
 d:(r.a.d,roleD P r.a)∈news
 l:(r.a.rl,refsO r.rs r.k)∈news
 u:(r.a.ul,refsO r.us r.k2)∈news
structure RmA where
 (x d al ar lam:Addr)
 (lvl:Int)
 (tl t1 t2 t3 t4 t5:Tok)
 dmf:Value
 (n kl:Nat)
 tups:List Addr
 (seq links:List (Str×Str))
 roles:List RoleS
 own:Addr→Prop
noncomputable abbrev rmDE (P:Params) (R:RmA):List DictEntry:=[⟨PyData.keyHash P "max_hierarchy_level",.str "max_hierarchy_level" R.t1,.int R.lvl R.tl⟩,⟨PyData.keyHash P "matching_func",.str "matching_func" R.t2,.ref R.lam⟩,⟨PyData.keyHash P "domain_matching_func",.str "domain_matching_func" R.t3,R.dmf⟩,
 ⟨PyData.keyHash P "all_links",.str "all_links" R.t4,.ref R.al⟩,⟨PyData.keyHash P "all_roles",.str "all_roles" R.t5,.ref R.ar⟩]
noncomputable abbrev rmD (P:Params) (R:RmA):Obj:=dictOf (rmDE P R) 5
noncomputable abbrev pairO (a b:Str) (ta tb:Tok) (n:Nat):Obj:={ cls:=.type "tuple",data:=.seq #[.str a ta,.str b tb] n }
noncomputable def At (roles:List RoleS) (a:Addr) (n:Str):Prop:=∃ r∈roles,r.a.x=a∧r.a.nm=n
noncomputable def outs (links:List (Str×Str)) (n:Str):List Str:=(links.filter (·.1 == n)).map (·.2)
noncomputable def ins (links:List (Str×Str)) (n:Str):List Str:=(links.filter (·.2 == n)).map (·.1)
noncomputable def TupsIn (news:Led) (tups:List Addr) (links:List (Str×Str)):Prop:=F2 (fun t l=>∃ ta tb nt,(t,pairO l.1 l.2 ta tb nt)∈news) tups links
structure RmIn (prog:Program) (w:World) (news:Led) (R:RmA):Prop where
 x:(R.x,instObj 929 R.d)∈news
 d:(R.d,rmD w.params R)∈news
 al:(R.al,refsO R.tups R.kl)∈news
 tup:TupsIn news R.tups R.seq
 ar:∃ o,(R.ar,o)∈news∧o.IsDictOf (strKind prog w) (R.roles.map fun r=>(r.a.nm,.ref r.a.x))
 lo:(R.ar == sysModules)=false
 roles:∀ r∈R.roles,RoleIn w.params news r
 nd:(R.roles.map (·.a.nm)).Nodup
 rs:∀ r∈R.roles,F2 (At R.roles) r.rs (outs R.links r.a.nm)
 us:∀ r∈R.roles,F2 (At R.roles) r.us (ins R.links r.a.nm)
 ends:∀ l∈R.links,l.1∈R.roles.map (·.a.nm)∧l.2∈R.roles.map (·.a.nm)
 nodup:R.links.Nodup
 names:∀ r∈R.roles,r.a.nm∈Names
 few:R.links.length≤20
 few2:R.seq.length≤20
 own:R.own R.x∧R.own R.d∧R.own R.al∧R.own R.ar∧(∀ t∈R.tups,R.own t)∧∀ r∈R.roles,R.own r.a.x∧R.own r.a.d∧R.own r.a.rl∧R.own r.a.ul
 there:∀ a,R.own a→∃ o,(a,o)∈news
 dar:R.d≠R.ar
 rd:∀ r∈R.roles,r.a.d≠R.d∧r.a.d≠R.ar∧r.a.rl≠R.al∧r.a.ul≠R.al
structure Stp (own own':Addr→Prop) (news news':Led):Prop where
 keep:∀ p∈news,¬ own p.1→p∈news'
 new:∀ a,own' a→own a∨∀ p∈news,p.1≠a
 more:∀ a,own a→own' a
theorem Stp.refl (own:Addr→Prop) (news:Led):Stp own own news news:=⟨fun _ h _=>h,fun _ h=>.inl h,fun _ h=>h⟩
theorem Stp.trans {o1 o2 o3:Addr→Prop} {n1 n2 n3:Led} (a:Stp o1 o2 n1 n2) (b:Stp o2 o3 n2 n3):Stp o1 o3 n1 n3 where
 keep:=fun p hp ho=>b.keep p (a.keep p hp ho) fun h=>(a.new _ h).elim ho fun q=>q p hp rfl
 new:=fun x hx=>(b.new x hx).elim (a.new x) fun q=>by
  by_cases h:o1 x
  ·exact .inl h
  ·exact .inr fun p hp e=>q p (a.keep p hp (e▸h)) e
 more:=fun x hx=>b.more x (a.more x hx)
structure RmSame (R R':RmA):Prop where
 x:R'.x=R.x
 d:R'.d=R.d
 al:R'.al=R.al
 ar:R'.ar=R.ar
 lam:R'.lam=R.lam
 lvl:R'.lvl=R.lvl
 seq:R'.seq=R.seq
 links:R'.links=R.links
 tups:R'.tups=R.tups
theorem RmSame.refl (R:RmA):RmSame R R:=⟨rfl,rfl,rfl,rfl,rfl,rfl,rfl,rfl,rfl⟩
theorem RmSame.trans {a b c:RmA} (h:RmSame a b) (k:RmSame b c):RmSame a c:=⟨k.x.trans h.x,k.d.trans h.d,k.al.trans h.al,k.ar.trans h.ar,k.lam.trans h.lam,k.lvl.trans h.lvl,k.seq.trans h.seq,k.links.trans h.links,k.tups.trans h.tups⟩
theorem roleD_nm {P:Params} {r r':RoleA} (h:roleD P r=roleD P r'):r.nm=r'.nm:=by
 simp only [roleD,dictOf,Obj.mk.injEq,Data.dict.injEq] at h
 have h1:=h.2.2.1.1
 simp at h1
 exact h1.1.2.1
section
variable {prog:Program} {w:World} {h₀ h:Heap} {L:Addr} {news:Led} {R:RmA}
theorem RmIn.d_inj (I:RmIn prog w news R) (N:News h₀ L h news) {r r':RoleS} (hr:r∈R.roles) (hr':r'∈R.roles) (e:r.a.d=r'.a.d):r=r':=by
 have h1:=(I.roles r hr).d
 have h2:=(I.roles r' hr').d
 rw [e] at h1
 have:=roleD_nm (news_fun N h1 h2)
 exact inj_of_nodup_map I.nd hr hr' this
theorem RmIn.short (I:RmIn prog w news R) {r:RoleS} (h:r∈R.roles):r.a.nm.length≤100:=names_short (I.names r h)
theorem RmIn.fewr (I:RmIn prog w news R):R.roles.length≤6:=by
 have:=nodup_le I.nd (m:=Names) fun x hx=>by
  (refine e_EA (List.mem_map.mp hx) ?_;intro r hr e9_2;subst e9_2)
  exact I.names r hr
 rw [List.length_map] at this
 exact this
theorem RmIn.rsLen (I:RmIn prog w news R) {r:RoleS} (h:r∈R.roles):r.rs.length≤20:=by
 refine rwl ((I.rs r h).length ..) ?_
 unfold outs
 refine rwl (List.length_map ..) ?_
 exact Nat.le_trans (List.length_filter_le _ _) I.few
theorem RmIn.usLen (I:RmIn prog w news R) {r:RoleS} (h:r∈R.roles):r.us.length≤20:=by
 refine rwl ((I.us r h).length ..) ?_
 unfold ins
 refine rwl (List.length_map ..) ?_
 exact Nat.le_trans (List.length_filter_le _ _) I.few
theorem RoleIn.sub {P:Params} {n1 n2:Led} {r:RoleS} (I:RoleIn P n1 r) (hs:∀ p∈n1,p∈n2):RoleIn P n2 r:=⟨hs _ I.x,hs _ I.d,hs _ I.l,hs _ I.u⟩
theorem RmIn.sub {n2:Led} (I:RmIn prog w news R) (hs:∀ p∈news,p∈n2):RmIn prog w n2 R where
 x:=hs _ I.x
 d:=hs _ I.d
 al:=hs _ I.al
 tup:=I.tup.mono fun _ _ ⟨a,b,n,h⟩=>⟨a,b,n,hs _ h⟩
 ar:=let ⟨o,h,d⟩:=I.ar;⟨o,hs _ h,d⟩
 lo:=I.lo
 roles:=fun r hr=>(I.roles r hr).sub hs
 nd:=I.nd
 rs:=I.rs
 us:=I.us
 ends:=I.ends
 nodup:=I.nodup
 names:=I.names
 few:=I.few
 few2:=I.few2
 own:=I.own
 there:=fun a ha=>let ⟨o,h⟩:=I.there a ha;⟨o,hs _ h⟩
 dar:=I.dar
 rd:=I.rd
theorem RmIn.x_inj (I:RmIn prog w news R) (N:News h₀ L h news) {r r':RoleS} (hr:r∈R.roles) (hr':r'∈R.roles) (e:r.a.x=r'.a.x):r=r':=by
 have h1:=(I.roles r hr).x
 rw [e] at h1
 have:=congrArg Obj.dict (news_fun N h1 (I.roles r' hr').x)
 exact I.d_inj N hr hr' (Option.some.inj this)
end
section
variable {prog:Program} {w:World} {A:Around} {E:Value→Shared→Prop} {s:Shared} {h₀ h:Heap} {L:Addr} {m:Str→Option Value} {news:Led} {R:RmA}
theorem valueAt_mem {K:Type} [DecidableEq K] {k:K} {v:Value}:∀ {kvs:List (K×Value)},(kvs.map (·.1)).Nodup→(k,v)∈kvs→valueAt kvs k=some v
 | [],_,h=>nomatch h
 | (k',v')::l,hn,h=>by
  rw [List.map_cons,List.nodup_cons] at hn
  rcases List.mem_cons.mp h with e | h'
  ·cases e;simp [valueAt]
  ·have:k'≠k:=fun q=>hn.1 (by refine rwl (q ..) ?_;exact List.mem_map_of_mem (f:=(·.1)) h')
   have ih:=valueAt_mem hn.2 h'
   simp only [valueAt,List.find?_cons,this,decide_false] at ih ⊢
   exact ih
theorem valueAt_none {K:Type} [DecidableEq K] {k:K}:∀ {kvs:List (K×Value)},k ∉ kvs.map (·.1)→valueAt kvs k=none
 | [],_=>rfl
 | (k',v')::l,h=>by
  rw [List.map_cons,List.mem_cons,not_or] at h
  have ih:=valueAt_none h.2
  simp only [valueAt,List.find?_cons,Ne.symm h.1,decide_false] at ih ⊢
  exact ih
theorem stored_new {K:Type} [DecidableEq K] {k:K} {v:Value} {kvs:List (K×Value)} (h:k ∉ kvs.map (·.1)):stored kvs k v=kvs++[(k,v)]:=by
 unfold stored
 rw [if_neg]
 intro q
 (refine e_EA (List.any_eq_true.mp q) ?_;intro kv hkv e)
 exact h (by refine rwr (of_decide_eq_true e ..) ?_;exact List.mem_map_of_mem hkv)
theorem sd_set {Q:Unit→Shared→Prop} {d:Addr} {o:Obj} {kvs:List (Str×Value)} {k:Str} {t:Tok} {v:Value} (F:Fr h₀ L s.heap m) (N:News h₀ L s.heap news) (hm:(d,o)∈news) (hd:o.IsDictOf (strKind prog w) kvs) (hsz:kvs.length≤1000)
  (h:∀ h' o',Fr h₀ L h' m→News h₀ L h' (upd d o' news)→o'.IsDictOf (strKind prog w) (stored kvs k v)→Q () { s with heap:=h',toks:=s.toks + 1 }):wpAny (model prog w) A (setItem (.ref d) (.str k t) v) Q E s:=by
 have U:UpdF d o (upd d o news) (fun o'=>upd d o' news):=by unfold upd;exact UpdF.head upd_off
 exact kda_set F (news_updOf N hm) U hd (strKind_is _ _ _ _) (by refine rwl (sizeLine_eq ..) ?_;k_extra "ar") h
theorem dict_cls {o:Obj} {kvs:List (Str×Value)} (h:o.IsDictOf (strKind prog w) kvs):o.cls=.type "dict":=by
 (refine e_E2A (h) ?_;clear h;intro es ep hc _)
 exact hc.1
noncomputable def RmA.add (R:RmA) (r:RoleA) (k1 k2:Nat):RmA:={ R with roles:=R.roles++[⟨r,[],[],k1,k2⟩],own:=fun a=>R.own a∨a=r.x∨a=r.d∨a=r.rl∨a=r.ul }
theorem RmIn.addRole (I:RmIn prog w news R) (N:News h₀ L h news) {r:RoleA} {k1 k2:Nat} (fresh:∀ p∈news,p.1 < r.d) (f1:@LT.lt Nat _ r.d r.x) (f2:@LT.lt Nat _ r.x r.rl) (f3:@LT.lt Nat _ r.rl r.ul) (hnm:r.nm ∉ R.roles.map (·.a.nm)) (hN:r.nm∈Names)
  {o':Obj} (ho':o'.IsDictOf (strKind prog w) (stored (R.roles.map fun r=>(r.a.nm,Value.ref r.a.x)) r.nm (.ref r.x))) :
  RmIn prog w (upd R.ar o' ((r.x,instObj 814 r.d)::(r.d,roleD w.params r)::(r.rl,refsO [] k1)::(r.ul,refsO [] k2)::news)) (R.add r k1 k2) ∧
   Stp R.own (R.add r k1 k2).own news (upd R.ar o' ((r.x,instObj 814 r.d)::(r.d,roleD w.params r)::(r.rl,refsO [] k1)::(r.ul,refsO [] k2)::news)):=by
 (refine e_EA (I.ar) ?_;intro oar har hod)
 have hc:=dict_cls hod
 have lt:∀ {a o},(a,o)∈news→@LT.lt Nat _ a r.d:=fun h=>fresh _ h
 have arlt:=lt har
 have up:∀ {a o},(a,o)∈news→a≠R.ar→(a,o)∈upd R.ar o' ((r.x,instObj 814 r.d)::(r.d,roleD w.params r)::(r.rl,refsO [] k1)::(r.ul,refsO [] k2)::news):=fun h hn =>
  mem_upd (.tail _ (.tail _ (.tail _ (.tail _ h)))) hn
 have upc:∀ {a o},(a,o)∈news→o.cls≠.type "dict"→(a,o)∈upd R.ar o' ((r.x,instObj 814 r.d)::(r.d,roleD w.params r)::(r.rl,refsO [] k1)::(r.ul,refsO [] k2)::news):=fun h hn =>
  up h (newsNe N h har (by refine rwl (hc ..) ?_;exact hn)).out
 have g1:r.x≠R.ar:=Nat.ne_of_gt (Nat.lt_trans arlt f1)
 have g2:r.d≠R.ar:=Nat.ne_of_gt arlt
 have g3:r.rl≠R.ar:=Nat.ne_of_gt (Nat.lt_trans arlt (Nat.lt_trans f1 f2))
 have g4:r.ul≠R.ar:=Nat.ne_of_gt (Nat.lt_trans arlt (Nat.lt_trans f1 (Nat.lt_trans f2 f3)))
 have memR:∀ {q},q∈(R.add r k1 k2).roles→q∈R.roles∨q=⟨r,[],[],k1,k2⟩:=fun h=>by
  rcases List.mem_append.mp h with h | h
  ·exact .inl h
  ·exact .inr (List.mem_singleton.mp h)
 have atM:∀ {a n},At R.roles a n→At (R.add r k1 k2).roles a n:=fun ⟨q,hq,e⟩=>⟨q,List.mem_append_left _ hq,e⟩
 refine ⟨⟨upc I.x (by nofun),up I.d I.dar,upc I.al (by show Value.type "list"≠_;decide),?_,⟨o',mem_upd_self,?_⟩,I.lo,?_,?_,?_,?_,?_,I.nodup,?_,I.few,I.few2,?_,?_,I.dar,?_⟩,?_,?_,?_⟩
 ·exact I.tup.mono fun t l ⟨ta,tb,nt,h⟩=>⟨ta,tb,nt,upc h (by show Value.type "tuple"≠_;decide)⟩
 ·rw [stored_new (mf_in hnm)] at ho'
  simpa [RmA.add,List.map_append] using ho'
 ·intro q hq
  rcases memR hq with hq | rfl
  ·have J:=I.roles q hq
   exact ⟨upc J.x (by nofun),up J.d (I.rd q hq).2.1,upc J.l (by show Value.type "list"≠_;decide),upc J.u (by show Value.type "list"≠_;decide)⟩
  ·exact ⟨mem_upd (.head _) g1,mem_upd (.tail _ (.head _)) g2,mem_upd (.tail _ (.tail _ (.head _))) g3,mem_upd (.tail _ (.tail _ (.tail _ (.head _)))) g4⟩
 ·show ((R.roles++[_]).map _).Nodup
  (refine rwl (List.map_append ..) ?_;refine rwl (propext (List.nodup_append ..)) ?_)
  refine ⟨I.nd,by simp,?_⟩
  intro x hx y hy e
  rw [List.map_singleton,List.mem_singleton] at hy
  subst e;subst hy
  exact hnm hx
 ·intro q hq
  rcases memR hq with hq | rfl
  ·exact (I.rs q hq).mono fun _ _=>atM
  ·have:outs R.links r.nm=[]:=by
    unfold outs
    rw [List.filter_eq_nil_iff.mpr];rfl
    intro l hl e
    exact hnm (by refine rwr (beq_iff_eq.mp e ..) ?_;exact (I.ends l hl).1)
   show F2 _ [] (outs R.links r.nm)
   refine rwl (this ..) ?_;exact .nil
 ·intro q hq
  rcases memR hq with hq | rfl
  ·exact (I.us q hq).mono fun _ _=>atM
  ·have:ins R.links r.nm=[]:=by
    unfold ins
    rw [List.filter_eq_nil_iff.mpr];rfl
    intro l hl e
    exact hnm (by refine rwr (beq_iff_eq.mp e ..) ?_;exact (I.ends l hl).2)
   show F2 _ [] (ins R.links r.nm)
   refine rwl (this ..) ?_;exact .nil
 ·intro l hl
  have:=I.ends l hl
  show _∈(R.roles++[_]).map _∧_∈(R.roles++[_]).map _
  refine rwl (List.map_append ..) ?_
  exact ⟨List.mem_append_left _ this.1,List.mem_append_left _ this.2⟩
 ·intro q hq
  rcases memR hq with hq | rfl
  ·exact I.names q hq
  ·exact hN
 ·(refine e_A5 (I.own) ?_;intro o1 o2 o3 o4 o5 o6)
  refine ⟨.inl o1,.inl o2,.inl o3,.inl o4,fun t ht=>.inl (o5 t ht),fun q hq=>?_⟩
  rcases memR hq with hq | rfl
  ·(refine e_A3 (o6 q hq) ?_;intro p1 p2 p3 p4)
   exact ⟨.inl p1,.inl p2,.inl p3,.inl p4⟩
  ·exact ⟨.inr (.inl rfl),.inr (.inr (.inl rfl)),.inr (.inr (.inr (.inl rfl))),.inr (.inr (.inr (.inr rfl)))⟩
 ·intro a ha
  rcases ha with ha | rfl | rfl | rfl | rfl
  ·by_cases e:a=R.ar
   ·exact ⟨o',e▸mem_upd_self⟩
   ·(refine e_E (I.there a ha) ?_;intro o ho)
    exact ⟨o,up ho e⟩
  ·exact ⟨_,mem_upd (.head _) g1⟩
  ·exact ⟨_,mem_upd (.tail _ (.head _)) g2⟩
  ·exact ⟨_,mem_upd (.tail _ (.tail _ (.head _))) g3⟩
  ·exact ⟨_,mem_upd (.tail _ (.tail _ (.tail _ (.head _)))) g4⟩
 ·intro q hq
  rcases memR hq with hq | rfl
  ·exact I.rd q hq
  ·have allt:=lt I.al
   exact ⟨Nat.ne_of_gt (lt I.d),g2,Nat.ne_of_gt (Nat.lt_trans allt (Nat.lt_trans f1 f2)),Nat.ne_of_gt (Nat.lt_trans allt (Nat.lt_trans f1 (Nat.lt_trans f2 f3)))⟩
 ·intro p hp ho
  exact up hp fun e=>ho (e▸I.own.2.2.2.1)
 ·intro a ha
  rcases ha with ha | rfl | rfl | rfl | rfl
  ·exact .inl ha
  ·exact .inr fun p hp=>Nat.ne_of_lt (Nat.lt_trans (fresh p hp) f1)
  ·exact .inr fun p hp=>Nat.ne_of_lt (fresh p hp)
  ·exact .inr fun p hp=>Nat.ne_of_lt (Nat.lt_trans (fresh p hp) (Nat.lt_trans f1 f2))
  ·exact .inr fun p hp=>Nat.ne_of_lt (Nat.lt_trans (fresh p hp) (Nat.lt_trans f1 (Nat.lt_trans f2 f3)))
 ·exact fun a ha=>.inl ha
end
section
variable {prog:Program} {w:World} {h₀ h:Heap} {L:Addr} {news news':Led} {R:RmA}
theorem RmIn.keep (I:RmIn prog w news R) (up:∀ p∈news,R.own p.1→p∈news'):RmIn prog w news' R:=by
 (refine e_EA (I.ar) ?_;intro oar har hod)
 (refine e_A5 (I.own) ?_;intro o1 o2 o3 o4 o5 o6)
 refine ⟨up _ I.x o1,up _ I.d o2,up _ I.al o3,?_,⟨oar,up _ har o4,hod⟩,I.lo,?_,I.nd,I.rs,I.us,I.ends,I.nodup,I.names,I.few,I.few2,I.own,?_,I.dar,I.rd⟩
 ·exact I.tup.monoMem fun t ht l _ ⟨ta,tb,nt,h⟩=>⟨ta,tb,nt,up _ h (o5 t ht)⟩
 ·intro r hr
  have J:=I.roles r hr
  (refine e_A3 (o6 r hr) ?_;intro p1 p2 p3 p4)
  exact ⟨up _ J.x p1,up _ J.d p2,up _ J.l p3,up _ J.u p4⟩
 ·intro a ha
  (refine e_E (I.there a ha) ?_;intro ob ho)
  exact ⟨ob,up _ ho ha⟩
theorem RmIn.setDm (I:RmIn prog w news R) (N:News h₀ L h news) (v:Value):RmIn prog w (upd R.d (rmD w.params { R with dmf:=v }) news) { R with dmf:=v }∧Stp R.own R.own news (upd R.d (rmD w.params { R with dmf:=v }) news):=by
 (refine e_EA (I.ar) ?_;intro oar har hod)
 have up:∀ {a o},(a,o)∈news→a≠R.d→(a,o)∈upd R.d (rmD w.params { R with dmf:=v }) news:=fun h hn=>mem_upd h hn
 have upc:∀ {a o},(a,o)∈news→o.cls≠.type "dict"→(a,o)∈upd R.d (rmD w.params { R with dmf:=v }) news:=fun h hn=>up h (newsNe N h I.d hn).out
 refine ⟨⟨upc I.x (by nofun),mem_upd_self,upc I.al (by show Value.type "list"≠_;decide),?_,⟨oar,up har (Ne.symm I.dar),hod⟩,I.lo,?_,I.nd,I.rs,I.us,I.ends,I.nodup,I.names,I.few,I.few2,I.own,?_,I.dar,I.rd⟩,?_,?_,?_⟩
 ·exact I.tup.mono fun t l ⟨ta,tb,nt,h⟩=>⟨ta,tb,nt,upc h (by show Value.type "tuple"≠_;decide)⟩
 ·intro r hr
  have J:=I.roles r hr
  have:=I.rd r hr
  exact ⟨upc J.x (by nofun),up J.d this.1,upc J.l (by show Value.type "list"≠_;decide),upc J.u (by show Value.type "list"≠_;decide)⟩
 ·intro a ha
  by_cases e:a=R.d
  ·refine rwl (e ..) ?_;exact ⟨_,mem_upd_self⟩
  ·(refine e_E (I.there a ha) ?_;intro o ho)
   exact ⟨o,up ho e⟩
 ·exact fun p hp ho=>up hp fun e=>ho (e▸I.own.2.1)
 ·exact fun a ha=>.inl ha
 ·exact fun a ha=>ha
end
section
variable {prog:Program} {w:World} {p:Program} {loose:List Str} {mean:ExcName→Option Value} {mg mb:Str→Option Value}
 {dp un:Nat} {gd:Option (List Code)} {cn:Str} {cs:Scope} {a:Addr} {ccd:Value} {cl:List (Str×Addr)} {outer:List Env} {A₀:Around} {base h₀:Heap} {L:Addr} {m:Str→Option Value} {s:Shared} {Q E:Value→Shared→Prop} {news:Led}

theorem rm_set_dm {R:RmA} {x:Addr} (hxe:R.x=x) (v:Value) (B:Below A₀ base outer h₀) (F:Fr h₀ L s.heap m) (X:(Kp w.params).In h₀) (N:News h₀ L s.heap news) (T:Top p loose mean mg mb h₀) (hk:cs.kind=.function) (hdp:dp + 2 < recursionLimit) (hun:un + 16 < cLine) (I:RmIn prog w news R)
 (ret:∀ h' tk' news' R',Fr h₀ L h' m→News h₀ L h' news'→RmIn prog w news' R'→Stp R.own R'.own news news'→R'.x=x→R'.lam=R.lam→R'.lvl=R.lvl→R'.seq=R.seq→R'.links=R.links→Q .none { s with heap:=h',toks:=tk' })
 : wpAny (model prog w) (ktrTop dp un gd cn cs L a ccd cl outer) (call (.ref 876) [.ref x,v]) Q E s:=by
 subst hxe
 have hx:=I.x
 have hd:=I.d
 (refine e_A (I.setDm N v) ?_;intro I1 S1)
 have hxd:NeA R.x R.d:=newsNe N hx hd ne_rt
 (refine call_res ?_;k_extra "kE")
 iterate 4 k_extra "w"
 refine set_upd (by k_asm) (by k_asm) (by k_asm) (by k_mem) (by k_mem) (by k_is) (by k_is) (by k_is) (by k_is) (by k_get) (by k_put) (Nat.le_of_ble_eq_true rfl) ?_
 intro h6 F6 N6
 (k_extra "w";(try (k_unfold;(try dsimp only)));k_extra "w")
 exact ret _ _ _ _ (by k_asm) (by k_asm) I1 S1 rfl rfl rfl rfl rfl
end
structure FnOk (prog:Program) (w:World) (fa:Addr) (os:Led) (r:Str→Str→Bool):Prop where
 fn:∀ {h₀ h:Heap} {L:Addr} {news:Led},(Kp w.params).In h₀→(∀ b o,h₀.get? b=some o→h.get? b=some o)→News h₀ L h news→(∀ p∈os,p∈news)→FnAt fa h
 ty:∀ {h₀ h:Heap} {L:Addr} {news:Led},(Kp w.params).In h₀→(∀ b o,h₀.get? b=some o→h.get? b=some o)→News h₀ L h news→(∀ p∈os,p∈news)→∃ o,h.get? fa=some o∧o.cls=.type "function"
 call:∀ {p:Program} {loose:List Str} {mean:ExcName→Option Value} {mg mb:Str→Option Value}
  {dp un:Nat} {gd:Option (List Code)} {cn:Str} {cs:Scope} {a:Addr} {ccd:Value} {cl:List (Str×Addr)} {outer:List Env} {A₀:Around} {base h₀:Heap} {L:Addr} {m:Str→Option Value} {s:Shared} {Q E:Value→Shared→Prop} {news:Led}
  (k1 k2:Str) (t1 t2:Tok) (hk1:k1.length≤100) (hk2:k2.length≤100) (B:Below A₀ base outer h₀) (F:Fr h₀ L s.heap m) (X:(Kp w.params).In h₀) (N:News h₀ L s.heap news) (T:Top p loose mean mg mb h₀) (hk:cs.kind=.function) (hdp:dp + 1 < recursionLimit) (hun:un + 8 < cLine),(∀ p∈os,p∈news)→(∀ h' tk',Fr h₀ L h' m→News h₀ L h' news→Q (.bool (r k1 k2)) { s with heap:=h',toks:=tk' }) →
  wpAny (model prog w) (ktrTop dp un gd cn cs L a ccd cl outer) (call (.ref fa) [.str k1 t1,.str k2 t2]) Q E s
section
variable {prog:Program} {w:World} {p:Program} {loose:List Str} {mean:ExcName→Option Value} {mg mb:Str→Option Value}
 {dp un:Nat} {gd:Option (List Code)} {cn:Str} {cs:Scope} {a:Addr} {ccd:Value} {cl:List (Str×Addr)} {outer:List Env} {A₀:Around} {base h₀:Heap} {L:Addr} {m:Str→Option Value} {s:Shared} {Q E:Value→Shared→Prop} {news:Led}

theorem meh {fa:Addr} {os:Led} {r:Str→Str→Bool} (K:FnOk prog w fa os r) (k1 k2:Str) (t1 t2:Tok) (hk1:k1.length≤100) (hk2:k2.length≤100) (B:Below A₀ base outer h₀) (F:Fr h₀ L s.heap m) (X:(Kp w.params).In h₀) (N:News h₀ L s.heap news) (T:Top p loose mean mg mb h₀) (hk:cs.kind=.function) (hdp:dp + 2 < recursionLimit) (hun:un + 16 < cLine) (ho:∀ p∈os,p∈news)
 (ret:∀ h' tk' ,Fr h₀ L h' m→News h₀ L h' news→Q (.bool (r k1 k2)) { s with heap:=h',toks:=tk' })
 : wpAny (model prog w) (ktrTop dp un gd cn cs L a ccd cl outer) (call (.ref 1149) [.ref fa,.str k1 t1,.str k2 t2]) Q E s:=by
 (refine call_res ?_;k_extra "kE")
 k_extra "w"
 k_extra "w"
 k_extra "w"
 k_extra "w"
 k_extra "w"
 k_extra "w"
 refine callWith_F (K.fn X' F'.keep N' ho) ?_
 k_extra "w"
 k_extra "w"
 k_extra "w"
 k_extra "w"
 k_extra "w"
 refine ⟨K.fn X' F'.keep N' ho,?_⟩
 refine K.call k1 k2 t1 t2 hk1 hk2 (by k_asm) (by k_asm) (by k_asm) (by k_asm) (by k_asm) rfl (by ktr_room) (by ktr_units) ho ?_
 intro h5 tk5 F5 N5
 ((try (k_unfold;(try dsimp only)));k_extra "w")
 exact ret _ _ (by k_asm) (by k_asm)
end
noncomputable def covS (k1 k2:Str):Bool:=(k1 == k2) || ((Txt.slice k2 (some (-1)) none == ("*":Str)) && (Txt.slice k1 none (some ((k2.length:Int) - 1)) == Txt.slice k2 none (some (-1))))
section
variable {prog:Program} {w:World} {p:Program} {loose:List Str} {mean:ExcName→Option Value} {mg mb:Str→Option Value}
 {dp un:Nat} {gd:Option (List Code)} {cn:Str} {cs:Scope} {a:Addr} {ccd:Value} {cl:List (Str×Addr)} {outer:List Env} {A₀:Around} {base h₀:Heap} {L:Addr} {m:Str→Option Value} {s:Shared} {Q E:Value→Shared→Prop} {news:Led}

theorem covers_call (k1 k2:Str) (t1 t2:Tok) (B:Below A₀ base outer h₀) (F:Fr h₀ L s.heap m) (X:(Kp w.params).In h₀) (N:News h₀ L s.heap news) (T:Top p loose mean mg mb h₀) (hk:cs.kind=.function) (hdp:dp + 1 < recursionLimit) (hun:un + 8 < cLine) (hk1:k1.length≤100) (hk2:k2.length≤100)
 (ret:∀ h' tk' ,Fr h₀ L h' m→News h₀ L h' news→Q (.bool (covS k1 k2)) { s with heap:=h',toks:=tk' })
 : wpAny (model prog w) (ktrTop dp un gd cn cs L a ccd cl outer) (call (.ref 1177) [.str k1 t1,.str k2 t2]) Q E s:=by
 have z1:k1.length≤sizeLine:=by refine rwl (sizeLine_eq ..) ?_;k_extra "ar"
 have z2:k2.length≤sizeLine:=by refine rwl (sizeLine_eq ..) ?_;k_extra "ar"
 unfold covS at ret
 (refine call_res ?_;k_extra "kE")
 k_extra "w"
 k_extra "w"
 k_extra "w"
 k_extra "w"
 k_extra "w"
 k_extra "w"
 k_extra "w"
 by_cases hk:k1=k2
 ·have e:(k1 == k2)=true:=by simp [hk]
  (replace ret:=(e ..)▸ret;replace ret:=(Bool.true_or ..)▸ret)
  refine rwl (e ..) ?_
  iterate 3 k_extra "w"
  exact ret _ _ (by k_asm) (by k_asm)
 have e:(k1 == k2)=false:=by simp [hk]
 (replace ret:=(e ..)▸ret;replace ret:=(Bool.false_or ..)▸ret)
 refine rwl (e ..) ?_
 cases e2:(Txt.slice k2 (some (-1)) none == ("*":Str)) with
 | true =>
  (replace ret:=(e2 ..)▸ret;replace ret:=(Bool.true_and ..)▸ret)
  iterate 50 k_extra "w"
  exact ret _ _ (by k_asm) (by k_asm)
 | false =>
  (replace ret:=(e2 ..)▸ret;replace ret:=(Bool.false_and ..)▸ret)
  iterate 20 k_extra "w"
  refine rwl (e2 ..) ?_
  exact ret _ _ (by k_asm) (by k_asm)
theorem covers_ok:FnOk prog w 1177 [] covS where
 fn:=fun X hk _ _=>⟨_,_,_,_,hk _ _ (X _ _ rfl)⟩
 ty:=fun X hk _ _=>⟨_,hk _ _ (X 1177 _ rfl),rfl⟩
 call:=fun k1 k2 t1 t2 h1 h2 B F X N T hk hdp hun _ ret=>covers_call k1 k2 t1 t2 B F X N T hk hdp hun h1 h2 ret
end
section
variable {prog:Program} {w:World} {p:Program} {loose:List Str} {mean:ExcName→Option Value} {mg mb:Str→Option Value}
 {dp un:Nat} {gd:Option (List Code)} {cn:Str} {cs:Scope} {a:Addr} {ccd:Value} {cl:List (Str×Addr)} {outer:List Env} {A₀:Around} {base h₀:Heap} {L:Addr} {m:Str→Option Value} {s:Shared} {Q E:Value→Shared→Prop} {news:Led}

theorem add_role (r y:RoleA) (hxy:y.x=r.x→y=r) (rs us:List Addr) (k k2:Nat) (B:Below A₀ base outer h₀) (F:Fr h₀ L s.heap m) (X:(Kp w.params).In h₀) (N:News h₀ L s.heap news) (T:Top p loose mean mg mb h₀) (hk:cs.kind=.function) (hdp:dp + 2 < recursionLimit) (hun:un + 16 < cLine)
 (hx:(r.x,instObj 814 r.d)∈news) (hd:(r.d,roleD w.params r)∈news) (hl:(r.rl,refsO rs k)∈news) (hrs:rs.length≤100) (hin:InstsIn 814 rs news)
 (hx2:(y.x,instObj 814 y.d)∈news) (hd2:(y.d,roleD w.params y)∈news) (hl2:(y.ul,refsO us k2)∈news) (hus:us.length≤100) (hin2:InstsIn 814 us news) (hdd:y.d=r.d→y=r)
 (ret:∀ h' tk' q q2,Fr h₀ L h' m→(∀ p∈news,p.1≠q)→(∀ p∈news,p.1≠q2)→q≠q2 →
  News h₀ L h' (upd y.d (roleD w.params (RoleA.su (if y.x=r.x then (RoleA.sr r q) else y) q2)) ((q2,refsO ((us.filter fun b=>b != r.x)++[r.x]) 0)::upd r.d (roleD w.params (RoleA.sr r q)) ((q,refsO ((rs.filter fun b=>b != y.x)++[y.x]) 0)::news)))→Q .none { s with heap:=h',toks:=tk' })
 : wpAny (model prog w) (ktrTop dp un gd cn cs L a ccd cl outer) (call (.ref 740) [.ref r.x,.ref y.x]) Q E s:=by
 (refine call_res ?_;k_extra "kC")
 k_extra "w"
 k_extra "w"
 k_extra "w"
 refine comp_test (fun v=>v != Value.ref y.x) id (by k_asm) rfl ?_ rfl (by decide) rfl (by decide) (by decide) (by intro _;rfl)
 k_extra "w"
 k_extra "w"
 k_extra "w"
 refine i_E4A7 _ (rs.map Value.ref) k _ rfl (by k_asm) (by k_asm) (by k_mem) (by refine rwl (List.length_map ..) ?_;k_extra "ar") ?_ ?_ ?_
 ·intro v hv I oI C oC D ys m₂ h tk E' hns hm2 F'' N''
  (refine e_EA (List.mem_map.mp hv) ?_;intro b hb e9_2;subst e9_2)
  (refine e_E (hin b hb) ?_;intro bd hbd)
  iterate 3 k_extra "w"
  refine isnot_refs (get_of_news N'' (by k_mem)) (get_of_news N'' (by k_mem)) (by nofun) ?_
  k_extra "w"
  exact i_AE2A2 (bne_ref _ _) _ _ rfl F'' N''
 ·intro v hv I oI C oC D ys m₂ h tk E' hns hm2 F'' N''
  k_extra "w"
  exact i_AE2A2 rfl _ _ rfl F'' N''
 ·intro D h tk F'' N'' hD
  rw [filter_refs,List.map_id] at N''
  k_extra "w"
  k_extra "w"
  k_extra "w"
  k_extra "w"
  k_extra "w"
  refine add_lists2 (by k_asm) (by k_asm) (by k_mem) (by k_mem) ?_ ?_
  ·have:=List.length_filter_le (fun b=>b != y.x) rs
   simp only [List.length_map,List.length_singleton];k_extra "ar"
  intro q h3 F3 N3 l3
  k_extra "w"
  refine set_upd (by k_asm) (by k_asm) (by k_asm) (by k_mem) (by k_mem) (by k_is) (by k_is) (by k_is) (by k_is) (by k_get) (by k_put) (Nat.le_of_ble_eq_true rfl) ?_
  intro h4 F4 N4
  have hxd:NeA r.x r.d:=newsNe N hx hd ne_rt
  have hlt:=lt_of_mem l1 hd
  by_cases hc:y.x=r.x
  ·obtain rfl:=hxy hc
   have hyl:NeA y.ul y.d:=newsNe N hl2 hd ne_ld
   k_extra "w"
   k_extra "w"
   k_extra "w"
   k_extra "w"
   k_extra "w"
   k_extra "w"
   k_extra "w"
   k_extra "w"
   k_extra "w"
   k_extra "w"
   refine add_user (RoleA.sr y q) y.x y.d us k2 (by k_asm) (by k_asm) (by k_asm) (by k_asm) (by k_asm) rfl (by ktr_room) (by ktr_units) (by k_mem) (by k_mem) (by k_mem) hus ?_ (by k_mem) ?_
   ·exact fun b hb=>(hin2 b hb).imp fun bd hbd=>mem_upd (.tail _ (.tail _ (.tail _ (.tail _ hbd)))) (newsNe N hbd hd ne_rt).out
   intro h5 tk5 q2 F5 hq2 N5
   iterate 2 k_extra "w"
   refine ret _ _ q q2 (by k_asm) (fun p hp=>Nat.ne_of_lt (l3 _ (.tail _ (.tail _ (.tail _ hp))))) ?_ ?_ (news_sub (by k_asm) ?_)
   ·exact ne_tail (ne_tail (ne_tail (ne_tail (ne_upd hq2))))
   ·exact hq2 (q,_) (mem_upd (.head _) (Nat.ne_of_gt (l3 (_,_) (.tail _ (.tail _ (.tail _ hd))))))
   ·refine rwl (if_pos rfl ..) ?_
    simp only [refsO,List.map_append,List.map_cons,List.map_nil]
    exact sub_upd (sub_cons (sub_upd (sub_cons (sub_skip (sub_skip (sub_skip sub_rfl))))))
  ·have hdn:NeA y.d r.d:=⟨fun e=>hc (congrArg RoleA.x (hdd e))⟩
   have hyd:NeA y.x r.d:=newsNe N hx2 hd ne_rt
   have hyl:NeA y.ul r.d:=newsNe N hl2 hd ne_ld
   have hc':NeA y.x r.x:=⟨hc⟩
   clear hc
   k_extra "w"
   k_extra "w"
   k_extra "w"
   k_extra "w"
   k_extra "w"
   k_extra "w"
   k_extra "w"
   k_extra "w"
   k_extra "w"
   k_extra "w"
   refine add_user y r.x r.d us k2 (by k_asm) (by k_asm) (by k_asm) (by k_asm) (by k_asm) rfl (by ktr_room) (by ktr_units) (by k_mem) (by k_mem) (by k_mem) hus ?_ (by k_mem) ?_
   ·exact fun b hb=>(hin2 b hb).imp fun bd hbd=>mem_upd (.tail _ (.tail _ (.tail _ (.tail _ hbd)))) (newsNe N hbd hd ne_rt).out
   intro h5 tk5 q2 F5 hq2 N5
   iterate 2 k_extra "w"
   refine ret _ _ q q2 (by k_asm) (fun p hp=>Nat.ne_of_lt (l3 _ (.tail _ (.tail _ (.tail _ hp))))) ?_ ?_ (news_sub (by k_asm) ?_)
   ·exact ne_tail (ne_tail (ne_tail (ne_tail (ne_upd hq2))))
   ·exact hq2 (q,_) (mem_upd (.head _) (Nat.ne_of_gt (l3 (_,_) (.tail _ (.tail _ (.tail _ hd))))))
   ·refine rwl (if_neg hc'.out ..) ?_
    simp only [refsO,List.map_append,List.map_cons,List.map_nil]
    exact sub_upd (sub_cons (sub_upd (sub_cons (sub_skip (sub_skip (sub_skip sub_rfl))))))
end
section
variable {prog:Program} {w:World} {p:Program} {loose:List Str} {mean:ExcName→Option Value} {mg mb:Str→Option Value}
 {dp un:Nat} {gd:Option (List Code)} {cn:Str} {cs:Scope} {a:Addr} {ccd:Value} {cl:List (Str×Addr)} {outer:List Env} {A₀:Around} {base h₀:Heap} {L:Addr} {m:Str→Option Value} {s:Shared} {Q E:Value→Shared→Prop} {news:Led}

theorem remove_role (r y:RoleA) (hxy:y.x=r.x→y=r) (rs us:List Addr) (k k2:Nat) (ps:Array Value) (B:Below A₀ base outer h₀) (F:Fr h₀ L s.heap m) (X:(Kp w.params).In h₀) (N:News h₀ L s.heap news) (T:Top p loose mean mg mb h₀) (hk:cs.kind=.function) (hdp:dp + 3 < recursionLimit) (hun:un + 24 < cLine) (C:CodeHd h₀ 744 742) (G:AllBare s.gens)
 (hx:(r.x,instObj 814 r.d)∈news) (hd:(r.d,roleD w.params r)∈news) (hl:(r.rl,refsO rs k)∈news) (hrs:rs.length≤100) (hin:InstsIn 814 rs news)
 (hx2:(y.x,instObj 814 y.d)∈news) (hd2:(y.d,roleD w.params y)∈news) (hl2:(y.ul,refsO us k2)∈news) (hus:us.length≤100) (hin2:InstsIn 814 us news) (hdd:y.d=r.d→y=r)
 (hP:(742,tabObj ps)∈news) (ht:TriplesOk ps.toList) (hmem:y.x∈rs)
 (ret:∀ s' q q2 k' k2' ps',s'.os=s.os→AllBare s'.gens→TriplesOk ps'.toList→Fr h₀ L s'.heap m→(∀ p∈news,p.1≠q)→(∀ p∈news,p.1≠q2)→q≠q2 →
  News h₀ L s'.heap (upd y.d (roleD w.params (RoleA.su (if y.x=r.x then (RoleA.sr r q) else y) q2)) ((q2,refsO (us.filter fun b=>b != r.x) k2')::upd r.d (roleD w.params (RoleA.sr r q)) ((q,refsO (rs.filter fun b=>b != y.x) k')::upd 742 (tabObj ps') news)))→Q .none s')
 : wpAny (model prog w) (ktrTop dp un gd cn cs L a ccd cl outer) (call (.ref 745) [.ref r.x,.ref y.x]) Q E s:=by
 (refine call_res ?_;k_extra "kC")
 rename Obj.data _=_=>hcell
 k_extra "w"
 k_extra "w"
 k_extra "w"
 k_extra "w"
 k_extra "w"
 k_extra "w"
 k_extra "w"
 k_extra "w"
 (refine e_E2 (bmod_of_top T') ?_;intro bm ob M)
 refine gen_refs (c:=744) (P:=742) (fun b=>b == y.x) (by k_asm) rfl M T'.nolimit rfl (C.keeps FG'.keep) (by ktr_room) ?_ rfl (by decide) (by decide) (by decide) rfl rfl (by intro _;rfl)
 k_extra "w"
 k_extra "w"
 k_extra "w"
 refine i_E5A8 _ rs k _ ps rfl (by k_asm) (by k_asm) (by k_mem) G (by k_mem) ht ?_ ?_
 ·intro code' C₁ A' E' b t m₂ hA hD hU hb hn hm2 hkp
  (refine e_E (hin b hb) ?_;intro bd hbd)
  have hbP:NeA b 742:=newsNe N hbd hP (by nofun)
  have hyP:NeA y.x 742:=newsNe N hx2 hP (by nofun)
  have hcP:L' + 1≠742:=Nat.ne_of_gt (Nat.lt_succ_of_lt (lt_of_mem l1 hP))
  k_extra "w"
  refine wpAny_Name (wpAny_loadName_local rfl rfl hn hm2 ?_) (by decide)
  refine wpAny_Name (wpAny_loadName_free rfl rfl rfl ⟨_,hkp _ _ hcP (get_of_news N' (.head _)),hcell⟩ ?_) (by decide)
  refine is_refs (hkp _ _ hbP.out (get_of_news N' (.tail _ hbd))) (hkp _ _ hyP.out (get_of_news N' (.tail _ hx2))) (by nofun) ?_
  exact i_AE2A (by simp) _ _ rfl (fun _ _ e=>e)
 ·intro a₅ s₅ K₅ ps' F₅ N₅ ht' G₅ hos hLK hle X₅
  k_extra "w"
  refine any_rowsK F₅ G₅ X₅ hLK (fun j=>(rs[j]?).elim false (· == y.x)) ?_ ?_
  ·intro j v t Q' E' e8_5 hQ;(refine e_EA (e8_5) ?_;clear e8_5;intro b hb e9_2;subst e9_2)
   dsimp only at hQ
   rw [hb] at hQ
   exact wpAny_truthy_bool hQ
  ·intro s₆ F₆ G₆ hos₆ hk₆
   have hall:(List.range rs.length).any (fun j=>(rs[j]?).elim false (· == y.x))=true:=by
    obtain ⟨j,hj,e⟩:=List.getElem_of_mem hmem
    exact List.any_eq_true.mpr ⟨j,List.mem_range.mpr hj,by (refine rwl (List.getElem?_eq_getElem hj ..) ?_;refine rwl (e ..) ?_);simp⟩
   refine rwl (hall ..) ?_
   have N₆:News g' L' s₆.heap (upd 742 (tabObj ps') _):=fun p hp=>⟨hk₆ _ _ (by
    rcases of_mem_upd hp with rfl | ⟨h,_⟩
    ·exact hle (742,tabObj ps) (.tail _ hP)
    ·exact hle p h) (N₅ p hp).1,(N₅ p hp).2⟩
   have hrP:NeA r.x 742:=newsNe N hx hP (by nofun)
   have hdP:NeA r.d 742:=newsNe N hd hP (by nofun)
   have hlP:NeA r.rl 742:=newsNe N hl hP (by nofun)
   have hyP:NeA y.x 742:=newsNe N hx2 hP (by nofun)
   have hydP:NeA y.d 742:=newsNe N hd2 hP (by nofun)
   have hylP:NeA y.ul 742:=newsNe N hl2 hP (by nofun)
   have hcP:NeA (L' + 1) 742:=⟨Nat.ne_of_gt (Nat.lt_succ_of_lt (lt_of_mem l1 hP))⟩
   k_extra "w"
   k_extra "w"
   k_extra "w"
   k_extra "w"
   k_extra "w"
   refine comp_test (fun v=>v != Value.ref y.x) id (by k_asm) rfl ?_ rfl (by decide) rfl (by decide) (by decide) (by intro _;rfl)
   k_extra "w"
   k_extra "w"
   k_extra "w"
   refine i_E4A7 _ (rs.map Value.ref) k _ rfl (by k_asm) (by k_asm) (by k_mem) (by refine rwl (List.length_map ..) ?_;k_extra "ar") ?_ ?_ ?_
   ·intro v hv I oI C₂ oC D ys m₂ h tk E' hns hm2 F'' N''
    (refine e_EA (List.mem_map.mp hv) ?_;intro b hb e9_2;subst e9_2)
    (refine e_E (hin b hb) ?_;intro bd hbd)
    have hbP:NeA b 742:=newsNe N hbd hP (by nofun)
    iterate 3 k_extra "w"
    refine isnot_refs (get_of_news N'' (by k_mem)) (get_of_news N'' (by k_mem)) (by nofun) ?_
    k_extra "w"
    exact i_AE2A2 (bne_ref _ _) _ _ rfl F'' N''
   ·intro v hv I oI C₂ oC D ys m₂ h tk E' hns hm2 F'' N''
    k_extra "w"
    exact i_AE2A2 rfl _ _ rfl F'' N''
   ·intro D h tk F'' N'' hD
    rw [filter_refs,List.map_id] at N''
    k_extra "w"
    refine set_upd (by k_asm) (by k_asm) (by k_asm) (by k_mem) (by k_mem) (by k_is) (by k_is) (by k_is) (by k_is) (by k_get) (by k_put) (Nat.le_of_ble_eq_true rfl) ?_
    intro h4 F4 N4
    by_cases hc:y.x=r.x
    ·obtain rfl:=hxy hc
     have hyl:NeA y.ul y.d:=newsNe N hl2 hd ne_ld
     have hxd:NeA y.x y.d:=newsNe N hx hd ne_rt
     have hlt:=lt_of_mem l1 hd
     k_extra "w"
     k_extra "w"
     k_extra "w"
     k_extra "w"
     k_extra "w"
     k_extra "w"
     k_extra "w"
     k_extra "w"
     k_extra "w"
     k_extra "w"
     refine remove_user (RoleA.sr y D) y.x y.d us k2 (by k_asm) (by k_asm) (by k_asm) (by k_asm) (by k_asm) rfl (by ktr_room) (by ktr_units) (by k_mem) (by k_mem) (by k_mem) hus ?_ (by k_mem) ?_
     ·exact fun b hb=>(hin2 b hb).imp fun bd hbd=>mem_upd (.tail _ (mem_upd (.tail _ hbd) (newsNe N hbd hP (by nofun)).out)) (newsNe N hbd hd ne_rt).out
     intro h5 tk5 q2 k5 F5 hq2 N5
     iterate 2 k_extra "w"
     refine ret _ D q2 ((rs.filter fun b=>b != y.x).map Value.ref).length k5 ps' (hos₆.trans hos) G₆ ht' (by k_asm) (ne_tail (ne_upd hD)) ?_ ?_ (news_sub (by k_asm) ?_)
     ·exact ne_tail (ne_upd (ne_tail (ne_upd hq2)))
     ·exact hq2 (D,_) (mem_upd (.head _) (fun e=>hD (y.d,_) (mem_upd (.tail _ hd) (newsNe N hd hP (by nofun)).out) e.symm))
     ·refine rwl (if_pos rfl ..) ?_
      exact sub_upd (sub_cons (sub_upd (sub_cons (sub_upd (sub_skip sub_rfl)))))
    ·have hdn:NeA y.d r.d:=⟨fun e=>hc (congrArg RoleA.x (hdd e))⟩
     have hyd:NeA y.x r.d:=newsNe N hx2 hd ne_rt
     have hyl:NeA y.ul r.d:=newsNe N hl2 hd ne_ld
     have hxd:NeA r.x r.d:=newsNe N hx hd ne_rt
     have hlt:=lt_of_mem l1 hd
     have hc':NeA y.x r.x:=⟨hc⟩
     clear hc
     k_extra "w"
     k_extra "w"
     k_extra "w"
     k_extra "w"
     k_extra "w"
     k_extra "w"
     k_extra "w"
     k_extra "w"
     k_extra "w"
     k_extra "w"
     refine remove_user y r.x r.d us k2 (by k_asm) (by k_asm) (by k_asm) (by k_asm) (by k_asm) rfl (by ktr_room) (by ktr_units) (by k_mem) (by k_mem) (by k_mem) hus ?_ (by k_mem) ?_
     ·exact fun b hb=>(hin2 b hb).imp fun bd hbd=>mem_upd (.tail _ (mem_upd (.tail _ hbd) (newsNe N hbd hP (by nofun)).out)) (newsNe N hbd hd ne_rt).out
     intro h5 tk5 q2 k5 F5 hq2 N5
     iterate 2 k_extra "w"
     refine ret _ D q2 ((rs.filter fun b=>b != y.x).map Value.ref).length k5 ps' (hos₆.trans hos) G₆ ht' (by k_asm) (ne_tail (ne_upd hD)) ?_ ?_ (news_sub (by k_asm) ?_)
     ·exact ne_tail (ne_upd (ne_tail (ne_upd hq2)))
     ·exact hq2 (D,_) (mem_upd (.head _) (fun e=>hD (r.d,_) (mem_upd (.tail _ hd) (newsNe N hd hP (by nofun)).out) e.symm))
     ·refine rwl (if_neg hc'.out ..) ?_
      exact sub_upd (sub_cons (sub_upd (sub_cons (sub_upd (sub_skip sub_rfl)))))
end
section
variable {prog:Program} {w:World} {p:Program} {loose:List Str} {mean:ExcName→Option Value} {mg mb:Str→Option Value}
 {dp un:Nat} {gd:Option (List Code)} {cn:Str} {cs:Scope} {a:Addr} {ccd:Value} {cl:List (Str×Addr)} {outer:List Env} {A₀:Around} {base h₀:Heap} {L:Addr} {m:Str→Option Value} {s:Shared} {Q E:Value→Shared→Prop} {news:Led}

theorem new_role (nm:Str) (t:Tok) (B:Below A₀ base outer h₀) (F:Fr h₀ L s.heap m) (X:(Kp w.params).In h₀) (N:News h₀ L s.heap news) (T:Top p loose mean mg mb h₀) (hk:cs.kind=.function) (hdp:dp + 2 < recursionLimit) (hun:un + 16 < cLine)
 (ret:∀ h' tk' (r:RoleA) k1 k2,Fr h₀ L h' m→r.nm=nm→News h₀ L h' ((r.x,instObj 814 r.d)::(r.d,roleD w.params r)::(r.rl,refsO [] k1)::(r.ul,refsO [] k2)::news)→(∀ p∈news,p.1 < r.d)→@LT.lt Nat _ r.d r.x→@LT.lt Nat _ r.x r.rl→@LT.lt Nat _ r.rl r.ul→Q (.ref r.x) { s with heap:=h',toks:=tk' })
 : wpAny (model prog w) (ktrTop dp un gd cn cs L a ccd cl outer) (call (.ref 814) [.str nm t]) Q E s:=by
 (refine' call_cls ?k1 ?k2 ?k3 ?k4 ?k5 ?k6 ?_;(case k1 | k2 | k3=>k_asm);(case k4 | k5=>k_is);(case k6=>k_is));intro x' d' h' F' N' l1 l2;replace l2:=ltN l2;k_extra "kE"
 iterate 10 k_extra "w"
 refine list0 (by k_asm) (by k_asm) ?_
 intro q1 k1 h5 F5 N5 lq1
 have z1:@LT.lt Nat _ x' q1:=lq1 (x',_) (.head _)
 have z2:@LT.lt Nat _ d' q1:=lq1 (d',_) (.tail _ (.head _))
 clear lq1
 iterate 7 k_extra "w"
 refine list0 (by k_asm) (by k_asm) ?_
 intro q2 k2 h7 F7 N7 lq2
 have y1:@LT.lt Nat _ q1 q2:=lq2 (q1,_) (.head _)
 have y2:@LT.lt Nat _ d' q2:=Nat.lt_trans z2 y1
 clear lq2
 iterate 7 k_extra "w"
 refine dict0 (by k_asm) (by k_asm) ?_
 intro q3 h9 F9 N9 lq3
 have w3:@LT.lt Nat _ d' q3:=lq3 (d',_) (by k_mem)
 clear lq3
 iterate 7 k_extra "w"
 refine dict0 (by k_asm) (by k_asm) ?_
 intro q4 h11 F11 N11 lq4
 have w4:@LT.lt Nat _ d' q4:=lq4 (d',_) (by k_mem)
 clear lq4
 k_steps
 refine ret _ _ ⟨x',d',q1,q2,q3,q4,nm,?t0,?t1,?t2,?t3,?t4,?t5⟩ k1 k2 (by k_asm) rfl (news_sub (by k_asm) ?hm) l1 l2 z1 y1
 case hm =>
  refine List.forall_mem_cons.mpr ⟨by k_mem,List.forall_mem_cons.mpr ⟨by k_mem,List.forall_mem_cons.mpr ⟨by k_mem,List.forall_mem_cons.mpr ⟨by k_mem,fun p hp=>by k_mem⟩⟩⟩⟩
end
noncomputable abbrev rm0DE (P:Params) (lv:Int) (al ar:Addr) (tl t1 t2 t3 t4 t5:Tok):List DictEntry:=[⟨PyData.keyHash P "max_hierarchy_level",.str "max_hierarchy_level" t1,.int lv tl⟩,⟨PyData.keyHash P "matching_func",.str "matching_func" t2,.none⟩,⟨PyData.keyHash P "domain_matching_func",.str "domain_matching_func" t3,.none⟩,
 ⟨PyData.keyHash P "all_links",.str "all_links" t4,.ref al⟩,⟨PyData.keyHash P "all_roles",.str "all_roles" t5,.ref ar⟩]
noncomputable abbrev rm0D (P:Params) (lv:Int) (al ar:Addr) (tl t1 t2 t3 t4 t5:Tok):Obj:=dictOf (rm0DE P lv al ar tl t1 t2 t3 t4 t5) 5
section
variable {prog:Program} {w:World} {p:Program} {loose:List Str} {mean:ExcName→Option Value} {mg mb:Str→Option Value}
 {dp un:Nat} {gd:Option (List Code)} {cn:Str} {cs:Scope} {a:Addr} {ccd:Value} {cl:List (Str×Addr)} {outer:List Env} {A₀:Around} {base h₀:Heap} {L:Addr} {m:Str→Option Value} {s:Shared} {Q E:Value→Shared→Prop} {news:Led}

theorem rm_new (lv:Int) (tl:Tok) (B:Below A₀ base outer h₀) (F:Fr h₀ L s.heap m) (X:(Kp w.params).In h₀) (N:News h₀ L s.heap news) (T:Top p loose mean mg mb h₀) (hk:cs.kind=.function) (hdp:dp + 3 < recursionLimit) (hun:un + 24 < cLine)
 (ret:∀ h' tk' x d al ar t1 t2 t3 t4 t5 k,Fr h₀ L h' m→News h₀ L h' ((x,instObj 929 d)::(d,rm0D w.params lv al ar tl t1 t2 t3 t4 t5)::(al,listOf #[] k)::(ar,dictOf [] 0)::news)→(∀ p∈news,p.1 < d)→@LT.lt Nat _ d x→@LT.lt Nat _ x al→@LT.lt Nat _ al ar→Q (.ref x) { s with heap:=h',toks:=tk' })
 : wpAny (model prog w) (ktrTop dp un gd cn cs L a ccd cl outer) (call (.ref 929) [] [(("max_hierarchy_level":Str),.int lv tl)]) Q E s:=by
 (refine' call_cls ?k1 ?k2 ?k3 ?k4 ?k5 ?k6 ?_;(case k1 | k2 | k3=>k_asm);(case k4 | k5=>k_is);(case k6=>k_is));intro x' d' h' F' N' l1 l2;replace l2:=ltN l2;k_extra "kE"
 iterate 20 k_extra "w"
 refine list0 (by k_asm) (by k_asm) ?_
 intro q1 k1 h5 F5 N5 lq1
 have z1:@LT.lt Nat _ x' q1:=lq1 (x',_) (by k_mem)
 have z2:@LT.lt Nat _ d' q1:=lq1 (d',_) (by k_mem)
 clear lq1
 iterate 7 k_extra "w"
 refine dict0 (by k_asm) (by k_asm) ?_
 intro q2 h7 F7 N7 lq2
 have y1:@LT.lt Nat _ q1 q2:=lq2 (q1,_) (by k_mem)
 have y2:@LT.lt Nat _ d' q2:=Nat.lt_trans z2 y1
 clear lq2
 k_steps
 refine ret _ _ x' d' q1 q2 ?t1 ?t2 ?t3 ?t4 ?t5 k1 (by k_asm) (news_sub (by k_asm) ?hm) l1 l2 z1 y1
 case hm =>
  refine List.forall_mem_cons.mpr ⟨by k_mem,List.forall_mem_cons.mpr ⟨by k_mem,List.forall_mem_cons.mpr ⟨by k_mem,List.forall_mem_cons.mpr ⟨by k_mem,fun p hp=>by k_mem⟩⟩⟩⟩
end
section
variable {prog:Program} {w:World} {A:Around} {E:Value→Shared→Prop} {s:Shared} {h₀:Heap} {L:Addr} {m:Str→Option Value} {news:Led}
theorem new_lo {P:Params} (X:(Kp P).In h₀) (F:Fr h₀ L s.heap m):(s.heap.objs.size == sysModules)=false:=by
 refine beq_eq_false_iff_ne.mpr fun e=>?_
 have h2:h₀.get? 2=some _:=X 2 _ rfl
 have hlt:2 < h₀.objs.size:=Heap.lt_size h2
 have ha:h₀.objs.size≤L:=F.above
 have hl:@LT.lt Nat _ 2 s.heap.objs.size:=Nat.lt_trans (Nat.lt_of_lt_of_le hlt ha) F.ns.lt
 replace hl:=(show s.heap.objs.size=1 from e ..)▸hl
 exact absurd hl (by decide)
theorem dict0L {P:Params} {Q:Value→Shared→Prop} (X:(Kp P).In h₀) (F:Fr h₀ L s.heap m) (N:News h₀ L s.heap news) (h:∀ q h',Fr h₀ L h' m→News h₀ L h' ((q,dictOf [] 0)::news)→(∀ p∈news,p.1 < q)→(q == sysModules)=false→Q (.ref q) { s with heap:=h' }) :
  wpAny (model prog w) A (call (.type "dict") []) Q E s :=
 call_dict0 (h _ _ (F.push _) (News.push F N _) (fun p hp=>Heap.lt_size (N p hp).1) (new_lo X F))
end
theorem dict_nil {prog:Program} {w:World}:(dictOf [] 0).IsDictOf (strKind prog w) []:=by
 (refine e_EA (Heap.dictOf_iff.mp (Heap.DictOf.new (knd:=strKind prog w) (default:Heap))) ?_;intro o ho h)
 have e:((default:Heap).push { cls:=.type "dict",data:=.dict #[] }).get? (default:Heap).objs.size=some (dictOf [] 0):=Heap.get?_push_size _ rfl
 cases e.symm.trans ho
 exact h
noncomputable abbrev rmXE (P:Params) (lv:Int) (fv dv:Value) (al ar:Addr) (tl t1 t2 t3 t4 t5:Tok):List DictEntry:=[⟨PyData.keyHash P "max_hierarchy_level",.str "max_hierarchy_level" t1,.int lv tl⟩,⟨PyData.keyHash P "matching_func",.str "matching_func" t2,fv⟩,⟨PyData.keyHash P "domain_matching_func",.str "domain_matching_func" t3,dv⟩,
 ⟨PyData.keyHash P "all_links",.str "all_links" t4,.ref al⟩,⟨PyData.keyHash P "all_roles",.str "all_roles" t5,.ref ar⟩]
noncomputable abbrev rmX (P:Params) (lv:Int) (fv dv:Value) (al ar:Addr) (tl t1 t2 t3 t4 t5:Tok):Obj:=dictOf (rmXE P lv fv dv al ar tl t1 t2 t3 t4 t5) 5
section
variable {prog:Program} {w:World} {p:Program} {loose:List Str} {mean:ExcName→Option Value} {mg mb:Str→Option Value}
 {dp un:Nat} {gd:Option (List Code)} {cn:Str} {cs:Scope} {a:Addr} {ccd:Value} {cl:List (Str×Addr)} {outer:List Env} {A₀:Around} {base h₀:Heap} {L:Addr} {m:Str→Option Value} {s:Shared} {Q E:Value→Shared→Prop} {news:Led}

theorem rm_rebuild (x d al ar:Addr) (lv:Int) (fv dv:Value) (tl t1 t2 t3 t4 t5:Tok) (k:Nat) (B:Below A₀ base outer h₀) (F:Fr h₀ L s.heap m) (X:(Kp w.params).In h₀) (N:News h₀ L s.heap news) (T:Top p loose mean mg mb h₀) (hk:cs.kind=.function) (hdp:dp + 2 < recursionLimit) (hun:un + 16 < cLine)
 (hx:(x,instObj 929 d)∈news) (hd:(d,rmX w.params lv fv dv al ar tl t1 t2 t3 t4 t5)∈news) (hal:(al,listOf #[] k)∈news)
 (ret:∀ h' tk' al' ar' k',Fr h₀ L h' m→News h₀ L h' (upd d (rmX w.params lv fv dv al' ar' tl t1 t2 t3 t4 t5) ((al',listOf #[] k')::(ar',dictOf [] 0)::news))→(∀ p∈news,p.1 < ar')→@LT.lt Nat _ ar' al'→(ar' == sysModules)=false→Q .none { s with heap:=h',toks:=tk' })
 : wpAny (model prog w) (ktrTop dp un gd cn cs L a ccd cl outer) (call (.ref 840) [.ref x]) Q E s:=by
 have hxd:NeA x d:=newsNe N hx hd ne_rt
 have hld:NeA al d:=newsNe N hal hd ne_ld
 (refine call_res ?_;k_extra "kE")
 iterate 5 k_extra "w"
 refine dict0L X' (by k_asm) (by k_asm) ?_
 intro ar' h3 F3 N3 l3 lo3
 iterate 1 k_extra "w"
 refine set_upd (by k_asm) (by k_asm) (by k_asm) (by k_mem) (by k_mem) (by k_is) (by k_is) (by k_is) (by k_is) (by k_get) (by k_put) (Nat.le_of_ble_eq_true rfl) ?_
 intro h4 F4 N4
 iterate 11 k_extra "w"
 refine list0 (by k_asm) (by k_asm) ?_
 intro al' kal h5 F5 N5 l5
 iterate 1 k_extra "w"
 refine set_upd (by k_asm) (by k_asm) (by k_asm) (by k_mem) (by k_mem) (by k_is) (by k_is) (by k_is) (by k_is) (by k_get) (by k_put) (Nat.le_of_ble_eq_true rfl) ?_
 intro h6 F6 N6
 k_extra "w"
 refine for_empty g' ?_ rfl rfl (by intro _;rfl) (by passes_own)
 k_extra "w"
 have hald:NeA al' d:=⟨Nat.ne_of_gt (l5 (d,_) (by k_mem))⟩
 refine fun _ kM=>kM al k _ _ rfl rfl (by k_asm) (by k_asm) (by k_mem) ?_
 intro h7 tk7 F7 N7
 (k_extra "w";(try (k_unfold;(try dsimp only)));k_extra "w")
 have hard:NeA ar' d:=⟨Nat.ne_of_gt (l3 (d,_) (by k_mem))⟩
 refine ret _ _ al' ar' kal (by k_asm) (news_sub (by k_asm) fun p hp=>?_) l3 (l5 (ar',_) (by k_mem)) lo3
 rcases of_mem_upd hp with rfl | ⟨hp,hn⟩
 ·exact mem_upd_self
 ·refine mem_upd ?_ hn
  rcases List.mem_cons.mp hp with rfl | hp
  ·exact .head _
  ·exact .tail _ (mem_upd hp hn)
theorem rm_setf (x d al ar lam:Addr) (lv:Int) (tl t1 t2 t3 t4 t5:Tok) (k:Nat) (B:Below A₀ base outer h₀) (F:Fr h₀ L s.heap m) (X:(Kp w.params).In h₀) (N:News h₀ L s.heap news) (T:Top p loose mean mg mb h₀) (hk:cs.kind=.function) (hdp:dp + 3 < recursionLimit) (hun:un + 24 < cLine)
 (hx:(x,instObj 929 d)∈news) (hd:(d,rm0D w.params lv al ar tl t1 t2 t3 t4 t5)∈news) (hal:(al,listOf #[] k)∈news)
 (ret:∀ h' tk' R news',Fr h₀ L h' m→News h₀ L h' news'→RmIn prog w news' R→R.x=x→R.lam=lam→R.lvl=lv→R.seq=[]→R.links=[]→(∀ p∈news,p.1≠d→p∈news')→(∀ a,R.own a→a=x∨a=d∨∀ p∈news,p.1≠a)→Q .none { s with heap:=h',toks:=tk' })
 : wpAny (model prog w) (ktrTop dp un gd cn cs L a ccd cl outer) (call (.ref 868) [.ref x,.ref lam]) Q E s:=by
 have hxd:NeA x d:=newsNe N hx hd ne_rt
 have hld:NeA al d:=newsNe N hal hd ne_ld
 (refine call_res ?_;k_extra "kE")
 iterate 4 k_extra "w"
 refine set_upd (by k_asm) (by k_asm) (by k_asm) (by k_mem) (by k_mem) (by k_is) (by k_is) (by k_is) (by k_is) (by k_get) (by k_put) (Nat.le_of_ble_eq_true rfl) ?_
 intro h3 F3 N3
 iterate 6 k_extra "w"
 refine rm_rebuild x d al ar lv (.ref lam) .none tl t1 t2 t3 t4 t5 k (by k_asm) (by k_asm) (by k_asm) (by k_asm) (by k_asm) rfl (by ktr_room) (by ktr_units) (by k_mem) (by k_mem) (by k_mem) ?_
 intro h5 tk5 al' ar' k5 F5 N5 l5 l5' lo5
 (k_extra "w";(try (k_unfold;(try dsimp only)));k_extra "w")
 have fr:∀ p∈news,p.1≠d→@LT.lt Nat _ p.1 ar':=fun p hp hn=>l5 p (mem_upd hp hn)
 have frd:@LT.lt Nat _ d ar':=l5 (d,_) mem_upd_self
 have frA:∀ p∈news,@LT.lt Nat _ p.1 ar':=fun p hp=>by
  by_cases e:p.1=d
  ·refine rwl (e ..) ?_;exact frd
  ·exact fr p hp e
 have hard:ar'≠d:=Nat.ne_of_gt frd
 have hald:al'≠d:=Nat.ne_of_gt (Nat.lt_trans frd l5')
 refine ret _ _ { x:=x,d:=d,al:=al',ar:=ar',lam:=lam,lvl:=lv,tl:=tl,t1:=t1,t2:=t2,t3:=t3,t4:=t4,t5:=t5,dmf:=.none,n:=0,kl:=k5,tups:=[],seq:=[],links:=[],roles:=[],own:=fun a=>a=x∨a=d∨a=al'∨a=ar' } _ (by k_asm) (by k_asm) ?_ rfl rfl rfl rfl rfl ?_ ?_
 ·refine ⟨mem_upd (.tail _ (.tail _ (mem_upd hx hxd.out))) hxd.out,mem_upd_self,mem_upd (.head _) hald,.nil,⟨_,mem_upd (.tail _ (.head _)) hard,dict_nil⟩,lo5,?_,List.nodup_nil,?_,?_,?_,List.nodup_nil,?_,Nat.zero_le _,Nat.zero_le _,⟨.inl rfl,.inr (.inl rfl),.inr (.inr (.inl rfl)),.inr (.inr (.inr rfl)),?_,?_⟩,?_,Ne.symm hard,?_⟩
  any_goals (intro r hr;exact absurd hr List.not_mem_nil)
  rintro a (rfl | rfl | rfl | rfl)
  ·exact ⟨_,mem_upd (.tail _ (.tail _ (mem_upd hx hxd.out))) hxd.out⟩
  ·exact ⟨_,mem_upd_self⟩
  ·exact ⟨_,mem_upd (.head _) hald⟩
  ·exact ⟨_,mem_upd (.tail _ (.head _)) hard⟩
 ·exact fun p hp hn=>mem_upd (.tail _ (.tail _ (mem_upd hp hn))) hn
 ·rintro a (rfl | rfl | rfl | rfl)
  ·exact .inl rfl
  ·exact .inr (.inl rfl)
  ·exact .inr (.inr fun p hp=>Nat.ne_of_lt (Nat.lt_trans (frA p hp) l5'))
  ·exact .inr (.inr fun p hp=>Nat.ne_of_lt (frA p hp))
end
section
variable {prog:Program} {w:World} {h₀ h:Heap} {L:Addr} {news:Led} {R:RmA}
noncomputable def RmA.push (R:RmA) (T:Addr) (l:Str×Str):RmA:={ R with tups:=R.tups++[T],kl:=R.kl + 1,seq:=R.seq++[l],own:=fun a=>R.own a∨a=T }
theorem RmIn.push (I:RmIn prog w news R) (N:News h₀ L h news) {T:Addr} {l:Str×Str} {ta tb:Tok} {nt:Nat} (fresh:∀ p∈news,p.1≠T) (hlen:R.seq.length≤19) :
  RmIn prog w (upd R.al (refsO (R.tups++[T]) (R.kl + 1)) ((T,pairO l.1 l.2 ta tb nt)::news)) (R.push T l) ∧
   Stp R.own (R.push T l).own news (upd R.al (refsO (R.tups++[T]) (R.kl + 1)) ((T,pairO l.1 l.2 ta tb nt)::news)):=by
 (refine e_EA (I.ar) ?_;intro oar har hod)
 have hc:=dict_cls hod
 have up:∀ {a o},(a,o)∈news→a≠R.al→(a,o)∈upd R.al (refsO (R.tups++[T]) (R.kl + 1)) ((T,pairO l.1 l.2 ta tb nt)::news):=fun h hn=>mem_upd (.tail _ h) hn
 have upc:∀ {a o},(a,o)∈news→o.cls≠.type "list"→(a,o)∈upd R.al (refsO (R.tups++[T]) (R.kl + 1)) ((T,pairO l.1 l.2 ta tb nt)::news):=fun h hn=>up h (newsNe N h I.al hn).out
 have hT:T≠R.al:=fun e=>fresh _ I.al e.symm
 refine ⟨⟨upc I.x (by nofun),upc I.d (by show Value.type "dict"≠_;decide),mem_upd_self,?_,⟨oar,upc har (by refine rwl (hc ..) ?_;decide),hod⟩,I.lo,?_,I.nd,I.rs,I.us,I.ends,I.nodup,I.names,I.few,?_,?_,?_,I.dar,I.rd⟩,?_,?_,?_⟩
 ·refine (I.tup.mono fun t l ⟨ta,tb,nt,h⟩=>?_).append (.one ⟨ta,tb,nt,mem_upd (.head _) hT⟩)
  exact i_E3 ta tb nt (upc h (by show Value.type "tuple"≠_;decide))
 ·intro r hr
  have J:=I.roles r hr
  have:=I.rd r hr
  exact ⟨upc J.x (by nofun),upc J.d (by show Value.type "dict"≠_;decide),up J.l this.2.2.1,up J.u this.2.2.2⟩
 ·show (R.seq++[l]).length≤20
  refine rwl (List.length_append ..) ?_;exact Nat.succ_le_succ hlen
 ·(refine e_A5 (I.own) ?_;intro o1 o2 o3 o4 o5 o6)
  refine ⟨.inl o1,.inl o2,.inl o3,.inl o4,fun t ht=>?_,fun q hq=>?_⟩
  ·rcases List.mem_append.mp ht with ht | ht
   ·exact .inl (o5 t ht)
   ·exact .inr (List.mem_singleton.mp ht)
  ·(refine e_A3 (o6 q hq) ?_;intro p1 p2 p3 p4)
   exact ⟨.inl p1,.inl p2,.inl p3,.inl p4⟩
 ·rintro a (ha | rfl)
  ·by_cases e:a=R.al
   ·refine rwl (e ..) ?_;exact ⟨_,mem_upd_self⟩
   ·(refine e_E (I.there a ha) ?_;intro o ho)
    exact ⟨o,up ho e⟩
  ·exact ⟨_,mem_upd (.head _) hT⟩
 ·exact fun p hp ho=>up hp fun e=>ho (e▸I.own.2.2.1)
 ·rintro a (ha | rfl)
  ·exact .inl ha
  ·exact .inr fresh
 ·exact fun a ha=>.inl ha
noncomputable def RoleS.setR (p:RoleS) (q:Addr) (rs:List Addr) (k:Nat):RoleS:={ p with a:=(RoleA.sr p.a q),rs:=rs,k:=k }
noncomputable def RoleS.setU (p:RoleS) (q:Addr) (us:List Addr) (k:Nat):RoleS:={ p with a:=(RoleA.su p.a q),us:=us,k2:=k }
noncomputable def RoleS.two (u v:Addr) (q q2:Addr) (fr fu:List Addr→List Addr) (k k2:Nat) (p:RoleS):RoleS :=
 let p:=if p.a.x=u then p.setR q (fr p.rs) k else p
 if p.a.x=v then p.setU q2 (fu p.us) k2 else p
noncomputable def RmA.two (R:RmA) (u v q q2:Addr) (fr fu:List Addr→List Addr) (k k2:Nat) (links:List (Str×Str)):RmA :=
 { R with links:=links,roles:=R.roles.map (RoleS.two u v q q2 fr fu k k2),own:=fun a=>R.own a∨a=q∨a=q2 }
theorem ite_pr {c:Prop} [Decidable c] {a b p:RoleS} (ha:a.a.x=p.a.x∧a.a.d=p.a.d∧a.a.nm=p.a.nm) (hb:b.a.x=p.a.x∧b.a.d=p.a.d∧b.a.nm=p.a.nm) :
  (if c then a else b).a.x=p.a.x∧(if c then a else b).a.d=p.a.d∧(if c then a else b).a.nm=p.a.nm:=by split<;>assumption
theorem two_x {u v q q2:Addr} {fr fu:List Addr→List Addr} {k k2:Nat} (p:RoleS):(p.two u v q q2 fr fu k k2).a.x=p.a.x∧(p.two u v q q2 fr fu k k2).a.d=p.a.d∧(p.two u v q q2 fr fu k k2).a.nm=p.a.nm:=by
 have h0:∀ {c:Prop} [Decidable c],(if c then p.setR q (fr p.rs) k else p).a.x=p.a.x∧(if c then p.setR q (fr p.rs) k else p).a.d=p.a.d∧(if c then p.setR q (fr p.rs) k else p).a.nm=p.a.nm:=ite_pr ⟨rfl,rfl,rfl⟩ ⟨rfl,rfl,rfl⟩
 unfold RoleS.two
 exact ite_pr h0 h0
theorem RmIn.two (I:RmIn prog w news R) (N:News h₀ L h news) {u v:RoleS} (hu:u∈R.roles) (hv:v∈R.roles) {q q2:Addr} {fr fu:List Addr→List Addr} {k k2:Nat} {links:List (Str×Str)}
  (fq:∀ p∈news,p.1≠q) (fq2:∀ p∈news,p.1≠q2) (hqq:q≠q2)
  (hrs:F2 (At R.roles) (fr u.rs) (outs links u.a.nm)) (hus:F2 (At R.roles) (fu v.us) (ins links v.a.nm))
  (hro:∀ n,n≠u.a.nm→outs links n=outs R.links n) (huo:∀ n,n≠v.a.nm→ins links n=ins R.links n)
  (hends:∀ l∈links,l.1∈R.roles.map (·.a.nm)∧l.2∈R.roles.map (·.a.nm)) (hnd:links.Nodup) (hfew:links.length≤20) {news':Led}
  (hnews:news'=upd v.a.d (roleD w.params (RoleA.su (if v.a.x=u.a.x then (RoleA.sr u.a q) else v.a) q2)) ((q2,refsO (fu v.us) k2)::upd u.a.d (roleD w.params (RoleA.sr u.a q)) ((q,refsO (fr u.rs) k)::news))) :
  RmIn prog w news' (R.two u.a.x v.a.x q q2 fr fu k k2 links)∧Stp R.own (R.two u.a.x v.a.x q q2 fr fu k k2 links).own news news':=by
 (refine e_EA (I.ar) ?_;intro oar har hod)
 have hc:=dict_cls hod
 have Ju:=I.roles u hu
 have Jv:=I.roles v hv
 have up:∀ {a o},(a,o)∈news→a≠u.a.d→a≠v.a.d→(a,o)∈news':=fun h n1 n2=>by refine rwl (hnews ..) ?_;exact mem_upd (.tail _ (mem_upd (.tail _ h) n1)) n2
 have upc:∀ {a o},(a,o)∈news→o.cls≠.type "dict"→(a,o)∈news':=fun h hn=>up h (newsNe N h Ju.d hn).out (newsNe N h Jv.d hn).out
 have mq:(q,refsO (fr u.rs) k)∈news':=by refine rwl (hnews ..) ?_;exact mem_upd (.tail _ (mem_upd (.head _) (fun e=>fq _ Ju.d e.symm))) (fun e=>fq _ Jv.d e.symm)
 have mq2:(q2,refsO (fu v.us) k2)∈news':=by refine rwl (hnews ..) ?_;exact mem_upd (.head _) (fun e=>fq2 _ Jv.d e.symm)
 have mv:(v.a.d,roleD w.params (RoleA.su (if v.a.x=u.a.x then (RoleA.sr u.a q) else v.a) q2))∈news':=by refine rwl (hnews ..) ?_;exact mem_upd_self
 have mu:u.a.d≠v.a.d→(u.a.d,roleD w.params (RoleA.sr u.a q))∈news':=fun hd=>by refine rwl (hnews ..) ?_;exact mem_upd (.tail _ mem_upd_self) hd
 clear hnews
 have atM:∀ {a n},At R.roles a n→At (R.two u.a.x v.a.x q q2 fr fu k k2 links).roles a n:=fun ⟨p,hp,e1,e2⟩=>⟨_,List.mem_map_of_mem hp,(two_x p).1.trans e1,(two_x p).2.2.trans e2⟩
 have nmM:(R.two u.a.x v.a.x q q2 fr fu k k2 links).roles.map (·.a.nm)=R.roles.map (·.a.nm):=by
  show (R.roles.map _).map _=_
  refine rwl (List.map_map ..) ?_
  exact List.map_congr_left fun p _=>(two_x p).2.2
 have case4:∀ p∈R.roles,RoleIn w.params news' (p.two u.a.x v.a.x q q2 fr fu k k2)∧F2 (At R.roles) (p.two u.a.x v.a.x q q2 fr fu k k2).rs (outs links p.a.nm)∧F2 (At R.roles) (p.two u.a.x v.a.x q q2 fr fu k k2).us (ins links p.a.nm) ∧
   ((p.two u.a.x v.a.x q q2 fr fu k k2).a.rl=p.a.rl∨(p.two u.a.x v.a.x q q2 fr fu k k2).a.rl=q)∧((p.two u.a.x v.a.x q q2 fr fu k k2).a.ul=p.a.ul∨(p.two u.a.x v.a.x q q2 fr fu k k2).a.ul=q2):=by
  intro p hp
  have Jp:=I.roles p hp
  by_cases h1:p.a.x=u.a.x
  ·obtain rfl:=I.x_inj N hp hu h1
   by_cases h2:v.a.x=p.a.x
   ·obtain rfl:=I.x_inj N hv hp h2
    have e:v.two v.a.x v.a.x q q2 fr fu k k2=(v.setR q (fr v.rs) k).setU q2 (fu v.us) k2:=by simp [RoleS.two,RoleS.setR,RoleS.setU]
    refine rwl (e ..) ?_
    refine ⟨⟨upc Jp.x (by nofun),?_,mq,mq2⟩,hrs,hus,.inr rfl,.inr rfl⟩
    simp only [if_true] at mv
    exact mv
   ·have e:p.two p.a.x v.a.x q q2 fr fu k k2=p.setR q (fr p.rs) k:=by simp [RoleS.two,RoleS.setR,Ne.symm h2]
    have hd:p.a.d≠v.a.d:=fun q=>h2 (by (refine rwl (I.d_inj N hp hv q ..) ?_;with_reducible rfl))
    have hn:p.a.nm≠v.a.nm:=fun q=>h2 (by (refine rwl (inj_of_nodup_map I.nd hp hv q ..) ?_;with_reducible rfl))
    refine rwl (e ..) ?_
    exact ⟨⟨upc Jp.x (by nofun),mu hd,mq,upc Jp.u (by show Value.type "list"≠_;decide)⟩,hrs,by refine rwl (huo _ hn ..) ?_;exact I.us p hp,.inr rfl,.inl rfl⟩
  ·have hd1:p.a.d≠u.a.d:=fun q=>h1 (by (refine rwl (I.d_inj N hp hu q ..) ?_;with_reducible rfl))
   have hn1:p.a.nm≠u.a.nm:=fun q=>h1 (by (refine rwl (inj_of_nodup_map I.nd hp hu q ..) ?_;with_reducible rfl))
   by_cases h2:p.a.x=v.a.x
   ·obtain rfl:=I.x_inj N hp hv h2
    have e:p.two u.a.x p.a.x q q2 fr fu k k2=p.setU q2 (fu p.us) k2:=by simp [RoleS.two,RoleS.setU,h1]
    refine rwl (e ..) ?_
    refine ⟨⟨upc Jp.x (by nofun),?_,upc Jp.l (by show Value.type "list"≠_;decide),mq2⟩,by refine rwl (hro _ hn1 ..) ?_;exact I.rs p hp,hus,.inl rfl,.inr rfl⟩
    simp only [h1,if_false] at mv
    exact mv
   ·have hd2:p.a.d≠v.a.d:=fun q=>h2 (by (refine rwl (I.d_inj N hp hv q ..) ?_;with_reducible rfl))
    have hn2:p.a.nm≠v.a.nm:=fun q=>h2 (by (refine rwl (inj_of_nodup_map I.nd hp hv q ..) ?_;with_reducible rfl))
    have e:p.two u.a.x v.a.x q q2 fr fu k k2=p:=by simp [RoleS.two,h1,h2]
    refine rwl (e ..) ?_
    exact ⟨⟨upc Jp.x (by nofun),up Jp.d hd1 hd2,upc Jp.l (by show Value.type "list"≠_;decide),upc Jp.u (by show Value.type "list"≠_;decide)⟩,by refine rwl (hro _ hn1 ..) ?_;exact I.rs p hp,by refine rwl (huo _ hn2 ..) ?_;exact I.us p hp,.inl rfl,.inl rfl⟩
 have mem2:∀ {r},r∈(R.two u.a.x v.a.x q q2 fr fu k k2 links).roles→∃ p∈R.roles,p.two u.a.x v.a.x q q2 fr fu k k2=r:=fun h=>List.mem_map.mp h
 refine ⟨⟨upc I.x (by nofun),up I.d (Ne.symm (I.rd u hu).1) (Ne.symm (I.rd v hv).1),upc I.al (by show Value.type "list"≠_;decide),?_,⟨oar,up har (Ne.symm (I.rd u hu).2.1) (Ne.symm (I.rd v hv).2.1),?_⟩,I.lo,?_,by refine rwl (nmM ..) ?_;exact I.nd,?_,?_,?_,hnd,?_,hfew,I.few2,?_,?_,I.dar,?_⟩,?_,?_,?_⟩
 ·exact I.tup.mono fun t l ⟨ta,tb,nt,h⟩=>⟨ta,tb,nt,upc h (by show Value.type "tuple"≠_;decide)⟩
 ·have:((R.two u.a.x v.a.x q q2 fr fu k k2 links).roles.map fun r=>(r.a.nm,Value.ref r.a.x))=R.roles.map fun r=>(r.a.nm,Value.ref r.a.x):=by
   show (R.roles.map _).map _=_
   refine rwl (List.map_map ..) ?_
   exact List.map_congr_left fun p _=>by simp only [Function.comp_def];(refine rwl ((two_x p).2.2 ..) ?_;refine rwl ((two_x p).1 ..) ?_;with_reducible rfl)
  refine rwl (this ..) ?_;exact hod
 ·intro r hr;(refine e_EA (mem2 hr) ?_;intro p hp e9_2;subst e9_2);exact (case4 p hp).1
 ·intro r hr;(refine e_EA (mem2 hr) ?_;intro p hp e9_2;subst e9_2);refine rwl ((two_x p).2.2 ..) ?_;exact (case4 p hp).2.1.mono fun _ _=>atM
 ·intro r hr;(refine e_EA (mem2 hr) ?_;intro p hp e9_2;subst e9_2);refine rwl ((two_x p).2.2 ..) ?_;exact (case4 p hp).2.2.1.mono fun _ _=>atM
 ·refine rwl (nmM ..) ?_;exact hends
 ·intro r hr;(refine e_EA (mem2 hr) ?_;intro p hp e9_2;subst e9_2);refine rwl ((two_x p).2.2 ..) ?_;exact I.names p hp
 ·(refine e_A5 (I.own) ?_;intro o1 o2 o3 o4 o5 o6)
  refine ⟨.inl o1,.inl o2,.inl o3,.inl o4,fun t ht=>.inl (o5 t ht),fun r hr=>?_⟩
  (refine e_EA (mem2 hr) ?_;intro p hp e9_2;subst e9_2)
  (refine e_A3 (o6 p hp) ?_;intro p1 p2 p3 p4)
  (refine e_A4 (case4 p hp) ?_;intro _ _ _ c1 c2)
  refine ⟨.inl ((two_x p).1▸p1),.inl ((two_x p).2.1▸p2),?_,?_⟩
  ·rcases c1 with c | c<;>refine rwl (c ..) ?_
   ·exact .inl p3
   ·exact .inr (.inl rfl)
  ·rcases c2 with c | c<;>refine rwl (c ..) ?_
   ·exact .inl p4
   ·exact .inr (.inr rfl)
 ·rintro a (ha | rfl | rfl)
  ·(refine e_E (I.there a ha) ?_;intro o ho)
   by_cases e2:a=v.a.d
   ·refine rwl (e2 ..) ?_;exact ⟨_,mv⟩
   ·by_cases e1:a=u.a.d
    ·refine rwl (e1 ..) ?_;exact ⟨_,mu fun e=>e2 (e1.trans e)⟩
    ·exact ⟨o,up ho e1 e2⟩
  ·exact ⟨_,mq⟩
  ·exact ⟨_,mq2⟩
 ·intro r hr;(refine e_EA (mem2 hr) ?_;intro p hp e9_2;subst e9_2)
  (refine e_A3 (I.rd p hp) ?_;intro r1 r2 r3 r4)
  (refine e_A4 (case4 p hp) ?_;intro _ _ _ c1 c2)
  refine rwl ((two_x p).2.1 ..) ?_
  refine ⟨r1,r2,?_,?_⟩
  ·rcases c1 with c | c<;>refine rwl (c ..) ?_
   ·exact r3
   ·exact fun e=>fq _ I.al e.symm
  ·rcases c2 with c | c<;>refine rwl (c ..) ?_
   ·exact r4
   ·exact fun e=>fq2 _ I.al e.symm
 ·intro p hp ho
  (refine e_A5 (I.own) ?_;intro _ _ _ _ _ o6)
  exact up hp (fun e=>ho (e▸(o6 u hu).2.1)) (fun e=>ho (e▸(o6 v hv).2.1))
 ·rintro a (ha | rfl | rfl)
  ·exact .inl ha
  ·exact .inr fq
  ·exact .inr fq2
 ·exact fun a ha=>.inl ha
end
theorem pair_bne (a b c d:Str):((a,b) != (c,d))=!((a == c) && (b == d)):=by
 rw [Bool.eq_iff_iff,bne_iff_ne,Bool.not_eq_true',Bool.and_eq_false_iff,beq_eq_false_iff_ne,beq_eq_false_iff_ne,Ne,Prod.mk.injEq,Classical.not_and_iff_not_or_not]
theorem outs_snoc (links:List (Str×Str)) (a b n:Str):outs (links++[(a,b)]) n=outs links n++(if a=n then [b] else []):=by
 unfold outs
 (refine rwl (List.filter_append ..) ?_;refine rwl (List.map_append ..) ?_)
 by_cases h:a=n
 ·simp [h]
 ·simp [h]
theorem ins_snoc (links:List (Str×Str)) (a b n:Str):ins (links++[(a,b)]) n=ins links n++(if b=n then [a] else []):=by
 unfold ins
 (refine rwl (List.filter_append ..) ?_;refine rwl (List.map_append ..) ?_)
 by_cases h:b=n
 ·simp [h]
 ·simp [h]
theorem mem_outs {links:List (Str×Str)} {a b:Str}:b∈outs links a↔(a,b)∈links:=by
 unfold outs
 constructor
 ·intro h
  (refine e_EA (List.mem_map.mp h) ?_;intro l hl e9_2;subst e9_2)
  (refine e_A (List.mem_filter.mp hl) ?_;intro h1 h2)
  refine rwr (beq_iff_eq.mp h2 ..) ?_;exact h1
 ·exact fun h=>List.mem_map.mpr ⟨_,List.mem_filter.mpr ⟨h,by simp⟩,rfl⟩
theorem mem_ins {links:List (Str×Str)} {a b:Str}:a∈ins links b↔(a,b)∈links:=by
 unfold ins
 constructor
 ·intro h
  (refine e_EA (List.mem_map.mp h) ?_;intro l hl e9_2;subst e9_2)
  (refine e_A (List.mem_filter.mp hl) ?_;intro h1 h2)
  refine rwr (beq_iff_eq.mp h2 ..) ?_;exact h1
 ·exact fun h=>List.mem_map.mpr ⟨_,List.mem_filter.mpr ⟨h,by simp⟩,rfl⟩
section
variable {prog:Program} {w:World} {h₀ h:Heap} {L:Addr} {news:Led} {R:RmA}
theorem RmIn.at_fun (I:RmIn prog w news R) (N:News h₀ L h news) {v:RoleS} (hv:v∈R.roles) {n:Str} (ha:At R.roles v.a.x n):n=v.a.nm:=by
 (refine e_EA2 (ha) ?_;clear ha;intro p hp e e9_3;subst e9_3)
 (refine rwl (I.x_inj N hp hv e ..) ?_;with_reducible rfl)
theorem RmIn.at_nm (I:RmIn prog w news R) {v:RoleS} (hv:v∈R.roles) {a:Addr} (ha:At R.roles a v.a.nm):a=v.a.x:=by
 (refine e_EA2 (ha) ?_;clear ha;intro p hp e9_2 e;subst e9_2)
 (refine rwl (inj_of_nodup_map I.nd hp hv e ..) ?_;with_reducible rfl)
theorem RmIn.linked (I:RmIn prog w news R) (N:News h₀ L h news) {u v:RoleS} (hu:u∈R.roles) (hv:v∈R.roles) {q q2:Addr}
  (fq:∀ p∈news,p.1≠q) (fq2:∀ p∈news,p.1≠q2) (hqq:q≠q2) (hno:(u.a.nm,v.a.nm) ∉ R.links) (hlen:R.links.length≤19) {news':Led}
  (hnews:news'=upd v.a.d (roleD w.params (RoleA.su (if v.a.x=u.a.x then (RoleA.sr u.a q) else v.a) q2)) ((q2,refsO ((v.us.filter fun b=>b != u.a.x)++[u.a.x]) 0)::upd u.a.d (roleD w.params (RoleA.sr u.a q)) ((q,refsO ((u.rs.filter fun b=>b != v.a.x)++[v.a.x]) 0)::news))) :
  RmIn prog w news' (R.two u.a.x v.a.x q q2 (fun l=>(l.filter fun b=>b != v.a.x)++[v.a.x]) (fun l=>(l.filter fun b=>b != u.a.x)++[u.a.x]) 0 0 (R.links++[(u.a.nm,v.a.nm)])) ∧
   Stp R.own (R.two u.a.x v.a.x q q2 (fun l=>(l.filter fun b=>b != v.a.x)++[v.a.x]) (fun l=>(l.filter fun b=>b != u.a.x)++[u.a.x]) 0 0 (R.links++[(u.a.nm,v.a.nm)])).own news news':=by
 refine I.two N hu hv fq fq2 hqq ?_ ?_ ?_ ?_ ?_ ?_ ?_ hnews
 ·have:(u.rs.filter fun b=>b != v.a.x)=u.rs:=by
   refine List.filter_eq_self.mpr fun b hb=>?_
   refine bne_iff_ne.mpr fun e=>?_
   (refine e_EA ((I.rs u hu).left hb) ?_;intro n hn hat)
   subst e
   rw [I.at_fun N hv hat] at hn
   exact hno (mem_outs.mp hn)
  show F2 _ ((u.rs.filter fun b=>b != v.a.x)++[v.a.x]) _
  (refine rwl (this ..) ?_;refine rwl (outs_snoc ..) ?_;refine rwl (if_pos rfl ..) ?_)
  exact (I.rs u hu).append (.one ⟨v,hv,rfl,rfl⟩)
 ·have:(v.us.filter fun b=>b != u.a.x)=v.us:=by
   refine List.filter_eq_self.mpr fun b hb=>?_
   refine bne_iff_ne.mpr fun e=>?_
   (refine e_EA ((I.us v hv).left hb) ?_;intro n hn hat)
   subst e
   rw [I.at_fun N hu hat] at hn
   exact hno (mem_ins.mp hn)
  show F2 _ ((v.us.filter fun b=>b != u.a.x)++[u.a.x]) _
  (refine rwl (this ..) ?_;refine rwl (ins_snoc ..) ?_;refine rwl (if_pos rfl ..) ?_)
  exact (I.us v hv).append (.one ⟨u,hu,rfl,rfl⟩)
 ·intro n hn
  (refine rwl (outs_snoc ..) ?_;refine rwl (if_neg (Ne.symm hn) ..) ?_;refine rwl (List.append_nil ..) ?_;with_reducible rfl)
 ·intro n hn
  (refine rwl (ins_snoc ..) ?_;refine rwl (if_neg (Ne.symm hn) ..) ?_;refine rwl (List.append_nil ..) ?_;with_reducible rfl)
 ·intro l hl
  rcases List.mem_append.mp hl with hl | hl
  ·exact I.ends l hl
  ·refine rwl (List.mem_singleton.mp hl ..) ?_
   exact ⟨List.mem_map_of_mem (f:=fun r:RoleS=>r.a.nm) hu,List.mem_map_of_mem (f:=fun r:RoleS=>r.a.nm) hv⟩
 ·refine rwl (propext (List.nodup_append ..)) ?_
  refine ⟨I.nodup,by simp,?_⟩
  intro x hx y hy e
  rw [List.mem_singleton.mp hy] at e
  exact hno (e▸hx)
 ·(refine rwl (List.length_append ..) ?_;refine rwl (List.length_singleton ..) ?_);omega
theorem RmIn.unlinked (I:RmIn prog w news R) (N:News h₀ L h news) {u v:RoleS} (hu:u∈R.roles) (hv:v∈R.roles) {q q2:Addr} {k k2:Nat}
  (fq:∀ p∈news,p.1≠q) (fq2:∀ p∈news,p.1≠q2) (hqq:q≠q2) {news':Led}
  (hnews:news'=upd v.a.d (roleD w.params (RoleA.su (if v.a.x=u.a.x then (RoleA.sr u.a q) else v.a) q2)) ((q2,refsO (v.us.filter fun b=>b != u.a.x) k2)::upd u.a.d (roleD w.params (RoleA.sr u.a q)) ((q,refsO (u.rs.filter fun b=>b != v.a.x) k)::news))) :
  RmIn prog w news' (R.two u.a.x v.a.x q q2 (fun l=>l.filter fun b=>b != v.a.x) (fun l=>l.filter fun b=>b != u.a.x) k k2 (R.links.filter fun l=>l != (u.a.nm,v.a.nm))) ∧
   Stp R.own (R.two u.a.x v.a.x q q2 (fun l=>l.filter fun b=>b != v.a.x) (fun l=>l.filter fun b=>b != u.a.x) k k2 (R.links.filter fun l=>l != (u.a.nm,v.a.nm))).own news news':=by
 have fo:∀ n,outs (R.links.filter fun l=>l != (u.a.nm,v.a.nm)) n=(outs R.links n).filter fun b=>!(n == u.a.nm && b == v.a.nm):=by
  intro n
  unfold outs
  (refine rwl (List.filter_map ..) ?_;refine rwl (List.filter_filter ..) ?_;refine rwl (List.filter_filter ..) ?_)
  congr 1
  refine List.filter_congr fun l _=>?_
  rcases l with ⟨a,b⟩
  show ((a == n) && ((a,b) != (u.a.nm,v.a.nm)))=((!(n == u.a.nm && b == v.a.nm)) && (a == n))
  refine rwl (pair_bne ..) ?_
  by_cases h1:a=n
  ·subst h1;(refine rwl (Bool.and_comm ..) ?_;with_reducible rfl)
  ·(refine rwl (beq_eq_false_iff_ne.mpr h1 ..) ?_;refine rwl (Bool.false_and ..) ?_;refine rwl (Bool.and_false ..) ?_;with_reducible rfl)
 have fi:∀ n,ins (R.links.filter fun l=>l != (u.a.nm,v.a.nm)) n=(ins R.links n).filter fun a=>!(n == v.a.nm && a == u.a.nm):=by
  intro n
  unfold ins
  (refine rwl (List.filter_map ..) ?_;refine rwl (List.filter_filter ..) ?_;refine rwl (List.filter_filter ..) ?_)
  congr 1
  refine List.filter_congr fun l _=>?_
  rcases l with ⟨a,b⟩
  show ((b == n) && ((a,b) != (u.a.nm,v.a.nm)))=((!(n == v.a.nm && a == u.a.nm)) && (b == n))
  refine rwl (pair_bne ..) ?_
  by_cases h1:b=n
  ·subst h1;(refine rwl (Bool.and_comm (a == u.a.nm) ..) ?_;refine rwl (Bool.and_comm ..) ?_;with_reducible rfl)
  ·(refine rwl (beq_eq_false_iff_ne.mpr h1 ..) ?_;refine rwl (Bool.false_and ..) ?_;refine rwl (Bool.and_false ..) ?_;with_reducible rfl)
 refine I.two N hu hv fq fq2 hqq ?_ ?_ ?_ ?_ ?_ ?_ ?_ hnews
 ·refine rwl (fo ..) ?_
  refine (I.rs u hu).filter _ _ fun a n hat=>?_
  by_cases e:a=v.a.x
  ·subst e;refine rwl (I.at_fun N hv hat ..) ?_;simp
  ·have:n≠v.a.nm:=fun q=>e (I.at_nm hv (q▸hat))
   (refine rwl (beq_self_eq_true ..) ?_;refine rwl (Bool.true_and ..) ?_;refine rwl (beq_eq_false_iff_ne.mpr this ..) ?_)
   exact bne_iff_ne.mpr e
 ·refine rwl (fi ..) ?_
  refine (I.us v hv).filter _ _ fun a n hat=>?_
  by_cases e:a=u.a.x
  ·subst e;refine rwl (I.at_fun N hu hat ..) ?_;simp
  ·have:n≠u.a.nm:=fun q=>e (I.at_nm hu (q▸hat))
   (refine rwl (beq_self_eq_true ..) ?_;refine rwl (Bool.true_and ..) ?_;refine rwl (beq_eq_false_iff_ne.mpr this ..) ?_)
   exact bne_iff_ne.mpr e
 ·intro n hn
  refine rwl (fo ..) ?_
  exact List.filter_eq_self.mpr fun b _=>by simp [hn]
 ·intro n hn
  refine rwl (fi ..) ?_
  exact List.filter_eq_self.mpr fun b _=>by simp [hn]
 ·exact fun l hl=>I.ends l (List.mem_filter.mp hl).1
 ·exact I.nodup.sublist List.filter_sublist
 ·exact Nat.le_trans (List.length_filter_le _ _) I.few
end
section
open PySem.MeetsSeq PySem.SeqAt
open PySem.AutoSeq1 (wpAny_loadPart')
theorem rem_loop (l:Addr) (items:Array Value) (n:Nat) (x:Value) (e:Nat→Bool) (j:Nat) (hj:j < items.size) (hit:e j=true) (k:Nat) (hs1:items.size≤sizeLine) :
  ∀ i:Nat,j - i=k→i≤j→(∀ q,i≤q→q < j→e q=false)→Meets (Builtin.«list.remove.loop» ⟨[.ref l,x,rawInt i],[]⟩)
   (fun A R s=>s.heap.get? l=some { cls:=.type "list",dict:=none,data:=.seq items n,slots:=#[] }∧(∀ q (hq:q < items.size),EqAt A.in1 s items[q] x (e q)) ∧
    R (.ok (.ret .none)) { s with heap:=s.heap.update l (Obj.mapSeq fun xs=>xs.eraseIdxIfInBounds j) }):=by
 induction k with
 | zero =>
  intro i hk hij hno prog w A R s h
  obtain ⟨hp,g,d,tk,os⟩:=s;(refine e_A2 (h) ?_;clear h;intro hl he h)
  obtain rfl:i=j:=by k_extra "ar"
  wp_walk using wpAny_loadPart' hl
  refine rwl (show items[((i:Nat):Int).toNat]?=some items[i] by simp [hj]) ?_
  refine wpAny_bind (he _ hj prog w _ _ ?_)
  refine rwl (hit ..) ?_
  have hz':(items.eraseIdxIfInBounds i).size≤sizeLine + 1:=Nat.le_trans (size_erased items _) (Nat.le_succ_of_le hs1)
  wp_walk using (wpAny_updateSeq hl rfl (hz:=hs1) (_hz':=hz')),wpAny_loadPart' hl
  simpa using h
 | succ k ih =>
  intro i hk hij hno prog w A R s h
  obtain ⟨hp,g,d,tk,os⟩:=s;(refine e_A2 (h) ?_;clear h;intro hl he h)
  have hlt:i < items.size:=Nat.lt_trans (ar_s2 hk) hj
  wp_walk using wpAny_loadPart' hl
  refine rwl (show items[((i:Nat):Int).toNat]?=some items[i] by simp [hlt]) ?_
  refine wpAny_bind (he _ hlt prog w _ _ ?_)
  refine rwl (hno i (Nat.le_refl _) (by k_extra "ar") ..) ?_
  wp_walk
  refine rwl (show ((i:Int) + 1)=((i + 1:Nat):Int) by push_cast;rfl) ?_
  exact ⟨plainId_quiet plain_remove_loop _,codeAny_builtin entry_remove_loop (by
   refine rwl (Around.under_plainId plain_remove_loop _ ..) ?_
   exact ih (i + 1) (by k_extra "ar") (by k_extra "ar") (fun q h1 h2=>hno q (Nat.le_of_succ_le h1) h2) prog w A R _ ⟨hl,he,h⟩)⟩
theorem rem_at (l:Addr) (items:Array Value) (n:Nat) (x:Value) (e:Nat→Bool) (j:Nat) (hj:j < items.size) (hit:e j=true) (hno:∀ q,q < j→e q=false) (hs1:items.size≤sizeLine) :
  Meets (Builtin.«list.remove» ⟨[.ref l,x],[]⟩)
   (fun A R s=>s.heap.get? l=some { cls:=.type "list",dict:=none,data:=.seq items n,slots:=#[] }∧(∀ q (hq:q < items.size),EqAt A.in1 s items[q] x (e q)) ∧
    R (.ok (.ret .none)) { s with heap:=s.heap.update l (Obj.mapSeq fun xs=>xs.eraseIdxIfInBounds j) }):=by
 intro prog w A R s h
 obtain ⟨hp,g,d,tk,os⟩:=s;(refine e_A2 (h) ?_;clear h;intro hl he h)
 wp_walk using wpAny_loadPart' hl
 exact ⟨plainId_quiet plain_remove_loop _,codeAny_builtin entry_remove_loop (by
  refine rwl (Around.under_plainId plain_remove_loop _ ..) ?_
  exact rem_loop l items n x e j hj hit _ hs1 0 rfl (Nat.zero_le _) (fun q _ h2=>hno q h2) prog w A R _ ⟨hl,he,h⟩)⟩
end
theorem strOk_names {n:Str} (h:n∈Names):PyData.strOk n=true:=by
 have:∀ n∈Names,PyData.strOk n=true:=by decide +kernel
 exact this n h
noncomputable def pairD (l:Str×Str):Dat:=.tuple [.str l.1,.str l.2]
theorem pairD_inj {l l':Str×Str}:pairD l=pairD l'↔l=l':=by
 rcases l with ⟨a,b⟩;rcases l' with ⟨c,d⟩
 simp [pairD]
theorem mem_pairD {l:Str×Str} {ls:List (Str×Str)}:pairD l∈ls.map pairD↔l∈ls:=by
 constructor
 ·intro h
  (refine e_EA (List.mem_map.mp h) ?_;intro l' h' e)
  refine rwr (pairD_inj.mp e ..) ?_;exact h'
 ·exact List.mem_map_of_mem
noncomputable def NamesL (ls:List (Str×Str)):Prop:=∀ l∈ls,l.1∈Names∧l.2∈Names
theorem pairD_ok {l:Str×Str} (h:l.1∈Names∧l.2∈Names):kqdOk 8 (pairD l)=true:=by
 simp [pairD,kqdOk,strOk_names h.1,strOk_names h.2]
theorem pairsD_ok {ls:List (Str×Str)} (h:NamesL ls):∀ d∈ls.map pairD,kqdOk 8 d=true:=fun d hd=>by
 (refine e_EA (List.mem_map.mp hd) ?_;intro l hl e9_2;subst e9_2)
 exact pairD_ok (h l hl)
theorem pairD_in {news:Led} {T:Addr} {a b:Str} {ta tb:Tok} {n:Nat} (h:(T,pairO a b ta tb n)∈news):DatIn news (.ref T) (pairD (a,b)):=.tuple (vs:=[.str a ta,.str b tb]) h (.cons (.str _ _) (.cons (.str _ _) .nil))
theorem TupsIn.dat {news:Led} {tups:List Addr} {ls:List (Str×Str)} (h:TupsIn news tups ls):DatAll news (tups.map Value.ref) (ls.map pairD):=by
 induction h with
 | nil=>exact .nil
 | cons h _ ih =>
  (refine e_E3 (h) ?_;clear h;intro ta tb nt hm)
  exact .cons (pairD_in hm) ih
theorem TupsIn.sub {n1 n2:Led} {tups:List Addr} {ls:List (Str×Str)} (h:TupsIn n1 tups ls) (hs:∀ p∈n1,p∈n2):TupsIn n2 tups ls:=h.mono fun _ _ ⟨a,b,n,h⟩=>⟨a,b,n,hs _ h⟩
section
variable {prog:Program} {w:World} {A:Around} {E:Value→Shared→Prop} {s:Shared} {h₀ h:Heap} {L:Addr} {m:Str→Option Value} {news:Led}
theorem pairs_notin {D T:Addr} {tups:List Addr} {k:Nat} {ls:List (Str×Str)} {l:Str×Str} {Q:Value→Shared→Prop} (N:News h₀ L s.heap news) (hD:(D,refsO tups k)∈news) {n₁:Led} (ht:TupsIn n₁ tups ls) (hsub:∀ p∈n₁,p∈news) (hT:DatIn news (.ref T) (pairD l))
  (hn:NamesL ls) (hl:l.1∈Names∧l.2∈Names) (hu:A.units + 64 < cLine) (b:Bool) (hb:b=true↔l∈ls) (h:Q (.bool (!b)) s):wpAny (model prog w) A (compareOp .NotIn (.ref T) (.ref D)) Q E s:=by
 refine kqd_notIn N hD rfl rfl ht.dat hsub hT sub_rfl (pairsD_ok hn) (pairD_ok hl) hu ?_
 have e:∀ i:Decidable (pairD l∈ls.map pairD),@decide _ i=b:=fun i=>by (refine rwl (propext (Bool.eq_iff_iff ..)) ?_;refine rwl (propext (decide_eq_true_iff ..)) ?_;refine rwl (propext (mem_pairD ..)) ?_;refine rwl (propext (hb ..)) ?_;with_reducible rfl)
 refine rwl (e ..) ?_
 exact h
theorem first_at {l:Str×Str}:∀ {ls:List (Str×Str)},l∈ls→∃ j:Nat,ls[j]?=some l∧∀ q:Nat,q < j→ls[q]?≠some l
 | [],h=>nomatch h
 | x::ls,h=>by
  by_cases e:x=l
  ·exact ⟨0,by refine rwl (e ..) ?_;rfl,fun q hq=>absurd hq (Nat.not_lt_zero _)⟩
  ·rcases List.mem_cons.mp h with rfl | h
   ·exact absurd rfl e
   ·(refine e_EA (first_at h) ?_;intro j h1 h2)
    refine ⟨j + 1,h1,fun q hq=>?_⟩
    cases q with
    | zero=>intro q;exact e (Option.some.inj q)
    | succ q=>exact h2 q (Nat.lt_of_succ_lt_succ hq)
theorem F2.eraseIdx {α β:Type} {R:α→β→Prop} {as:List α} {bs:List β} (h:F2 R as bs):∀ j,F2 R (as.eraseIdx j) (bs.eraseIdx j):=by
 induction h with
 | nil=>intro j;exact .nil
 | cons h t ih =>
  intro j
  cases j with
  | zero=>exact t
  | succ j=>exact .cons h (ih j)
theorem eraseIdx_erase {l:Str×Str}:∀ {ls:List (Str×Str)} {j:Nat},ls[j]?=some l→(∀ q,q < j→ls[q]?≠some l)→ls.eraseIdx j=ls.erase l
 | [],_,h,_=>by simp at h
 | x::ls,0,h,_=>by
  obtain rfl:x=l:=Option.some.inj h
  (refine rwl (List.eraseIdx_cons_zero ..) ?_;refine rwl (List.erase_cons_head ..) ?_;with_reducible rfl)
 | x::ls,j + 1,h,hno=>by
  have hx:x≠l:=fun e=>hno 0 (Nat.succ_pos _) (by refine rwl (e ..) ?_;rfl)
  (refine rwl (List.eraseIdx_cons_succ ..) ?_;refine rwl (List.erase_cons_tail (by simpa using hx) ..) ?_;refine rwl (eraseIdx_erase (ls:=ls) h fun q hq=>hno (q + 1) (Nat.succ_lt_succ hq)) ?_;with_reducible rfl)
theorem map_eraseIdx {α β:Type} (f:α→β):∀ (l:List α) (j:Nat),(l.map f).eraseIdx j=(l.eraseIdx j).map f
 | [],_=>rfl
 | _::_,0=>rfl
 | x::l,j + 1=>by (refine rwl (List.map_cons ..) ?_;refine rwl (List.eraseIdx_cons_succ ..) ?_;refine rwl (List.eraseIdx_cons_succ ..) ?_;refine rwl (List.map_cons ..) ?_;refine rwl (map_eraseIdx f l j ..) ?_;with_reducible rfl)
theorem pairs_remove {D T:Addr} {tups:List Addr} {k:Nat} {ls:List (Str×Str)} {l:Str×Str} {Q:Value→Shared→Prop} (F:Fr h₀ L s.heap m) (N:News h₀ L s.heap news) (hD:(D,refsO tups k)∈news) {n₁:Led} (ht:TupsIn n₁ tups ls) (hsub:∀ p∈n₁,p∈news) (hT:DatIn news (.ref T) (pairD l))
  (hn:NamesL ls) (hl:l.1∈Names∧l.2∈Names) (hin:l∈ls) (hsz:ls.length≤1000) (hu:A.units + 128 < cLine)
  (h:∀ h' j,Fr h₀ L h' m→News h₀ L h' (upd D (refsO (tups.eraseIdx j) (k + 1)) news)→TupsIn n₁ (tups.eraseIdx j) (ls.erase l)→Q .none { s with heap:=h' }) :
  wpAny (model prog w) A (call (.builtin "list.remove") [.ref D,.ref T]) Q E s:=by
 (refine e_EA (first_at hin) ?_;intro j hj hfirst)
 have hlen:=ht.length
 have hjl:j < ls.length:=(List.getElem?_eq_some_iff.mp hj).1
 have hjt:j < tups.length:=Nat.lt_of_lt_of_le hjl (Nat.le_of_eq hlen.symm)
 have z:=N _ hD
 have get:∀ {q} (hq:q < tups.length),((tups.map Value.ref).toArray)[q]'(by simpa using hq)=.ref tups[q]:=fun hq=>by simp
 refine call_meets PySem.F.slot_list_remove ⟨_,z.1,rfl⟩ PySem.F.entry_list_remove (PySem.F.args_list_remove_2 _ _)
  (rem_at D (tups.map Value.ref).toArray k (.ref T) (fun q=>PyData.eqv (kqdP (pairD (ls.getD q ("","")))) (kqdP (pairD l))) j (by (refine rwl (List.size_toArray ..) ?_;refine rwl (List.length_map ..) ?_);exact hjt) ?_ ?_ (by (refine rwl (List.size_toArray ..) ?_;refine rwl (List.length_map ..) ?_;refine rwl (sizeLine_eq ..) ?_);k_extra "ar")) ⟨z.1,?_,?_⟩
 ·have:ls.getD j ("","")=l:=by (refine rwl (List.getD_eq_getElem?_getD ..) ?_;refine rwl (hj ..) ?_);rfl
  refine rwl (this ..) ?_
  exact (kqd_eqv 8 (pairD l) (pairD l) 8 (pairD_ok hl) (pairD_ok hl)).mpr rfl
 ·intro q hq
  have hql:q < ls.length:=Nat.lt_trans hq hjl
  have e:ls.getD q ("","")=ls[q]:=by (refine rwl (List.getD_eq_getElem?_getD ..) ?_;refine rwl (List.getElem?_eq_getElem hql ..) ?_);rfl
  refine rwl (e ..) ?_
  refine Bool.eq_false_iff.mpr fun c=>?_
  have:=(kqd_eqv 8 _ (pairD l) 8 (pairD_ok (hn _ (List.getElem_mem hql))) (pairD_ok hl)).mp c
  exact hfirst q hq (by (refine rwl (List.getElem?_eq_getElem hql ..) ?_;refine rwl (pairD_inj.mp this ..) ?_;with_reducible rfl))
 ·intro q hq
  have hqt:q < tups.length:=by simpa using hq
  have hql:q < ls.length:=Nat.lt_of_lt_of_le hqt (Nat.le_of_eq hlen)
  have e:ls.getD q ("","")=ls[q]:=by (refine rwl (List.getD_eq_getElem?_getD ..) ?_;refine rwl (List.getElem?_eq_getElem hql ..) ?_);rfl
  (refine rwl (get hqt ..) ?_;refine rwl (e ..) ?_)
  (refine e_EAE3 (ht.nth (List.getElem?_eq_getElem hqt)) ?_;intro l' hl' ta tb nt hm)
  replace hl':=(List.getElem?_eq_getElem hql ..)▸hl'
  refine rwl (Option.some.inj hl' ..) ?_
  have hl'm:l'∈ls:=Option.some.inj hl'▸List.getElem_mem hql
  (refine e_E (kqd_in N 8 (pairD_in (hsub _ hm)) (pairD_ok (hn _ hl'm))) ?_;intro as ra)
  (refine e_E (kqd_in N 8 hT (pairD_ok hl)) ?_;intro bs rb)
  have la:=kqd_lay 8 _ (pairD_ok (hn _ hl'm))
  have lb:=kqd_lay 8 _ (pairD_ok hl)
  refine keq_at ra rb ?_ ?_ ?_
  ·unfold SeqAt.shaped;(refine rwl (la.1 ..) ?_;refine rwl (Bool.true_and ..) ?_);exact decide_eq_true (Nat.le_trans la.2 (by decide))
  ·unfold SeqAt.shaped;(refine rwl (lb.1 ..) ?_;refine rwl (Bool.true_and ..) ?_);exact decide_eq_true (Nat.le_trans lb.2 (by decide))
  ·show A.units + 1 + 64 < cLine
   k_extra "ar"
 ·refine h _ j (F.change (Heap.SameBut.update ..) z.2.1 z.2.2) ?_ ?_
  ·have U:Upd D (refsO tups k) (refsO (tups.eraseIdx j) (k + 1)) (upd D (refsO tups k) news) (upd D (refsO (tups.eraseIdx j) (k + 1)) news):=upd_Upd
   (refine e_E2A3 (U.split) ?_;intro pre post e1 e2 a' b')
   refine rwl (e2 ..) ?_
   refine ki_turn _ (by refine rwr (e1 ..) ?_;exact news_updOf N hD) a' b' ?_ ?_
   ·apply Array.toList_inj.mp
    simp [Array.toList_eraseIdxIfInBounds,map_eraseIdx]
   ·rw [if_neg]
    simp only [List.size_toArray,List.length_map,List.length_eraseIdx,beq_iff_eq]
    refine rwl (if_pos hjt ..) ?_;exact Nat.ne_of_lt (Nat.sub_one_lt_of_lt hjt)
  ·refine rwr (eraseIdx_erase hj hfirst ..) ?_
   exact ht.eraseIdx j
end
theorem upd_comm_sub {P d:Addr} {o o':Obj} {l:Led} (hn:P≠d):∀ p∈upd P o (upd d o' l),p∈upd d o' (upd P o l):=fun p hp=>by
 rcases of_mem_upd hp with rfl | ⟨h,h1⟩
 ·exact mem_upd mem_upd_self hn
 ·rcases of_mem_upd h with rfl | ⟨h,h2⟩
  ·exact mem_upd_self
  ·exact mem_upd (mem_upd h h1) h2
theorem upd_cons_sub {P:Addr} {o:Obj} {x:Addr×Obj} {l:Led}:∀ p∈upd P o (x::l),p∈x::upd P o l:=fun p hp=>by
 rcases of_mem_upd hp with rfl | ⟨h,h1⟩
 ·exact .tail _ mem_upd_self
 ·rcases List.mem_cons.mp h with rfl | h
  ·exact .head _
  ·exact .tail _ (mem_upd h h1)
theorem table_sub {P d1 d2:Addr} {o o1 o2:Obj} {x1 x2:Addr×Obj} {l:Led} (h1:P≠d1) (h2:P≠d2):∀ p∈upd P o (upd d1 o1 (x1::upd d2 o2 (x2::l))),p∈upd d1 o1 (x1::upd d2 o2 (x2::upd P o l)):=fun p hp =>
 sub_upd (fun p hp=>sub_cons (fun p hp=>sub_upd upd_cons_sub p (upd_comm_sub h2 p hp)) p (upd_cons_sub p hp)) p (upd_comm_sub h1 p hp)
theorem Stp.wider {own own':Addr→Prop} {news news':Led} (S:Stp own own' news news') (P:Addr→Prop):Stp (fun a=>own a∨P a) (fun a=>own' a∨P a) news news' where
 keep:=fun p hp h=>S.keep p hp fun q=>h (.inl q)
 new:=fun a ha=>ha.elim (fun h=>(S.new a h).imp .inl id) fun h=>.inl (.inr h)
 more:=fun a ha=>ha.imp (S.more a) id
section
variable {prog:Program} {w:World} {h₀ h:Heap} {L:Addr} {news:Led} {R:RmA}
noncomputable def RmA.pop (R:RmA) (ts:List Addr) (ls:List (Str×Str)) (k:Nat):RmA:={ R with tups:=ts,kl:=k,seq:=ls }
theorem RmIn.pop (I:RmIn prog w news R) (N:News h₀ L h news) {ts:List Addr} {ls:List (Str×Str)} {k:Nat} (ht:TupsIn news ts ls) (hs:∀ t∈ts,t∈R.tups) (hlen:ls.length≤20) :
  RmIn prog w (upd R.al (refsO ts k) news) (R.pop ts ls k)∧Stp R.own (R.pop ts ls k).own news (upd R.al (refsO ts k) news):=by
 (refine e_EA (I.ar) ?_;intro oar har hod)
 have hc:=dict_cls hod
 have up:∀ {a o},(a,o)∈news→a≠R.al→(a,o)∈upd R.al (refsO ts k) news:=fun h hn=>mem_upd h hn
 have upc:∀ {a o},(a,o)∈news→o.cls≠.type "list"→(a,o)∈upd R.al (refsO ts k) news:=fun h hn=>up h (newsNe N h I.al hn).out
 refine ⟨⟨upc I.x (by nofun),upc I.d (by show Value.type "dict"≠_;decide),mem_upd_self,?_,⟨oar,upc har (by refine rwl (hc ..) ?_;decide),hod⟩,I.lo,?_,I.nd,I.rs,I.us,I.ends,I.nodup,I.names,I.few,hlen,?_,?_,I.dar,I.rd⟩,?_,?_,?_⟩
 ·exact ht.mono fun t l ⟨ta,tb,nt,h⟩=>⟨ta,tb,nt,upc h (by show Value.type "tuple"≠_;decide)⟩
 ·intro r hr
  have J:=I.roles r hr
  have:=I.rd r hr
  exact ⟨upc J.x (by nofun),upc J.d (by show Value.type "dict"≠_;decide),up J.l this.2.2.1,up J.u this.2.2.2⟩
 ·(refine e_A5 (I.own) ?_;intro o1 o2 o3 o4 o5 o6)
  exact ⟨o1,o2,o3,o4,fun t ht=>o5 t (hs t ht),o6⟩
 ·intro a ha
  by_cases e:a=R.al
  ·refine rwl (e ..) ?_;exact ⟨_,mem_upd_self⟩
  ·(refine e_E (I.there a ha) ?_;intro o ho)
   exact ⟨o,up ho e⟩
 ·exact fun p hp ho=>up hp fun e=>ho (e▸I.own.2.2.1)
 ·exact fun a ha=>.inl ha
 ·exact fun a ha=>ha
theorem RmIn.off (I:RmIn prog w news R) {P:Addr} {o:Obj} (hP:¬ R.own P):RmIn prog w (upd P o news) R:=by
 (refine e_EA (I.ar) ?_;intro oar har hod)
 (refine e_A5 (I.own) ?_;intro o1 o2 o3 o4 o5 o6)
 have up:∀ {a ob},(a,ob)∈news→R.own a→(a,ob)∈upd P o news:=fun h hn=>mem_upd h fun e=>hP (e▸hn)
 refine ⟨up I.x o1,up I.d o2,up I.al o3,?_,⟨oar,up har o4,hod⟩,I.lo,?_,I.nd,I.rs,I.us,I.ends,I.nodup,I.names,I.few,I.few2,I.own,?_,I.dar,I.rd⟩
 ·exact I.tup.monoMem fun t ht l _ ⟨ta,tb,nt,h⟩=>⟨ta,tb,nt,up h (o5 t ht)⟩
 ·intro r hr
  have J:=I.roles r hr
  (refine e_A3 (o6 r hr) ?_;intro p1 p2 p3 p4)
  exact ⟨up J.x p1,up J.d p2,up J.l p3,up J.u p4⟩
 ·intro a ha
  (refine e_E (I.there a ha) ?_;intro ob ho)
  exact ⟨ob,up ho ha⟩
theorem Stp.table {own:Addr→Prop} {P:Addr} {o o':Obj} (hm:(P,o)∈news):Stp (fun a=>own a∨a=P) (fun a=>own a∨a=P) news (upd P o' news) where
 keep:=fun p hp h=>mem_upd hp fun e=>h (.inr e)
 new:=fun _ ha=>.inl ha
 more:=fun _ ha=>ha
end
noncomputable def eqS (a b:Str):Bool:=a == b
section
variable {prog:Program} {w:World} {p:Program} {loose:List Str} {mean:ExcName→Option Value} {mg mb:Str→Option Value}
 {dp un:Nat} {gd:Option (List Code)} {cn:Str} {cs:Scope} {a:Addr} {ccd:Value} {cl:List (Str×Addr)} {outer:List Env} {A₀:Around} {base h₀:Heap} {L:Addr} {m:Str→Option Value} {s:Shared} {Q E:Value→Shared→Prop} {news:Led}

theorem mfn_ps {R:RmA} {x:Addr} (hxe:R.x=x) {os:Led} (K:FnOk prog w R.lam os eqS) (k1 k2:Str) (t1 t2:Tok) (hk1:k1.length≤100) (hk2:k2.length≤100) (B:Below A₀ base outer h₀) (F:Fr h₀ L s.heap m) (X:(Kp w.params).In h₀) (N:News h₀ L s.heap news) (T:Top p loose mean mg mb h₀) (hk:cs.kind=.function) (hdp:dp + 3 < recursionLimit) (hun:un + 24 < cLine)
 (hx:(R.x,instObj 929 R.d)∈news) (hd:(R.d,rmD w.params R)∈news) (ho:∀ p∈os,p∈news)
 (ret:∀ h' tk' ,Fr h₀ L h' m→News h₀ L h' news→Q (.bool (k2 == k1)) { s with heap:=h',toks:=tk' })
 : wpAny (model prog w) (ktrTop dp un gd cn cs L a ccd cl outer) (call (.ref 848) [.ref x,.str k1 t1,.str k2 t2,.ref 698]) Q E s:=by
 subst hxe
 (refine call_res ?_;k_extra "kE")
 iterate 7 k_extra "w"
 refine eq_same (by ktr_units) (by k_in) (by k_inst) (by k_is) (by k_is) ?_
 iterate 17 k_extra "w"
 refine meh K k2 k1 t2 t1 hk2 hk1 (by k_asm) (by k_asm) (by k_asm) (by k_asm) (by k_asm) rfl (by ktr_room) (by ktr_units) ho ?_
 intro h5 tk5 F5 N5
 ((try (k_unfold;(try dsimp only)));k_extra "w")
 exact ret _ _ (by k_asm) (by k_asm)
theorem mfn_sp {R:RmA} {os:Led} (K:FnOk prog w R.lam os eqS) (k1 k2:Str) (t1 t2:Tok) (hk1:k1.length≤100) (hk2:k2.length≤100) (B:Below A₀ base outer h₀) (F:Fr h₀ L s.heap m) (X:(Kp w.params).In h₀) (N:News h₀ L s.heap news) (T:Top p loose mean mg mb h₀) (hk:cs.kind=.function) (hdp:dp + 3 < recursionLimit) (hun:un + 24 < cLine)
 (hx:(R.x,instObj 929 R.d)∈news) (hd:(R.d,rmD w.params R)∈news) (ho:∀ p∈os,p∈news)
 (ret:∀ h' tk' ,Fr h₀ L h' m→News h₀ L h' news→Q (.bool (k1 == k2)) { s with heap:=h',toks:=tk' })
 : wpAny (model prog w) (ktrTop dp un gd cn cs L a ccd cl outer) (call (.ref 848) [.ref R.x,.str k1 t1,.str k2 t2,.ref 696]) Q E s:=by
 (refine call_res ?_;k_extra "kE")
 iterate 7 k_extra "w"
 refine eq_other (by ktr_units) (by k_in) (by k_inst) (by k_inst) (by k_is) (by k_is) (by decide) ?_
 iterate 9 k_extra "w"
 refine eq_other (by ktr_units) (by k_in) (by k_inst) (by k_inst) (by k_is) (by k_is) (by decide) ?_
 iterate 17 k_extra "w"
 refine meh K k1 k2 t1 t2 hk1 hk2 (by k_asm) (by k_asm) (by k_asm) (by k_asm) (by k_asm) rfl (by ktr_room) (by ktr_units) ho ?_
 intro h5 tk5 F5 N5
 ((try (k_unfold;(try dsimp only)));k_extra "w")
 exact ret _ _ (by k_asm) (by k_asm)
end
noncomputable def Places:List Str:=["a/x","a/y","b/x","a/*","*"]
theorem places_short {n:Str} (h:n∈Places):n.length≤100:=by
 have:∀ n∈Places,n.length≤100:=by decide +kernel
 exact this n h
abbrev Lk:=Str×Str×Str
noncomputable def pr (l:Lk):Str×Str:=(l.1,l.2.1)
noncomputable def atP (links:List Lk) (p:Str):List (Str×Str):=(links.filter fun l=>l.2.2 == p).map pr
noncomputable def ways (links:List Lk) (cov:Bool) (p:Str):List (Str×Str):=(links.filter fun l=>l.2.2 == p || (cov && covS p l.2.2)).map pr
structure PlS where
 nm:Str
 a:Addr
 k:Nat
 tups:List Addr
 ls:List (Str×Str)
structure DmA where
 (x d al rm lam:Addr)
 lvl:Nat
 (tl t1 t2 t3 t4 t5:Tok)
 fn:Value
 pls:List PlS
 rms:List (Str×RmA)
 os:Led
 own:Addr→Prop
noncomputable abbrev dmDE (P:Params) (D:DmA):List DictEntry:=[⟨PyData.keyHash P "all_links",.str "all_links" D.t1,.ref D.al⟩,⟨PyData.keyHash P "max_hierarchy_level",.str "max_hierarchy_level" D.t2,.int (D.lvl:Int) D.tl⟩,⟨PyData.keyHash P "matching_func",.str "matching_func" D.t3,.ref D.lam⟩,
 ⟨PyData.keyHash P "domain_matching_func",.str "domain_matching_func" D.t4,D.fn⟩,⟨PyData.keyHash P "rm_map",.str "rm_map" D.t5,.ref D.rm⟩]
noncomputable abbrev dmD (P:Params) (D:DmA):Obj:=dictOf (dmDE P D) 5
noncomputable def DmA.base (D:DmA) (a:Addr):Prop:=a=D.x∨a=D.d∨a=D.al∨a=D.rm∨(∃ q∈D.pls,a=q.a∨a∈q.tups)∨(∃ o,(a,o)∈D.os)∨a=742∨a=906
noncomputable def TabIn (P:Addr) (news:Led):Prop:=∃ ps,(P,tabObj ps)∈news∧TriplesOk ps.toList
structure PlIn (news:Led) (q:PlS):Prop where
 a:(q.a,refsO q.tups q.k)∈news
 tup:TupsIn news q.tups q.ls
 nm:q.nm∈Places
 nms:NamesL q.ls
 few:q.ls.length≤20
structure RmOf (prog:Program) (w:World) (news:Led) (lam:Addr) (lvl:Nat) (q:Str×RmA):Prop where
 i:RmIn prog w news q.2
 lam:q.2.lam=lam
 lvl:q.2.lvl=(lvl:Int)
 seq:q.2.seq=q.2.links
 nm:q.1∈Places
noncomputable def ProgOk (prog:Program):Prop:=((prog.main.file:Str) == ("/claim/cut.py":Str))=true∧(prog.main.scope.names.lookup ("super":Str)).isSome=false
structure DmMem (prog:Program) (w:World) (news:Led) (D:DmA):Prop where
 x:(D.x,instObj 1140 D.d)∈news
 d:(D.d,dmD w.params D)∈news
 fn:D.fn=.none∨D.fn=.ref 1177
 al:∃ o,(D.al,o)∈news∧o.IsDictOf (strKind prog w) (D.pls.map fun q=>(q.nm,.ref q.a))
 rm:∃ o,(D.rm,o)∈news∧o.IsDictOf (strKind prog w) (D.rms.map fun q=>(q.1,.ref q.2.x))
 loa:(D.al == sysModules)=false
 lor:(D.rm == sysModules)=false
 dal:D.d≠D.al
 drm:D.d≠D.rm
 alrm:D.al≠D.rm
 pls:∀ q∈D.pls,PlIn news q
 plnd:(D.pls.map (·.nm)).Nodup
 pla:(D.pls.map (·.a)).Nodup
 rms:∀ q∈D.rms,RmOf prog w news D.lam D.lvl q
 rmnd:(D.rms.map (·.1)).Nodup
 apart:D.rms.Pairwise fun p q=>∀ a,p.2.own a→¬ q.2.own a
 off:∀ q∈D.rms,∀ a,D.base a→¬ q.2.own a
 ownb:∀ a,D.base a→D.own a
 ownr:∀ q∈D.rms,∀ a,q.2.own a→D.own a
 there:∀ a,D.own a→∃ o,(a,o)∈news
 os:∀ p∈D.os,p∈news
 osn:∀ p∈D.os,p.1≠D.d∧p.1≠D.al∧p.1≠D.rm∧p.1≠742∧p.1≠906∧∀ q∈D.pls,p.1≠q.a
 t1:TabIn 742 news
 t2:TabIn 906 news
 tn:∀ P,P=742∨P=906→P≠D.x∧P≠D.d∧P≠D.al∧P≠D.rm∧∀ q∈D.pls,P≠q.a∧P ∉ q.tups
 K:FnOk prog w D.lam D.os eqS
 lvl:(1≤D.lvl∧D.lvl≤5)∧ProgOk prog
section
variable {prog:Program} {w:World} {h₀ h:Heap} {L:Addr} {news news':Led} {D:DmA}
theorem PlIn.keep {q:PlS} (I:PlIn news q) (up:∀ p∈news,p.1=q.a∨p.1∈q.tups→p∈news'):PlIn news' q :=
 ⟨up _ I.a (.inl rfl),I.tup.monoMem fun t ht l _ ⟨ta,tb,nt,h⟩=>⟨ta,tb,nt,up _ h (.inr ht)⟩,I.nm,I.nms,I.few⟩
theorem RmOf.keep {lam:Addr} {lvl:Nat} {q:Str×RmA} (I:RmOf prog w news lam lvl q) (up:∀ p∈news,q.2.own p.1→p∈news'):RmOf prog w news' lam lvl q:=⟨I.i.keep up,I.lam,I.lvl,I.seq,I.nm⟩
theorem TabIn.keep {P:Addr} (I:TabIn P news) (up:∀ p∈news,p.1=P→p∈news'):TabIn P news':=let ⟨ps,h,t⟩:=I;⟨ps,up _ h rfl,t⟩
theorem DmMem.keep (M:DmMem prog w news D) (up:∀ p∈news,D.own p.1→p∈news'):DmMem prog w news' D:=by
 (refine e_EA (M.al) ?_;intro oa ha da)
 (refine e_EA (M.rm) ?_;intro or hr dr)
 have bx:D.base D.x:=.inl rfl
 have bd:D.base D.d:=.inr (.inl rfl)
 have ba:D.base D.al:=.inr (.inr (.inl rfl))
 have br:D.base D.rm:=.inr (.inr (.inr (.inl rfl)))
 have bp:∀ q∈D.pls,∀ a,a=q.a∨a∈q.tups→D.base a:=fun q hq a h=>.inr (.inr (.inr (.inr (.inl ⟨q,hq,h⟩))))
 have bo:∀ a o,(a,o)∈D.os→D.base a:=fun a o h=>.inr (.inr (.inr (.inr (.inr (.inl ⟨o,h⟩)))))
 have b1:D.base 742:=.inr (.inr (.inr (.inr (.inr (.inr (.inl rfl))))))
 have b2:D.base 906:=.inr (.inr (.inr (.inr (.inr (.inr (.inr rfl))))))
 have upb:∀ p∈news,D.base p.1→p∈news':=fun p hp h=>up p hp (M.ownb _ h)
 refine ⟨upb _ M.x bx,upb _ M.d bd,M.fn,⟨oa,upb _ ha ba,da⟩,⟨or,upb _ hr br,dr⟩,M.loa,M.lor,M.dal,M.drm,M.alrm,fun q hq=>(M.pls q hq).keep fun p hp h=>upb p hp (bp q hq _ h),M.plnd,M.pla,
  fun q hq=>(M.rms q hq).keep fun p hp h=>up p hp (M.ownr q hq _ h),M.rmnd,M.apart,M.off,M.ownb,M.ownr,fun a ha=>?_,fun p hp=>upb p (M.os p hp) (bo _ _ hp),M.osn,M.t1.keep fun p hp e=>upb p hp (e▸b1),M.t2.keep fun p hp e=>upb p hp (e▸b2),M.tn,M.K,M.lvl⟩
 (refine e_E (M.there a ha) ?_;intro o ho)
 exact ⟨o,up _ ho ha⟩
theorem DmMem.sub (M:DmMem prog w news D) (hs:∀ p∈news,p∈news'):DmMem prog w news' D:=M.keep fun p hp _=>hs p hp
theorem stp_upd {own own':Addr→Prop} {b:Addr} {o:Obj} {l:Led} (hb:own b) (hs:∀ p∈news,p∈l) (hn:∀ a,own' a→own a∨∀ p∈news,p.1≠a) (hm:∀ a,own a→own' a):Stp own own' news (upd b o l) :=
 ⟨fun p hp h=>mem_upd (hs p hp) fun e=>h (e▸hb),hn,hm⟩
noncomputable def DmA.setFn (D:DmA) (v:Value):DmA:={ D with fn:=v }
theorem DmMem.setFn (M:DmMem prog w news D) (N:News h₀ L h news) {v:Value} (hv:v=.none∨v=.ref 1177):DmMem prog w (upd D.d (dmD w.params (D.setFn v)) news) (D.setFn v)∧Stp D.own (D.setFn v).own news (upd D.d (dmD w.params (D.setFn v)) news):=by
 (refine e_EA (M.al) ?_;intro oa ha da)
 (refine e_EA (M.rm) ?_;intro or hr dr)
 have up:∀ {a o},(a,o)∈news→a≠D.d→(a,o)∈upd D.d (dmD w.params (D.setFn v)) news:=fun h hn=>mem_upd h hn
 have upc:∀ {a o},(a,o)∈news→o.cls≠.type "dict"→(a,o)∈upd D.d (dmD w.params (D.setFn v)) news:=fun h hn=>up h (newsNe N h M.d hn).out
 have bd:D.base D.d:=.inr (.inl rfl)
 refine ⟨⟨upc M.x (by nofun),mem_upd_self,hv,⟨oa,up ha (Ne.symm M.dal),da⟩,⟨or,up hr (Ne.symm M.drm),dr⟩,M.loa,M.lor,M.dal,M.drm,M.alrm,fun q hq=>?_,M.plnd,M.pla,fun q hq=>?_,M.rmnd,M.apart,M.off,M.ownb,M.ownr,?_,?_,M.osn,?_,?_,M.tn,M.K,M.lvl⟩,
  stp_upd (M.ownb _ bd) (fun _ h=>h) (fun a h=>.inl h) fun _ h=>h⟩
 ·have J:=M.pls q hq
  exact ⟨upc J.a (by show Value.type "list"≠_;decide),J.tup.mono fun t l ⟨ta,tb,nt,h⟩=>⟨ta,tb,nt,upc h (by show Value.type "tuple"≠_;decide)⟩,J.nm,J.nms,J.few⟩
 ·exact (M.rms q hq).keep fun p hp h=>up hp fun e=>M.off q hq _ bd (e▸h)
 ·intro a ha
  by_cases e:a=D.d
  ·refine rwl (e ..) ?_;exact ⟨_,mem_upd_self⟩
  ·(refine e_E (M.there a ha) ?_;intro o ho)
   exact ⟨o,up ho e⟩
 ·exact fun p hp=>up (M.os p hp) (M.osn p hp).1
 ·exact M.t1.keep fun p hp e=>up hp (e▸(M.tn 742 (.inl rfl)).2.1)
 ·exact M.t2.keep fun p hp e=>up hp (e▸(M.tn 906 (.inr rfl)).2.1)
noncomputable def DmA.reRm (D:DmA) (q:Addr):DmA:={ D with rm:=q,rms:=[],own:=fun a=>D.own a∨a=q }
theorem DmMem.reRm (M:DmMem prog w news D) (N:News h₀ L h news) {q:Addr} (hq:∀ p∈news,p.1≠q) (lo:(q == sysModules)=false):DmMem prog w (upd D.d (dmD w.params (D.reRm q)) ((q,dictOf [] 0)::news)) (D.reRm q)∧Stp D.own (D.reRm q).own news (upd D.d (dmD w.params (D.reRm q)) ((q,dictOf [] 0)::news)):=by
 (refine e_EA (M.al) ?_;intro oa ha da)
 have up:∀ {a o},(a,o)∈news→a≠D.d→(a,o)∈upd D.d (dmD w.params (D.reRm q)) ((q,dictOf [] 0)::news):=fun h hn=>mem_upd (.tail _ h) hn
 have upc:∀ {a o},(a,o)∈news→o.cls≠.type "dict"→(a,o)∈upd D.d (dmD w.params (D.reRm q)) ((q,dictOf [] 0)::news):=fun h hn=>up h (newsNe N h M.d hn).out
 have bd:D.base D.d:=.inr (.inl rfl)
 have hqd:q≠D.d:=fun e=>hq _ M.d e.symm
 have mq:(q,dictOf [] 0)∈upd D.d (dmD w.params (D.reRm q)) ((q,dictOf [] 0)::news):=mem_upd (.head _) hqd
 refine ⟨⟨upc M.x (by nofun),mem_upd_self,M.fn,⟨oa,up ha (Ne.symm M.dal),da⟩,⟨_,mq,dict_nil⟩,M.loa,lo,M.dal,Ne.symm hqd,fun e=>hq _ ha e,fun r hr=>?_,M.plnd,M.pla,fun r hr=>absurd hr List.not_mem_nil,List.nodup_nil,.nil,fun r hr=>absurd hr List.not_mem_nil,?_,fun r hr=>absurd hr List.not_mem_nil,?_,?_,?_,?_,?_,?_,M.K,M.lvl⟩,
  stp_upd (M.ownb _ bd) (fun _ h=>.tail _ h) (fun a h=>h.elim .inl fun e=>.inr (e▸hq)) fun _ h=>.inl h⟩
 ·have J:=M.pls r hr
  exact ⟨upc J.a (by show Value.type "list"≠_;decide),J.tup.mono fun t l ⟨ta,tb,nt,h⟩=>⟨ta,tb,nt,upc h (by show Value.type "tuple"≠_;decide)⟩,J.nm,J.nms,J.few⟩
 ·rintro a (h | h | h | h | h)
  ·exact .inl (M.ownb _ (.inl h))
  ·exact .inl (M.ownb _ (.inr (.inl h)))
  ·exact .inl (M.ownb _ (.inr (.inr (.inl h))))
  ·exact .inr h
  ·exact .inl (M.ownb _ (.inr (.inr (.inr (.inr h)))))
 ·rintro a (ha | rfl)
  ·by_cases e:a=D.d
   ·refine rwl (e ..) ?_;exact ⟨_,mem_upd_self⟩
   ·(refine e_E (M.there a ha) ?_;intro o ho)
    exact ⟨o,up ho e⟩
  ·exact ⟨_,mq⟩
 ·exact fun p hp=>up (M.os p hp) (M.osn p hp).1
 ·exact fun p hp=>let ⟨a,b,_,d⟩:=M.osn p hp;⟨a,b,hq _ (M.os p hp),d⟩
 ·exact M.t1.keep fun p hp e=>up hp (e▸(M.tn 742 (.inl rfl)).2.1)
 ·exact M.t2.keep fun p hp e=>up hp (e▸(M.tn 906 (.inr rfl)).2.1)
 ·intro P hP
  (refine e_A4 (M.tn P hP) ?_;intro a b c _ e)
  refine ⟨a,b,c,?_,e⟩
  rcases hP with rfl | rfl
  ·(refine e_EA (M.t1) ?_;intro ps h _);exact hq _ h
  ·(refine e_EA (M.t2) ?_;intro ps h _);exact hq _ h
noncomputable def DmA.reAl (D:DmA) (q:Addr):DmA:={ D with al:=q,pls:=[],own:=fun a=>D.own a∨a=q }
theorem DmMem.reAl (M:DmMem prog w news D) (N:News h₀ L h news) {q:Addr} (hq:∀ p∈news,p.1≠q) (lo:(q == sysModules)=false):DmMem prog w (upd D.d (dmD w.params (D.reAl q)) ((q,dictOf [] 0)::news)) (D.reAl q)∧Stp D.own (D.reAl q).own news (upd D.d (dmD w.params (D.reAl q)) ((q,dictOf [] 0)::news)):=by
 (refine e_EA (M.rm) ?_;intro or hr dr)
 have up:∀ {a o},(a,o)∈news→a≠D.d→(a,o)∈upd D.d (dmD w.params (D.reAl q)) ((q,dictOf [] 0)::news):=fun h hn=>mem_upd (.tail _ h) hn
 have upc:∀ {a o},(a,o)∈news→o.cls≠.type "dict"→(a,o)∈upd D.d (dmD w.params (D.reAl q)) ((q,dictOf [] 0)::news):=fun h hn=>up h (newsNe N h M.d hn).out
 have bd:D.base D.d:=.inr (.inl rfl)
 have hqd:q≠D.d:=fun e=>hq _ M.d e.symm
 have mq:(q,dictOf [] 0)∈upd D.d (dmD w.params (D.reAl q)) ((q,dictOf [] 0)::news):=mem_upd (.head _) hqd
 have hb:∀ a,(D.reAl q).base a→D.base a∨a=q:=by
  rintro a (h | h | h | h | ⟨_,h,_⟩ | h)
  ·exact .inl (.inl h)
  ·exact .inl (.inr (.inl h))
  ·exact .inr h
  ·exact .inl (.inr (.inr (.inr (.inl h))))
  ·exact absurd h List.not_mem_nil
  ·exact .inl (.inr (.inr (.inr (.inr (.inr h)))))
 refine ⟨⟨upc M.x (by nofun),mem_upd_self,M.fn,⟨_,mq,dict_nil⟩,⟨or,up hr (Ne.symm M.drm),dr⟩,lo,M.lor,Ne.symm hqd,M.drm,fun e=>hq _ hr e.symm,fun r hr=>absurd hr List.not_mem_nil,List.nodup_nil,List.nodup_nil,fun r hr=>?_,M.rmnd,M.apart,fun r hr a h h'=>?_,fun a h=>(hb a h).imp (M.ownb a) id,fun r hr a h=>.inl (M.ownr r hr a h),?_,?_,?_,?_,?_,?_,M.K,M.lvl⟩,
  stp_upd (M.ownb _ bd) (fun _ h=>.tail _ h) (fun a h=>h.elim .inl fun e=>.inr (e▸hq)) fun _ h=>.inl h⟩
 ·exact (M.rms r hr).keep fun p hp h=>up hp fun e=>M.off r hr _ bd (e▸h)
 ·rcases hb a h with h | rfl
  ·exact M.off r hr a h h'
  ·(refine e_E ((M.rms r hr).i.there _ h') ?_;intro o ho)
   exact hq _ ho rfl
 ·rintro a (ha | rfl)
  ·by_cases e:a=D.d
   ·refine rwl (e ..) ?_;exact ⟨_,mem_upd_self⟩
   ·(refine e_E (M.there a ha) ?_;intro o ho)
    exact ⟨o,up ho e⟩
  ·exact ⟨_,mq⟩
 ·exact fun p hp=>up (M.os p hp) (M.osn p hp).1
 ·exact fun p hp=>let ⟨a,_,c,d,e,_⟩:=M.osn p hp;⟨a,hq _ (M.os p hp),c,d,e,fun r hr=>absurd hr List.not_mem_nil⟩
 ·exact M.t1.keep fun p hp e=>up hp (e▸(M.tn 742 (.inl rfl)).2.1)
 ·exact M.t2.keep fun p hp e=>up hp (e▸(M.tn 906 (.inr rfl)).2.1)
 ·intro P hP
  (refine e_A4 (M.tn P hP) ?_;intro a b _ d _)
  refine ⟨a,b,?_,d,fun r hr=>absurd hr List.not_mem_nil⟩
  rcases hP with rfl | rfl
  ·(refine e_EA (M.t1) ?_;intro ps h _);exact hq _ h
  ·(refine e_EA (M.t2) ?_;intro ps h _);exact hq _ h
end
theorem pairwise_ne {α:Type} {R:α→α→Prop} (sym:∀ x y,R x y→R y x):∀ {l:List α},l.Pairwise R→∀ x∈l,∀ y∈l,x≠y→R x y
 | [],_,_,h,_,_,_=>nomatch h
 | z::l,hp,x,hx,y,hy,hn=>by
  (refine e_A (List.pairwise_cons.mp hp) ?_;intro h1 h2)
  rcases List.mem_cons.mp hx with ex | hx1
  ·rcases List.mem_cons.mp hy with ey | hy1
   ·exact absurd (ex.trans ey.symm) hn
   ·exact ex▸h1 y hy1
  ·rcases List.mem_cons.mp hy with ey | hy1
   ·exact sym _ _ (ey▸h1 x hx1)
   ·exact pairwise_ne sym h2 x hx1 y hy1 hn
section
variable {prog:Program} {w:World} {h₀ h:Heap} {L:Addr} {news news':Led} {D:DmA}
theorem base_x:D.base D.x:=.inl rfl
theorem base_d:D.base D.d:=.inr (.inl rfl)
theorem base_al:D.base D.al:=.inr (.inr (.inl rfl))
theorem base_rm:D.base D.rm:=.inr (.inr (.inr (.inl rfl)))
theorem base_pl {q:PlS} (hq:q∈D.pls) {a:Addr} (h:a=q.a∨a∈q.tups):D.base a:=.inr (.inr (.inr (.inr (.inl ⟨q,hq,h⟩))))
theorem base_os {p:Addr×Obj} (h:p∈D.os):D.base p.1:=.inr (.inr (.inr (.inr (.inr (.inl ⟨p.2,h⟩)))))
theorem base_t1:D.base 742:=.inr (.inr (.inr (.inr (.inr (.inr (.inl rfl))))))
theorem base_t2:D.base 906:=.inr (.inr (.inr (.inr (.inr (.inr (.inr rfl))))))
noncomputable def DmA.setPl (D:DmA) (r:PlS):DmA:={ D with pls:=D.pls.map fun q=>if q.nm=r.nm then r else q,own:=fun a=>D.own a∨a∈r.tups }
theorem DmMem.setPl (M:DmMem prog w news D) {news1:Led} (N:News h₀ L h news1) (hs:∀ p∈news,p∈news1) {r r':PlS} (hr:r∈D.pls) (en:r'.nm=r.nm) (ea:r'.a=r.a) (ht:TupsIn news1 r'.tups r'.ls) (hn:NamesL r'.ls) (hf:r'.ls.length≤20) (hnew:∀ t∈r'.tups,t∈r.tups∨∀ p∈news,p.1≠t) :
  DmMem prog w (upd r.a (refsO r'.tups r'.k) news1) (D.setPl r')∧Stp D.own (D.setPl r').own news (upd r.a (refsO r'.tups r'.k) news1):=by
 (refine e_EA (M.al) ?_;intro oa ha da)
 (refine e_EA (M.rm) ?_;intro orr hrm dr)
 have J:=M.pls r hr
 have up:∀ {a o},(a,o)∈news→a≠r.a→(a,o)∈upd r.a (refsO r'.tups r'.k) news1:=fun h hn=>mem_upd (hs _ h) hn
 have upc1:∀ {a o},(a,o)∈news1→o.cls≠.type "list"→(a,o)∈upd r.a (refsO r'.tups r'.k) news1:=fun h hn=>mem_upd h (newsNe N h (hs _ J.a) hn).out
 have upc:∀ {a o},(a,o)∈news→o.cls≠.type "list"→(a,o)∈upd r.a (refsO r'.tups r'.k) news1:=fun h hn=>upc1 (hs _ h) hn
 have mem:∀ q,q∈(D.setPl r').pls→q=r'∨(q∈D.pls∧q.nm≠r.nm):=fun q hq=>by
  (refine e_EA (List.mem_map.mp hq) ?_;intro p hp e9_2;subst e9_2)
  by_cases e:p.nm=r'.nm
  ·refine rwl (if_pos e ..) ?_;exact .inl rfl
  ·refine rwl (if_neg e ..) ?_;exact .inr ⟨hp,fun q=>e (q.trans en.symm)⟩
 have nmM:(D.setPl r').pls.map (fun q=>(q.nm,Value.ref q.a))=D.pls.map fun q=>(q.nm,Value.ref q.a):=by
  show (D.pls.map _).map _=_
  refine rwl (List.map_map ..) ?_
  refine List.map_congr_left fun p hp=>?_
  show ((if p.nm=r'.nm then r' else p).nm,Value.ref (if p.nm=r'.nm then r' else p).a)=_
  by_cases e:p.nm=r'.nm
  ·refine rwl (if_pos e ..) ?_
   obtain rfl:=inj_of_nodup_map M.plnd hp hr (e.trans en)
   (refine rwl (en ..) ?_;refine rwl (ea ..) ?_;with_reducible rfl)
  ·(refine rwl (if_neg e ..) ?_;with_reducible rfl)
 have nm1:(D.setPl r').pls.map (·.nm)=D.pls.map (·.nm):=by
  have:=congrArg (List.map Prod.fst) nmM
  rwa [List.map_map,List.map_map] at this
 have nm2:(D.setPl r').pls.map (fun q=>Value.ref q.a)=D.pls.map fun q=>Value.ref q.a:=by
  have:=congrArg (List.map Prod.snd) nmM
  rwa [List.map_map,List.map_map] at this
 have hb:∀ a,(D.setPl r').base a→D.base a∨(a∈r'.tups∧∀ p∈news,p.1≠a):=by
  rintro a (h | h | h | h | ⟨q,h,h'⟩ | h)
  ·exact .inl (.inl h)
  ·exact .inl (.inr (.inl h))
  ·exact .inl (.inr (.inr (.inl h)))
  ·exact .inl (.inr (.inr (.inr (.inl h))))
  ·rcases mem q h with rfl | ⟨h,_⟩
   ·rcases h' with rfl | h'
    ·refine rwl (ea ..) ?_;exact .inl (base_pl hr (.inl rfl))
    ·rcases hnew a h' with e | e
     ·exact .inl (base_pl hr (.inr e))
     ·exact .inr ⟨h',e⟩
   ·exact .inl (base_pl h h')
  ·exact .inl (.inr (.inr (.inr (.inr (.inr h)))))
 have bra:D.base r.a:=base_pl hr (.inl rfl)
 refine ⟨⟨upc M.x (by nofun),upc M.d (by show Value.type "dict"≠_;decide),M.fn,⟨oa,upc ha (by refine rwl (dict_cls da ..) ?_;decide),by refine rwl (nmM ..) ?_;exact da⟩,⟨orr,upc hrm (by refine rwl (dict_cls dr ..) ?_;decide),dr⟩,M.loa,M.lor,M.dal,M.drm,M.alrm,fun q hq=>?_,by refine rwl (nm1 ..) ?_;exact M.plnd,?_,
  fun q hq=>(M.rms q hq).keep fun p hp h=>up hp fun e=>M.off q hq _ bra (e▸h),M.rmnd,M.apart,fun q hq a h h'=>?_,fun a h=>?_,fun q hq a h=>.inl (M.ownr q hq a h),?_,?_,?_,?_,?_,?_,M.K,M.lvl⟩,
  stp_upd (M.ownb _ bra) hs (fun a h=>h.elim .inl fun h=>(hnew a h).imp (fun e=>M.ownb _ (base_pl hr (.inr e))) id) fun _ h=>.inl h⟩
 ·rcases mem q hq with rfl | ⟨hq,hne⟩
  ·refine ⟨by refine rwl (ea ..) ?_;exact mem_upd_self,ht.mono fun t l ⟨ta,tb,nt,h⟩=>⟨ta,tb,nt,upc1 h (by show Value.type "tuple"≠_;decide)⟩,by refine rwl (en ..) ?_;exact J.nm,hn,hf⟩
  ·have Jq:=M.pls q hq
   exact ⟨up Jq.a fun e=>hne (by (refine rwl (inj_of_nodup_map M.pla hq hr e ..) ?_;with_reducible rfl)),Jq.tup.mono fun t l ⟨ta,tb,nt,h⟩=>⟨ta,tb,nt,upc h (by show Value.type "tuple"≠_;decide)⟩,Jq.nm,Jq.nms,Jq.few⟩
 ·have:((D.setPl r').pls.map fun q=>Value.ref q.a).Nodup:=by
   refine rwl (nm2 ..) ?_
   have:=M.pla
   unfold List.Nodup at this ⊢
   rw [List.pairwise_map] at this ⊢
   exact this.imp fun h e=>h (Value.ref.inj e)
  unfold List.Nodup at this ⊢
  rw [List.pairwise_map] at this ⊢
  exact this.imp fun h e=>h (by (refine rwl (e ..) ?_;with_reducible rfl))
 ·rcases hb a h with h | ⟨_,h⟩
  ·exact M.off q hq a h h'
  ·(refine e_E ((M.rms q hq).i.there _ h') ?_;intro o ho)
   exact h _ ho rfl
 ·rcases h with h | h | h | h | ⟨q,h,h'⟩ | h
  ·exact .inl (M.ownb _ (.inl h))
  ·exact .inl (M.ownb _ (.inr (.inl h)))
  ·exact .inl (M.ownb _ (.inr (.inr (.inl h))))
  ·exact .inl (M.ownb _ (.inr (.inr (.inr (.inl h)))))
  ·rcases mem q h with rfl | ⟨h,_⟩
   ·rcases h' with rfl | h'
    ·refine rwl (ea ..) ?_;exact .inl (M.ownb _ bra)
    ·exact .inr h'
   ·exact .inl (M.ownb _ (base_pl h h'))
  ·exact .inl (M.ownb _ (.inr (.inr (.inr (.inr (.inr h))))))
 ·rintro a (ha | ha)
  ·by_cases e:a=r.a
   ·refine rwl (e ..) ?_;exact ⟨_,mem_upd_self⟩
   ·(refine e_E (M.there a ha) ?_;intro o ho)
    exact ⟨o,up ho e⟩
  ·(refine e_EAE3 (ht.left ha) ?_;intro l _ ta tb nt h)
   exact ⟨_,upc1 h (by show Value.type "tuple"≠_;decide)⟩
 ·exact fun p hp=>up (M.os p hp) ((M.osn p hp).2.2.2.2.2 r hr)
 ·intro p hp
  (refine e_A5 (M.osn p hp) ?_;intro a b c d e f)
  refine ⟨a,b,c,d,e,fun q hq=>?_⟩
  rcases mem q hq with rfl | ⟨hq,_⟩
  ·refine rwl (ea ..) ?_;exact f r hr
  ·exact f q hq
 ·exact M.t1.keep fun p hp e=>up hp (e▸((M.tn 742 (.inl rfl)).2.2.2.2 r hr).1)
 ·exact M.t2.keep fun p hp e=>up hp (e▸((M.tn 906 (.inr rfl)).2.2.2.2 r hr).1)
 ·intro P hP
  (refine e_A4 (M.tn P hP) ?_;intro a b c d e)
  refine ⟨a,b,c,d,fun q hq=>?_⟩
  rcases mem q hq with rfl | ⟨hq,_⟩
  ·refine ⟨by refine rwl (ea ..) ?_;exact (e r hr).1,fun h=>?_⟩
   rcases hnew P h with h | h
   ·exact (e r hr).2 h
   ·rcases hP with rfl | rfl
    ·(refine e_EA (M.t1) ?_;intro ps h' _);exact h _ h' rfl
    ·(refine e_EA (M.t2) ?_;intro ps h' _);exact h _ h' rfl
  ·exact e q hq
noncomputable def DmA.newPl (D:DmA) (nm:Str) (q:Addr) (k:Nat):DmA:={ D with pls:=D.pls++[⟨nm,q,k,[],[]⟩],own:=fun a=>D.own a∨a=q }
theorem DmMem.newPl (M:DmMem prog w news D) (N:News h₀ L h news) {nm:Str} (hnm:nm∈Places) (hno:nm ∉ D.pls.map (·.nm)) {q:Addr} {k:Nat} (hq:∀ p∈news,p.1≠q) {o':Obj} (ho':o'.IsDictOf (strKind prog w) (stored (D.pls.map fun q=>(q.nm,Value.ref q.a)) nm (.ref q))) :
  DmMem prog w (upd D.al o' ((q,refsO [] k)::news)) (D.newPl nm q k)∧Stp D.own (D.newPl nm q k).own news (upd D.al o' ((q,refsO [] k)::news)):=by
 (refine e_EA (M.al) ?_;intro oa ha da)
 (refine e_EA (M.rm) ?_;intro orr hrm dr)
 have up:∀ {a o},(a,o)∈news→a≠D.al→(a,o)∈upd D.al o' ((q,refsO [] k)::news):=fun h hn=>mem_upd (.tail _ h) hn
 have upc:∀ {a o},(a,o)∈news→o.cls≠.type "dict"→(a,o)∈upd D.al o' ((q,refsO [] k)::news):=fun h hn=>up h (newsNe N h ha (by refine rwl (dict_cls da ..) ?_;exact hn)).out
 have hqa:q≠D.al:=fun e=>hq _ ha e.symm
 have mq:(q,refsO [] k)∈upd D.al o' ((q,refsO [] k)::news):=mem_upd (.head _) hqa
 have mem:∀ r,r∈(D.newPl nm q k).pls→r=⟨nm,q,k,[],[]⟩∨r∈D.pls:=fun r hr=>by
  rcases List.mem_append.mp hr with hr | hr
  ·exact .inr hr
  ·exact .inl (List.mem_singleton.mp hr)
 have hb:∀ a,(D.newPl nm q k).base a→D.base a∨a=q:=by
  rintro a (h | h | h | h | ⟨r,h,h'⟩ | h)
  ·exact .inl (.inl h)
  ·exact .inl (.inr (.inl h))
  ·exact .inl (.inr (.inr (.inl h)))
  ·exact .inl (.inr (.inr (.inr (.inl h))))
  ·rcases mem r h with rfl | h
   ·rcases h' with rfl | h'
    ·exact .inr rfl
    ·exact absurd h' List.not_mem_nil
   ·exact .inl (base_pl h h')
  ·exact .inl (.inr (.inr (.inr (.inr (.inr h)))))
 refine ⟨⟨upc M.x (by nofun),up M.d M.dal,M.fn,⟨o',mem_upd_self,?_⟩,⟨orr,up hrm (Ne.symm M.alrm),dr⟩,M.loa,M.lor,M.dal,M.drm,M.alrm,fun r hr=>?_,?_,?_,
  fun r hr=>(M.rms r hr).keep fun p hp h=>up hp fun e=>M.off r hr _ base_al (e▸h),M.rmnd,M.apart,fun r hr a h h'=>?_,fun a h=>(hb a h).imp (M.ownb a) id,fun r hr a h=>.inl (M.ownr r hr a h),?_,?_,?_,?_,?_,?_,M.K,M.lvl⟩,
  stp_upd (M.ownb _ base_al) (fun _ h=>.tail _ h) (fun a h=>h.elim .inl fun e=>.inr (e▸hq)) fun _ h=>.inl h⟩
 ·rw [stored_new (mf_in hno)] at ho'
  simpa [DmA.newPl,List.map_append] using ho'
 ·rcases mem r hr with rfl | hr
  ·exact ⟨mq,.nil,hnm,fun l hl=>absurd hl List.not_mem_nil,Nat.zero_le _⟩
  ·have J:=M.pls r hr
   exact ⟨upc J.a (by show Value.type "list"≠_;decide),J.tup.mono fun t l ⟨ta,tb,nt,h⟩=>⟨ta,tb,nt,upc h (by show Value.type "tuple"≠_;decide)⟩,J.nm,J.nms,J.few⟩
 ·show ((D.pls++[_]).map _).Nodup
  (refine rwl (List.map_append ..) ?_;refine rwl (propext (List.nodup_append ..)) ?_)
  refine ⟨M.plnd,by simp,fun x hx y hy e=>?_⟩
  rw [List.map_singleton,List.mem_singleton] at hy
  subst e;subst hy
  exact hno hx
 ·show ((D.pls++[_]).map _).Nodup
  (refine rwl (List.map_append ..) ?_;refine rwl (propext (List.nodup_append ..)) ?_)
  refine ⟨M.pla,by simp,fun x hx y hy e=>?_⟩
  rw [List.map_singleton,List.mem_singleton] at hy
  (refine e_EA (List.mem_map.mp hx) ?_;intro r hr e9_2;subst e9_2)
  exact hq _ (M.pls r hr).a (e.trans hy)
 ·rcases hb a h with h | rfl
  ·exact M.off r hr a h h'
  ·(refine e_E ((M.rms r hr).i.there _ h') ?_;intro o ho)
   exact hq _ ho rfl
 ·rintro a (ha' | rfl)
  ·by_cases e:a=D.al
   ·refine rwl (e ..) ?_;exact ⟨_,mem_upd_self⟩
   ·(refine e_E (M.there a ha') ?_;intro o ho)
    exact ⟨o,up ho e⟩
  ·exact ⟨_,mq⟩
 ·exact fun p hp=>up (M.os p hp) (M.osn p hp).2.1
 ·intro p hp
  (refine e_A5 (M.osn p hp) ?_;intro a b c d e f)
  refine ⟨a,b,c,d,e,fun r hr=>?_⟩
  rcases mem r hr with rfl | hr
  ·exact hq _ (M.os p hp)
  ·exact f r hr
 ·exact M.t1.keep fun p hp e=>up hp (e▸(M.tn 742 (.inl rfl)).2.2.1)
 ·exact M.t2.keep fun p hp e=>up hp (e▸(M.tn 906 (.inr rfl)).2.2.1)
 ·intro P hP
  (refine e_A4 (M.tn P hP) ?_;intro a b c d e)
  refine ⟨a,b,c,d,fun r hr=>?_⟩
  rcases mem r hr with rfl | hr
  ·refine ⟨?_,List.not_mem_nil⟩
   rcases hP with rfl | rfl
   ·(refine e_EA (M.t1) ?_;intro ps h' _);exact hq _ h'
   ·(refine e_EA (M.t2) ?_;intro ps h' _);exact hq _ h'
  ·exact e r hr
noncomputable def DmA.newRm (D:DmA) (nm:Str) (R:RmA):DmA:={ D with rms:=D.rms++[(nm,R)],own:=fun a=>D.own a∨R.own a }
theorem DmMem.newRm {news0:Led} (M0:DmMem prog w news0 D) (hs:∀ p∈news0,p∈news) (N:News h₀ L h news) {nm:Str} {R:RmA} (hR:RmOf prog w news D.lam D.lvl (nm,R)) (hno:nm ∉ D.rms.map (·.1)) (hdis:∀ a,R.own a→∀ p∈news0,p.1≠a)
  {o':Obj} (ho':o'.IsDictOf (strKind prog w) (stored (D.rms.map fun q=>(q.1,Value.ref q.2.x)) nm (.ref R.x))) :
  DmMem prog w (upd D.rm o' news) (D.newRm nm R)∧Stp D.own (D.newRm nm R).own news0 (upd D.rm o' news):=by
 have M:=M0.sub hs
 have hdD:∀ a,R.own a→¬ D.own a:=fun a h h'=>by
  (refine e_E (M0.there a h') ?_;intro o ho)
  exact hdis a h _ ho rfl
 (refine e_EA (M.al) ?_;intro oa ha da)
 (refine e_EA (M.rm) ?_;intro orr hrm dr)
 have up:∀ {a o},(a,o)∈news→a≠D.rm→(a,o)∈upd D.rm o' news:=fun h hn=>mem_upd h hn
 have upc:∀ {a o},(a,o)∈news→o.cls≠.type "dict"→(a,o)∈upd D.rm o' news:=fun h hn=>up h (newsNe N h hrm (by refine rwl (dict_cls dr ..) ?_;exact hn)).out
 have mem:∀ r,r∈(D.newRm nm R).rms→r∈D.rms∨r=(nm,R):=fun r hr=>by
  rcases List.mem_append.mp hr with hr | hr
  ·exact .inl hr
  ·exact .inr (List.mem_singleton.mp hr)
 refine ⟨⟨upc M.x (by nofun),up M.d M.drm,M.fn,⟨oa,up ha M.alrm,da⟩,⟨o',mem_upd_self,?_⟩,M.loa,M.lor,M.dal,M.drm,M.alrm,fun r hr=>?_,M.plnd,M.pla,fun r hr=>?_,?_,?_,fun r hr a h h'=>?_,fun a h=>.inl (M.ownb a h),fun r hr a h=>?_,?_,?_,M.osn,?_,?_,M.tn,M.K,M.lvl⟩,
  stp_upd (M.ownb _ base_rm) hs (fun a h=>h.elim .inl fun h=>.inr (hdis a h)) fun _ h=>.inl h⟩
 ·rw [stored_new (mf_in hno)] at ho'
  simpa [DmA.newRm,List.map_append] using ho'
 ·have J:=M.pls r hr
  exact ⟨upc J.a (by show Value.type "list"≠_;decide),J.tup.mono fun t l ⟨ta,tb,nt,h⟩=>⟨ta,tb,nt,upc h (by show Value.type "tuple"≠_;decide)⟩,J.nm,J.nms,J.few⟩
 ·rcases mem r hr with hr | rfl
  ·exact (M.rms r hr).keep fun p hp h=>up hp fun e=>M.off r hr _ base_rm (e▸h)
  ·exact hR.keep fun p hp h=>up hp fun e=>hdD _ (e▸h) (M.ownb _ base_rm)
 ·show ((D.rms++[_]).map _).Nodup
  (refine rwl (List.map_append ..) ?_;refine rwl (propext (List.nodup_append ..)) ?_)
  refine ⟨M.rmnd,by simp,fun x hx y hy e=>?_⟩
  rw [List.map_singleton,List.mem_singleton] at hy
  subst e;subst hy
  exact hno hx
 ·show (D.rms++[_]).Pairwise _
  refine rwl (propext (List.pairwise_append ..)) ?_
  refine ⟨M.apart,by simp,fun r hr r' hr' a h h'=>?_⟩
  rw [List.mem_singleton.mp hr'] at h'
  exact hdD a h' (M.ownr r hr a h)
 ·rcases mem r hr with hr | rfl
  ·exact M.off r hr a h h'
  ·exact hdD a h' (M.ownb a h)
 ·rcases mem r hr with hr | rfl
  ·exact .inl (M.ownr r hr a h)
  ·exact .inr h
 ·rintro a (ha' | ha')
  ·by_cases e:a=D.rm
   ·refine rwl (e ..) ?_;exact ⟨_,mem_upd_self⟩
   ·(refine e_E (M.there a ha') ?_;intro o ho)
    exact ⟨o,up ho e⟩
  ·(refine e_E (hR.i.there a ha') ?_;intro o ho)
   exact ⟨o,up ho fun e=>hdD _ (e▸ha') (M.ownb _ base_rm)⟩
 ·exact fun p hp=>up (M.os p hp) (M.osn p hp).2.2.1
 ·exact M.t1.keep fun p hp e=>up hp (e▸(M.tn 742 (.inl rfl)).2.2.2.1)
 ·exact M.t2.keep fun p hp e=>up hp (e▸(M.tn 906 (.inr rfl)).2.2.2.1)
noncomputable def DmA.setRm (D:DmA) (nm:Str) (R:RmA):DmA:={ D with rms:=D.rms.map fun p=>if p.1=nm then (p.1,R) else p,own:=fun a=>D.own a∨R.own a }
theorem DmMem.setRm (M:DmMem prog w news D) {q:Str×RmA} (hq:q∈D.rms) {R:RmA} (S:Stp (fun a=>q.2.own a∨(a=742∨a=906)) (fun a=>R.own a∨(a=742∨a=906)) news news') (hR:RmOf prog w news' D.lam D.lvl (q.1,R)) (hx:R.x=q.2.x) (h1:¬ R.own 742) (h2:¬ R.own 906) (t1:TabIn 742 news') (t2:TabIn 906 news') :
  DmMem prog w news' (D.setRm q.1 R)∧Stp D.own (D.setRm q.1 R).own news news':=by
 (refine e_EA (M.al) ?_;intro oa ha da)
 (refine e_EA (M.rm) ?_;intro orr hrm dr)
 have T1:=M.tn 742 (.inl rfl)
 have T2:=M.tn 906 (.inr rfl)
 have up:∀ {a o},(a,o)∈news→¬ q.2.own a→742≠a→906≠a→(a,o)∈news':=fun h h1 h2 h3=>S.keep _ h fun e=>e.elim h1 fun e=>e.elim (fun e=>h2 e.symm) fun e=>h3 e.symm
 have fresh:∀ a,R.own a→q.2.own a∨∀ p∈news,p.1≠a:=fun a h=>by
  rcases S.new a (.inl h) with (e | rfl | rfl) | e
  ·exact .inl e
  ·exact absurd h h1
  ·exact absurd h h2
  ·exact .inr e
 have ap:∀ r∈D.rms,r.1≠q.1→∀ a,r.2.own a→¬ q.2.own a:=fun r hr hn a h h'=>by
  have P:=M.apart
  have:∀ x∈D.rms,∀ y∈D.rms,x≠y→(∀ a,x.2.own a→¬ y.2.own a):=by
   intro x hx y hy hxy
   have sym:∀ {x y:Str×RmA},(∀ a,x.2.own a→¬ y.2.own a)→∀ a,y.2.own a→¬ x.2.own a:=fun h a h1 h2=>h a h2 h1
   exact pairwise_ne (R:=fun x y:Str×RmA=>∀ a,x.2.own a→¬ y.2.own a) (fun _ _ h=>sym h) P x hx y hy hxy
  exact this r hr q hq (fun e=>hn (by (refine rwl (e ..) ?_;with_reducible rfl))) a h h'
 have mem:∀ r,r∈(D.setRm q.1 R).rms→r=(q.1,R)∨(r∈D.rms∧r.1≠q.1):=fun r hr=>by
  (refine e_EA (List.mem_map.mp hr) ?_;intro p hp e9_2;subst e9_2)
  by_cases e:p.1=q.1
  ·(refine rwl (if_pos e ..) ?_;refine rwl (e ..) ?_);exact .inl rfl
  ·refine rwl (if_neg e ..) ?_;exact .inr ⟨hp,e⟩
 have nmM:(D.setRm q.1 R).rms.map (fun q=>(q.1,Value.ref q.2.x))=D.rms.map fun q=>(q.1,Value.ref q.2.x):=by
  show (D.rms.map _).map _=_
  refine rwl (List.map_map ..) ?_
  refine List.map_congr_left fun p hp=>?_
  show ((if p.1=q.1 then (p.1,R) else p).1,Value.ref (if p.1=q.1 then (p.1,R) else p).2.x)=_
  by_cases e:p.1=q.1
  ·refine rwl (if_pos e ..) ?_
   obtain rfl:=inj_of_nodup_map M.rmnd hp hq e
   show (p.1,Value.ref R.x)=_
   (refine rwl (hx ..) ?_;with_reducible rfl)
  ·(refine rwl (if_neg e ..) ?_;with_reducible rfl)
 have nm1:(D.setRm q.1 R).rms.map (·.1)=D.rms.map (·.1):=by
  have:=congrArg (List.map Prod.fst) nmM
  rwa [List.map_map,List.map_map] at this
 have hT:∀ a,D.base a→a=742∨a=906∨(742≠a∧906≠a):=fun a _=>by
  by_cases e:a=742
  ·exact .inl e
  ·by_cases e':a=906
   ·exact .inr (.inl e')
   ·exact .inr (.inr ⟨Ne.symm e,Ne.symm e'⟩)
 refine ⟨⟨up M.x (M.off q hq _ base_x) T1.1 T2.1,up M.d (M.off q hq _ base_d) T1.2.1 T2.2.1,M.fn,⟨oa,up ha (M.off q hq _ base_al) T1.2.2.1 T2.2.2.1,da⟩,⟨orr,up hrm (M.off q hq _ base_rm) T1.2.2.2.1 T2.2.2.2.1,by refine rwl (nmM ..) ?_;exact dr⟩,M.loa,M.lor,M.dal,M.drm,M.alrm,fun r hr=>?_,M.plnd,M.pla,fun r hr=>?_,by refine rwl (nm1 ..) ?_;exact M.rmnd,?_,fun r hr a h h'=>?_,fun a h=>.inl (M.ownb a h),fun r hr a h=>?_,?_,fun p hp=>?_,M.osn,t1,t2,M.tn,M.K,M.lvl⟩,⟨?_,?_,fun a h=>.inl h⟩⟩
 ·refine (M.pls r hr).keep fun p hp h=>?_
  refine up hp (M.off q hq _ (base_pl hr h)) ?_ ?_
  ·rcases h with h | h
   ·refine rwl (h ..) ?_;exact (T1.2.2.2.2 r hr).1
   ·exact fun e=>(T1.2.2.2.2 r hr).2 (e▸h)
  ·rcases h with h | h
   ·refine rwl (h ..) ?_;exact (T2.2.2.2.2 r hr).1
   ·exact fun e=>(T2.2.2.2.2 r hr).2 (e▸h)
 ·rcases mem r hr with rfl | ⟨hr,hn⟩
  ·exact hR
  ·exact (M.rms r hr).keep fun p hp h=>up hp (ap r hr hn _ h) (fun e=>M.off r hr _ base_t1 (e▸h)) fun e=>M.off r hr _ base_t2 (e▸h)
 ·show (D.rms.map _).Pairwise _
  refine rwl (propext (List.pairwise_map ..)) ?_
  have nd:D.rms.Pairwise fun p r=>p.1≠r.1:=by
   have:=M.rmnd
   unfold List.Nodup at this
   rwa [List.pairwise_map] at this
  refine (nd.and M.apart).imp_of_mem ?_
  intro p r hp hr e8_4 a h h';(refine e_A (e8_4) ?_;clear e8_4;intro hn hap)
  by_cases e:p.1=q.1
  ·rw [if_pos e] at h
   have e':r.1≠q.1:=fun x=>hn (e.trans x.symm)
   rw [if_neg e'] at h'
   rcases fresh a h with h | h
   ·exact ap r hr e' a h' h
   ·(refine e_E ((M.rms r hr).i.there _ h') ?_;intro o ho)
    exact h _ ho rfl
  ·rw [if_neg e] at h
   by_cases e':r.1=q.1
   ·rw [if_pos e'] at h'
    rcases fresh a h' with h' | h'
    ·exact ap p hp e a h h'
    ·(refine e_E ((M.rms p hp).i.there _ h) ?_;intro o ho)
     exact h' _ ho rfl
   ·rw [if_neg e'] at h'
    exact hap a h h'
 ·rcases mem r hr with rfl | ⟨hr,hn⟩
  ·rcases fresh a h' with h' | h'
   ·exact M.off q hq a h h'
   ·(refine e_E (M.there a (M.ownb a h)) ?_;intro o ho)
    exact h' _ ho rfl
  ·exact M.off r hr a h h'
 ·rcases mem r hr with rfl | ⟨hr,hn⟩
  ·exact .inr h
  ·exact .inl (M.ownr r hr a h)
 ·rintro a (h | h)
  ·by_cases e:q.2.own a
   ·by_cases e':R.own a
    ·exact hR.i.there a e'
    ·rcases S.more a (.inl e) with x | rfl | rfl
     ·exact absurd x e'
     ·(refine e_EA (t1) ?_;clear t1;intro ps x _);exact ⟨_,x⟩
     ·(refine e_EA (t2) ?_;clear t2;intro ps x _);exact ⟨_,x⟩
   ·by_cases e1:a=742
    ·(refine e_EA (t1) ?_;clear t1;intro ps x _);exact ⟨_,e1▸x⟩
    ·by_cases e2:a=906
     ·(refine e_EA (t2) ?_;clear t2;intro ps x _);exact ⟨_,e2▸x⟩
     ·(refine e_E (M.there a h) ?_;intro o ho)
      exact ⟨o,up ho e (Ne.symm e1) (Ne.symm e2)⟩
  ·exact hR.i.there a h
 ·(refine e_A5 (M.osn p hp) ?_;intro _ _ _ d e _)
  exact up (M.os p hp) (M.off q hq _ (base_os hp)) (Ne.symm d) (Ne.symm e)
 ·exact fun p hp h=>S.keep p hp fun e=>h (e.elim (M.ownr q hq _) fun e=>e.elim (fun e=>e▸M.ownb _ base_t1) fun e=>e▸M.ownb _ base_t2)
 ·rintro a (h | h)
  ·exact .inl h
  ·exact (fresh a h).imp (M.ownr q hq a) id
end
section
variable {M:Model} {A:Around} {E:Value→Shared→Prop} {s':Shared} {base g g₂ h:Heap} {outer:List Env} {L e:Addr} {m:Str→Option Value} {Q:Unit→Shared→Prop} {news:Led}
theorem leave_onX {env:Env} {cls:Value} (K:Below A base outer g) (F:Fr g L g₂ m) (hf:env.frame=some L) (R:RaisedSN base g₂ (env::outer) e cls news s'.heap) (hsm:g₂.UpToSlots s'.heap)
  (hQ:∀ h',RaisedSN base g outer e cls news h'→g.UpToSlots h'→Q () { s' with heap:=h' }) :
  wpAny M (A.deeper env) (leaving env (.ref e)) Q E s':=by
 (refine e_E2A3 (R) ?_;clear R;intro B a0 hB hBG hl hfl)
 exact wpAny_leaves_onW (Around.frames_deeper K.stack) hf hfl fun h' x1 x2 =>
  hQ h' ⟨B,a0,hB,fun b o q nm=>hBG b o (F.keep b o q) (fun hm=>by
   rw [List.filterMap_cons_some (b:=L) (f:=fun x:Env=>x.frame) hf] at hm
   rcases List.mem_cons.mp hm with z | z
   ·rw [z,kts_self F] at q
    cases q
   ·exact nm z),fun q hq=>⟨(hl q hq).1,kts_none F.keep (hl q hq).2.1,(hl q hq).2.2⟩,x1⟩ ((Heap.UpToSlots.of_keeps F.keep).trans (hsm.trans x2))
theorem RaisedSN.sub {base G:Heap} {l:List Env} {e:Addr} {cls:Value} {n1 n2:Led} {h:Heap} (R:RaisedSN base G l e cls n1 h) (hs:∀ p∈n2,p∈n1):RaisedSN base G l e cls n2 h :=
 let ⟨B,a0,a,b,c,d⟩:=R;⟨B,a0,a,b,fun q hq=>c q (hs q hq),d⟩
end
section
variable {prog:Program} {w:World} {p:Program} {loose:List Str} {mean:ExcName→Option Value} {mg mb:Str→Option Value}
 {dp un:Nat} {gd:Option (List Code)} {cn:Str} {cs:Scope} {a:Addr} {ccd:Value} {cl:List (Str×Addr)} {outer:List Env} {A₀:Around} {base h₀:Heap} {L:Addr} {m:Str→Option Value} {s:Shared} {Q E:Value→Shared→Prop} {news:Led}

theorem get_dom1 (x:Addr) (dm:Str) (t:Tok) (B:Below A₀ base outer h₀) (F:Fr h₀ L s.heap m) (X:(Kp w.params).In h₀) (N:News h₀ L s.heap news) (T:Top p loose mean mg mb h₀) (hk:cs.kind=.function) (hdp:dp + 2 < recursionLimit) (hun:un + 16 < cLine)
 (ret:∀ h' tk',Fr h₀ L h' m→News h₀ L h' news→Q (.str dm t) { s with heap:=h',toks:=tk' })
 : codeAny (model prog w) (ktrTop dp un gd cn cs L a ccd cl outer) (.call (.ref 968) ⟨[.ref x,.str dm t],[]⟩) (kRes Q E) s:=by
 k_extra "kR"
 iterate 41 k_extra "w"
 exact ret _ _ (by k_asm) (news_sub (by k_asm) fun p hp=>.tail _ hp)
theorem get_dom2 (x:Addr) (d1 d2:Str) (t1 t2:Tok) (B:Below A₀ base outer h₀) (F:Fr h₀ L s.heap m) (X:(Kp w.params).In h₀) (N:News h₀ L s.heap news) (T:Top p loose mean mg mb h₀) (hk:cs.kind=.function) (hdp:dp + 2 < recursionLimit) (hun:un + 16 < cLine)
 (exc:∀ g h' tk' e,Fr h₀ L g m→RaisedSN base g (envX cn cs L a ccd cl::outer) e (.type "RuntimeError") news h'→g.UpToSlots h'→E (.ref e) { s with heap:=h',toks:=tk' })
 : codeAny (model prog w) (ktrTop dp un gd cn cs L a ccd cl outer) (.call (.ref 968) ⟨[.ref x,.str d1 t1,.str d2 t2],[]⟩) (kRes Q E) s:=by
 have lvMark:True:=trivial
 k_extra "kR"
 k_steps
 exact exc _ _ _ _ FG' (RaisedSN.sub S' fun p hp=>.tail _ hp) U'
end
section
variable {M:Model} {A:Around} {E:Value→Shared→Prop} {s:Shared} {K:Frag} {env:Env} {pos:Pos} {first:List Value} {Q:Value→Shared→Prop}
theorem meth_star {o:Expr} {name:Str} {apos:Pos} {args:List Expr} (h:wpAny M A (eval o env) (fun ov s₁=>wpAny M A (getAttr ov name true) (fun f s₂=>wpAny M A (callWith pos f [] (backTo pos (starEach args env)) []) Q E s₂) E s₁) E s)
  (he:eval (.Call (.Attribute o name apos) args [] pos) env=(do
   let ov ← eval o env
   standAt apos.atName
   methodCall o name apos pos env ov (args.length + 0) (backTo pos (starEach args env)) []):=by rfl)
  (hf:methodCallForm (args.length + 0) (backTo pos (starEach args env)) []=false:=by rfl) :
  wpAny M A (eval (.Call (.Attribute o name apos) args [] pos) env) Q E s:=by
 refine rwl (he ..) ?_
 unfold methodCall
 refine rwl (hf ..) ?_
 refine wpAny_bind (wpAny_mono h (fun ov s₁ h₁=>wpAny_bind (wpAny_standAt (wpAny_bind (wpAny_holding ?_)))) fun _ _ x=>x)
 unfold calleeOf
 simp -iota only [Bool.false_eq_true,if_false]
 refine wpAny_bind (wpAny_mono h₁ (fun f s₂ h₂=>wpAny_pure ?_) fun _ _ x=>x)
 unfold methodCallPos
 simp -iota only [Bool.not_false,Bool.true_or,if_true]
 exact wpAny_bind (wpAny_pure h₂)
theorem callWith_SM {h₀:Heap} {L:Addr} {news:Led} {q g:Addr} {self:Value} {e:Expr} {p:Pos} (_N:News h₀ L s.heap news) (_q:(q,methodObj (.ref g) self)∈news) (hf:fnIn K g=true)
  (h:wpAny M A (eval e env) (fun v s₁=>StarOf M A E v (fun vs s₂=>MethP K q g self s₂.heap∧wpAny M A (call (.ref q) (first++vs)) Q E s₂) s₁) E s)
  (he:starEach [.Starred e p] env=[(true,eval e env)]:=by rfl) :
  wpAny M A (callWith pos (.ref q) first (backTo pos (starEach [.Starred e p] env)) []) Q E s:=by
 refine rwl (he ..) ?_
 exact ks_call rfl (keeps_M hf) (ks_lone h)
theorem callWith_SM2 {h₀:Heap} {L:Addr} {news:Led} {q g:Addr} {self:Value} {e:Expr} {rest:List Expr} (_N:News h₀ L s.heap news) (_q:(q,methodObj (.ref g) self)∈news) (hf:fnIn K g=true)
  (h:wpAny M A (spliced (backTo pos (starEach (e::rest) env))) (fun vs s₁=>MethP K q g self s₁.heap∧wpAny M A (call (.ref q) (first++vs)) Q E s₁) E s)
  (he:starEach (e::rest) env=(false,eval e env)::starEach rest env:=by rfl) (hst:(backTo pos (starEach rest env)).any (·.1)=true:=by rfl) :
  wpAny M A (callWith pos (.ref q) first (backTo pos (starEach (e::rest) env)) []) Q E s:=by
 rw [he] at h ⊢
 exact ks_call (by show (false || (backTo pos (starEach rest env)).any (·.1))=true;refine rwl (hst ..) ?_;rfl) (keeps_M hf) (evalArgs_plain h)
end
theorem DmMem.fewp {prog:Program} {w:World} {news:Led} {D:DmA} (M:DmMem prog w news D):D.pls.length≤5:=by
 have:=nodup_le M.plnd (m:=Places) fun x hx=>by
  (refine e_EA (List.mem_map.mp hx) ?_;intro r hr e9_2;subst e9_2)
  exact (M.pls r hr).nm
 rw [List.length_map] at this
 exact this
theorem DmMem.fewr {prog:Program} {w:World} {news:Led} {D:DmA} (M:DmMem prog w news D):D.rms.length≤5:=by
 have:=nodup_le M.rmnd (m:=Places) fun x hx=>by
  (refine e_EA (List.mem_map.mp hx) ?_;intro r hr e9_2;subst e9_2)
  exact (M.rms r hr).nm
 rw [List.length_map] at this
 exact this
section
variable {prog:Program} {w:World} {p:Program} {loose:List Str} {mean:ExcName→Option Value} {mg mb:Str→Option Value}
 {dp un:Nat} {gd:Option (List Code)} {cn:Str} {cs:Scope} {a:Addr} {ccd:Value} {cl:List (Str×Addr)} {outer:List Env} {A₀:Around} {base h₀:Heap} {L:Addr} {m:Str→Option Value} {s:Shared} {Q E:Value→Shared→Prop} {news:Led}

theorem get_links1 {D:DmA} {x:Addr} (hxe:D.x=x) (dm:Str) (t:Tok) (hdm:dm∈Places) (B:Below A₀ base outer h₀) (F:Fr h₀ L s.heap m) (X:(Kp w.params).In h₀) (N:News h₀ L s.heap news) (T:Top p loose mean mg mb h₀) (hk:cs.kind=.function) (hdp:dp + 4 < recursionLimit) (hun:un + 32 < cLine) (M:DmMem prog w news D)
 (ret:∀ h' tk' news' D' r,Fr h₀ L h' m→News h₀ L h' news'→DmMem prog w news' D'→Stp D.own D'.own news news'→(D'=D∨∃ q k,dm ∉ D.pls.map (·.nm)∧D'=D.newPl dm q k)→r∈D'.pls→r.nm=dm→Q (.ref r.a) { s with heap:=h',toks:=tk' })
 : codeAny (model prog w) (ktrTop dp un gd cn cs L a ccd cl outer) (.call (.ref 975) ⟨[.ref x,.str dm t],[]⟩) (kRes Q E) s:=by
 subst hxe
 have hx:=M.x
 have hd:=M.d
 (refine e_EA (M.al) ?_;intro oal hal dal)
 have loa:=M.loa
 k_extra "kR"
 iterate 2 k_extra "w"
 k_extra "kS1"
 refine get_dom1 D.x dm t (by k_asm) (by k_asm) (by k_asm) (by k_asm) (by k_asm) rfl (by ktr_room) (by ktr_units) ?_
 intro h5 tk5 F5 N5
 try dsimp only
 by_cases hin:dm∈D.pls.map (·.nm)
 ·(refine e_EA (List.mem_map.mp hin) ?_;intro r hr e9_2;subst e9_2)
  have hv:valueAt (D.pls.map fun q=>(q.nm,Value.ref q.a)) r.nm=some (.ref r.a):=valueAt_mem (mf_nd M.plnd) (List.mem_map_of_mem (f:=fun q:PlS=>(q.nm,Value.ref q.a)) hr)
  iterate 8 k_extra "w"
  refine kdg_notin (knd:=strKind _ _) (by k_asm) (by k_mem) dal loa (strKind_is _ _ _ _) true (by refine rwl (hv ..) ?_;rfl) ?_
  iterate 10 k_extra "w"
  refine kdt_tail (knd:=PySem.strKind _ _) (by k_asm) (by k_mem) dal ?_
  refine kdt_getItem (knd:=PySem.strKind _ _) (by k_asm) (by k_mem) dal (strKind_is _ _ _ _) hv ?_
  k_extra "w"
  exact ret _ _ news D r (by k_asm) (news_sub (by k_asm) fun p hp=>by k_mem) M (.refl _ _) (.inl rfl) hr rfl
 ·iterate 8 k_extra "w"
  refine kdg_notin (knd:=strKind _ _) (by k_asm) (by k_mem) dal loa (strKind_is _ _ _ _) false (by refine rwl (valueAt_none (mf_in hin) ..) ?_;rfl) ?_
  iterate 11 k_extra "w"
  rename_i q7 h7 F7 N7 l7
  have lq:∀ p∈news,p.1 < q7:=allLt_mem l7.2.2
  have fq:∀ p∈news,p.1≠q7:=fun p hp=>Nat.ne_of_lt (lq p hp)
  refine sd_set (by k_asm) (by k_asm) (by k_mem) dal (by refine rwl (List.length_map ..) ?_;have:=M.fewp;k_extra "ar") ?_
  intro h8 o8 F8 N8 hd8
  (refine e_A (M.newPl N hdm hin (k:=0) fq hd8) ?_;intro M8 S8)
  have hxa:NeA D.x D.al:=newsNe N hx hal (by refine rwl (dict_cls dal ..) ?_;nofun)
  have hda:NeA D.d D.al:=⟨M.dal⟩
  iterate 8 k_extra "w"
  refine kdt_tail (knd:=PySem.strKind _ _) (by k_asm) (by k_mem) hd8 ?_
  refine kdt_getItem (knd:=PySem.strKind _ _) (v:=.ref q7) (by k_asm) (by k_mem) hd8 (strKind_is _ _ _ _) ?_ ?_
  ·refine rwl (stored_new (mf_in hin) ..) ?_
   refine valueAt_mem ?_ (List.mem_append_right _ (.head _))
   refine rwr (stored_new (mf_in hin) ..) ?_
   (refine e_E2A4 (hd8) ?_;clear hd8;intro _ _ _ _ _ _ hnd)
   exact hnd
  k_extra "w"
  exact ret _ _ _ (D.newPl dm q7 0) ⟨dm,q7,0,[],[]⟩ (by k_asm) (news_sub (by k_asm) (sub_upd (sub_cons (sub_skip (sub_skip sub_rfl))))) M8 S8 (.inr ⟨q7,0,hin,rfl⟩) (List.mem_append_right _ (.head _)) rfl
end
section
variable {prog:Program} {w:World} {A₀ A:Around} {s:Shared} {K:Frag} {L:Addr} {h₀ base:Heap} {m mg mb:Str→Option Value} {news:Led} {p:Program} {loose:List Str} {mean:ExcName→Option Value} {env:Env} {outer:List Env} {R:Result→Shared→Prop}
 {name qual:Str} {params:Arguments} {body:List Stmt} {scope:Scope} {dV kV doc pm cdv ct oc:Value} {an od:Option Addr} {osl:Array (Option Value)} {f cc:Addr}
theorem frame_at {E:Value→Shared→Prop} {cl:List (Str×Addr)} {binds:List (Str×Value)} (B:Below A₀ base outer h₀) (F:Fr h₀ L s.heap m) (N:News h₀ L s.heap news) (hlim:h₀.NoLimit) (hA:A.frames=some (env::outer)) (hf:env.frame=some L) (hke:env.scope.kind=.function)
  (hloc:∀ y∈binds,scope.names.lookup y.1=some .local)
  (h:∀ g L' h₁,Fr h₀ L g m→Fr g L' h₁ (fun y=>binds.reverse.lookup y)→News g L' h₁ news→Below A base (env::outer) g→h₀.StaysIn g →
   _root_.PySem.wpAt (model prog w) (A.deeper (envX qual scope L' f cdv cl)) (.func body (envX qual scope L' f cdv cl)) (execs body (envX qual scope L' f cdv cl))
    (fun fl s'=>LeaveK h₀ L m g R (match fl with | .ret v=>v | _=>.none) s')
    (fun e s'=>wpAny (model prog w) (A.deeper (envX qual scope L' f cdv cl)) (leaving (envX qual scope L' f cdv cl) e) (fun _ s''=>R (.error e) s'') (fun e' s''=>R (.error e') s'') s')
    { s with heap:=h₁,toks:=s.toks + binds.length })
  (hcell:∀ x∈scope.names,x.2≠.cell) (hk:scope.kind=.function) :
  wpAny (model prog w) A.in1 (newFunctionEnv scope mainGlobals cl binds (qual++".<locals>.") (some f) cdv none builtinsNs) (fun env' s₂=>s₂.heap.NoLimit∧codeAny (model prog w) A (.func body env') R s₂) E s:=by
 (refine e_A3 (groundX (R:=R) B F N hA hf hke) ?_;intro FG BG st lv)
 refine wpAny_newFunctionEnv hcell hloc (fun h₁ hns hsb=>⟨(hlim.keeps F.keep).fresh _ hsb,ks_codeAny_funcAt ?_⟩) hk
 have hk₁:∀ b o,s.heap.get? b=some o→h₁.get? b=some o:=fun b o e=>hsb.extBut b o (Nat.ne_of_lt (Heap.lt_size e)) (Heap.get?_push_of_some _ e)
 exact ks_wpAt_mono (h _ s.heap.objs.size h₁ FG ⟨hns,fun b o e=>hk₁ b o (of_hideAll _ e),Nat.le_of_eq (hideAll_size _ _)⟩
  (fun p hp=>⟨hk₁ _ _ (N p hp).1,Nat.ne_of_lt (Heap.lt_size (N p hp).1),hideAll_none _ (List.mem_map_of_mem hp)⟩) BG st) (fun fl s' hl=>lv _ _ hl) fun _ _ y=>y
theorem sup_rest {args:Args} {vs:List Value} {g₁:Addr→Option (List (Str×Value))} {binds:Addr→List (Str×Value)}
  (B:Below A₀ base outer h₀) (F:Fr h₀ L s.heap m) (X₀:K.In h₀) (N:News h₀ L s.heap news) (T:Top p loose mean mg mb h₀) (hA:A.frames=some (env::outer)) (hf:env.frame=some L) (hke:env.scope.kind=.function)
  (ho:K.lookup f=some ⟨oc,od,.func (ksFn name qual params body scope dV kV doc pm an cdv ct cc),osl⟩) (hcd:codeIn K cdv qual=true) (hroom:A.depth < recursionLimit)
  (hv:args.pos.drop (params.posonlyargs.length + params.args.length)=vs)
  (hp:peek1 K ⟨prog,w.params⟩ (bindArgs (ksFn name qual params body scope dV kV doc pm an cdv ct cc) args)=some (({ cls:=.type "tuple",data:=.seq vs.toArray }:Obj),g₁))
  (hg:∀ D,g₁ D=some (binds D)) (hloc:∀ D,∀ y∈binds D,scope.names.lookup y.1=some .local)
  (h:∀ D g L' h₁,(∀ p∈news,p.1 < D)→Fr h₀ L g m→Fr g L' h₁ (fun y=>(binds D).reverse.lookup y)→News g L' h₁ ((D,({ cls:=.type "tuple",data:=.seq vs.toArray }:Obj))::news)→Below A base (env::outer) g→K.In g→Top p loose mean mg mb g →
   _root_.PySem.wpAt (model prog w) (A.deeper (ksEnv qual scope L' f cdv cc)) (.func body (ksEnv qual scope L' f cdv cc)) (execs body (ksEnv qual scope L' f cdv cc))
    (fun fl s'=>LeaveK h₀ L m g R (match fl with | .ret v=>v | _=>.none) s')
    (fun e s'=>wpAny (model prog w) (A.deeper (ksEnv qual scope L' f cdv cc)) (leaving (ksEnv qual scope L' f cdv cc) e) (fun _ s''=>R (.error e) s'') (fun e' s''=>R (.error e') s'') s')
    { s with heap:=h₁,toks:=s.toks + (binds D).length })
  (hco:scope.isCoroutine=false) (hgen:scope.isGenerator=false) (hk:scope.kind=.function)
  (hcell:∀ x∈scope.names,x.2≠.cell):codeAny (model prog w) A (.call (.ref f) args) R s:=by
 have _:=hv
 refine codeAny_call_function (fd:=ksFn name qual params body scope dV kV doc pm an cdv ct cc) (body:=body) hroom ((X₀.keeps F.keep) _ _ ho) rfl hco hgen rfl (codeRec_of (X₀.keeps F.keep) hcd) ?_
 refine wp_of_peek1 (o:=({ cls:=.type "tuple",data:=.seq vs.toArray }:Obj)) F N (X₀.keeps F.keep) rfl (r:=binds) (fun D h' F' N' l=>?_) _ g₁ hp hg
 exact frame_at (cl:=[("__class__",cc)]) (s:={ s with heap:=h' }) B F' N' T.nolimit hA hf hke (hloc D) (fun g L' h₁ FG FL NG BG st=>h D g L' h₁ l FG FL NG BG (X₀.keeps st) (T.keeps st)) hcell hk
end
section
variable {prog:Program} {w:World} {M:Model} {A:Around} {c:Code} {E:Value→Shared→Prop} {s:Shared} {env:Env}
theorem at_star {o:Expr} {name:Str} {apos pos:Pos} {args:List Expr} {Q:Value→Shared→Prop}
  (h:_root_.PySem.wpAt M A c (attributeBase o name env (eval o env)) (fun ov s₁=>wpAny M A (getAttr ov name true) (fun f s₂=>wpAny M A (callWith pos f [] (backTo pos (starEach args env)) []) Q E s₂) E s₁) E s)
  (he:eval (.Call (.Attribute o name apos) args [] pos) env=(do
   let ov ← attributeBase o name env (eval o env)
   standAt apos.atName
   methodCall o name apos pos env ov (args.length + 0) (backTo pos (starEach args env)) []):=by rfl)
  (hf:methodCallForm (args.length + 0) (backTo pos (starEach args env)) []=false:=by rfl) :
  _root_.PySem.wpAt M A c (eval (.Call (.Attribute o name apos) args [] pos) env) Q E s:=by
 refine rwl (he ..) ?_
 unfold methodCall
 refine rwl (hf ..) ?_
 refine _root_.PySem.wpAt_bind (ks_wpAt_mono h (fun ov s₁ h₁=>_root_.PySem.wpAt_of_wpAny (wpAny_bind (wpAny_standAt (wpAny_bind (wpAny_holding ?_))))) fun _ _ x=>x)
 unfold calleeOf
 simp -iota only [Bool.false_eq_true,if_false]
 refine wpAny_bind (wpAny_mono h₁ (fun f s₂ h₂=>wpAny_pure ?_) fun _ _ x=>x)
 unfold methodCallPos
 simp -iota only [Bool.not_false,Bool.true_or,if_true]
 exact wpAny_bind (wpAny_pure h₂)
theorem sup_attr0 {so D x C f:Addr} {of:Obj} {l₀ l:List Value} {K:Frag} {name:Str} {h:Heap} {g:Array GenState} {d:Drawn} {t:Nat} {os:OsState} {Q:Value→Shared→Prop}
  (hso:h.get? so=some { cls:=.type "super",dict:=none,data:=.fields #[.ref D,.ref x,.ref C],slots:=#[] }) (hno:Looks (model prog w) h (opaqueClassAbove (.ref C)) none)
  (hC:Looks (model prog w) h (mroOf (.ref C)) l₀) (hl:(l₀.dropWhile (· != .ref D)).drop 1=l) (X:K.In h)
  (hf:alongIn K name l=some (some (.ref f))) (hfo:h.get? f=some of) (hfc:of.cls=.type "function") (hxC:x≠C) (hn:(name == ("__class__":Str))=false)
  (hq:Q (.ref h.objs.size) ⟨h.push { cls:=.type "method",data:=.fields #[.ref f,.ref x] },g,d,t + 1,os⟩) :
  wpAny (model prog w) A (getAttr (.ref so) name true) Q E ⟨h,g,d,t,os⟩:=by
 have hlk:=PySem.F.ks_slot_super_ga.lookup
 have hT:∀ t',(⟨h,g,d,t',os⟩:Shared).TypeIs (.ref so) "super":=fun _=>⟨_,hso,rfl⟩
 unfold getAttr getAttrBy
 refine wpAny_bind (wpAny_mkText (wpAny_holding (wpAny_bind (wpAny_typeOf (hT _) (wpAny_bind (wpAny_of_eq hlk ?_))))))
 show wpAny _ _ (getAttrByItsOwn (.ref so) (.str name t) (.type "super") (.builtin "super.__getattribute__") true true) _ _ _
 unfold getAttrByItsOwn hookBefore callGetattribute boundAndCalled
 refine wpAny_bind (wpAny_of_eq (show (if onTheHeap (.type "super") then typeLookup (.type "super") "__getattr__" else pure none)=pure none from rfl) ?_)
 refine wpAny_bind (wpAny_attempt (wpAny_holding ?_))
 show wpAny _ _ (bindSpecial (.builtin "super.__getattribute__") (.ref so) >>= _) _ _ _
 refine wpAny_bind (wpAny_of_eq (PySem.F.ks_slot_super_ga.bind _) ?_)
 refine wpAny_mono (Q:=fun v s'=>v=.ref h.objs.size∧s'=⟨h.push { cls:=.type "method",data:=.fields #[.ref f,.ref x] },g,d,t + 1,os⟩) (E:=fun _ _=>False)
  (wpAny_call_entry PySem.F.ks_slot_super_ga (hT _) PySem.F.ks_entry_super_ga (ks_wpAny_super_ga hso hno hC hl X hf hfo hfc hxC hn ⟨_,rfl,rfl,rfl⟩) (PySem.F.ks_gaArgs_super _ _)) (fun v s' hv=>?_) fun _ _ z=>z.elim
 (refine e_A (hv) ?_;clear hv;intro e9_0 e9_1;subst e9_0;subst e9_1)
 exact wpAny_pure hq
end
section
variable {prog:Program} {w:World} {A:Around} {E:Value→Shared→Prop} {s:Shared} {h₀:Heap} {L:Addr} {m:Str→Option Value} {news:Led} {K:Frag} {x C D f2 so:Addr} {ox:Obj} {odx:Option Obj}
theorem sup_attr {name:Str} {Q:Value→Shared→Prop} (F:Fr h₀ L s.heap m) (X₀:K.In h₀) (N:News h₀ L s.heap news) (hso:(so,ks_superObj D x C)∈news) (I:InstAt s.heap x ox C odx) (ho:nsIn K cStatics "thirdparty.any"=some none)
  (hm:ks_superIn K C D name=some (some (.ref f2))) (ht:typeIn K (.ref f2)=some (.type "function")) (hn:(name == ("__class__":Str))=false)
  (h:∀ q h',Fr h₀ L h' m→News h₀ L h' ((q,methodObj (.ref f2) (.ref x))::news)→(∀ p∈news,p.1 < q)→Q (.ref q) { s with heap:=h',toks:=s.toks + 1 }):wpAny (model prog w) A (getAttr (.ref so) name true) Q E s:=by
 have X:K.In s.heap:=X₀.keeps F.keep
 obtain ⟨hh,g,d,t,os⟩:=s
 cases hc:clsIn K C with
 | none=>unfold ks_superIn at hm;replace hm:=(hc ..)▸hm;cases hm
 | some cd =>
  unfold ks_superIn at hm
  replace hm:=(hc ..)▸hm
  obtain ⟨of,hof,hofc⟩:∃ of,hh.get? f2=some of∧of.cls=.type "function":=by
   have ht':(K.lookup f2).map (·.cls)=some (.type "function"):=ht
   cases z:K.lookup f2 with
   | none=>replace ht':=(z ..)▸ht';cases ht'
   | some of=>replace ht':=(z ..)▸ht';exact ⟨of,X _ _ z,Option.some.inj ht'⟩
  refine sup_attr0 (N _ hso).1 (looks_opaque X ho) (l₀:=cd.mro) ?_ rfl X hm hof hofc (ks_ne X I hc) hn ?_
  ·exact fun A Q E s k q=>wpAny_bind ((looks_clsIn X hc) A _ E s k (wpAny_pure q))
  ·(refine e_A2 (ks_newsPush (s:=⟨hh,g,d,t,os⟩) (o:=methodObj (.ref f2) (.ref x)) F N rfl (Heap.get?_push_at rfl rfl) (fun b o e=>Heap.get?_push_of_some _ e)) ?_;intro F' N' l')
   exact h _ _ F' N' l'
end
section
variable {prog:Program} {w:World} {p:Program} {loose:List Str} {mean:ExcName→Option Value} {mg mb:Str→Option Value}
 {dp un:Nat} {gd:Option (List Code)} {cn:Str} {cs:Scope} {a:Addr} {ccd:Value} {cl:List (Str×Addr)} {outer:List Env} {A₀:Around} {base h₀:Heap} {L:Addr} {m:Str→Option Value} {s:Shared} {Q E:Value→Shared→Prop} {news:Led}

theorem get_links2 {D:DmA} {x:Addr} (hxe:D.x=x) (d1 d2:Str) (t1 t2:Tok) (B:Below A₀ base outer h₀) (F:Fr h₀ L s.heap m) (X:(Kp w.params).In h₀) (N:News h₀ L s.heap news) (T:Top p loose mean mg mb h₀) (hk:cs.kind=.function) (hdp:dp + 4 < recursionLimit) (hun:un + 32 < cLine) (M:DmMem prog w news D)
 (exc:∀ g h' tk' e,Fr h₀ L g m→RaisedSN base g (envX cn cs L a ccd cl::outer) e (.type "RuntimeError") news h'→g.UpToSlots h'→E (.ref e) { s with heap:=h',toks:=tk' })
 : codeAny (model prog w) (ktrTop dp un gd cn cs L a ccd cl outer) (.call (.ref 975) ⟨[.ref x,.str d1 t1,.str d2 t2],[]⟩) (kRes Q E) s:=by
 subst hxe
 have hx:=M.x
 have hd:=M.d
 k_extra "kR"
 iterate 2 k_extra "w"
 k_extra "kS1"
 refine get_dom2 D.x d1 d2 t1 t2 (by k_asm) (by k_asm) (by k_asm) (by k_asm) (by k_asm) rfl (by ktr_room) (by ktr_units) ?_
 intro g2 h2 tk2 e2 F2 R2 U2
 try dsimp only
 (try (k_unfold;(try dsimp only)))
 refine leave_onX (by k_asm) F2 rfl R2 U2 ?_
 intro h3 R3 U3
 exact exc _ _ _ _ FG' (RaisedSN.sub R3 fun p hp=>by k_mem) U3
theorem get_rm2 {D:DmA} {x:Addr} (hxe:D.x=x) (d1 d2:Str) (t1 t2:Tok) (B:Below A₀ base outer h₀) (F:Fr h₀ L s.heap m) (X:(Kp w.params).In h₀) (N:News h₀ L s.heap news) (T:Top p loose mean mg mb h₀) (hk:cs.kind=.function) (hdp:dp + 4 < recursionLimit) (hun:un + 32 < cLine) (M:DmMem prog w news D)
 (exc:∀ g h' tk' e,Fr h₀ L g m→RaisedSN base g (envX cn cs L a ccd cl::outer) e (.type "RuntimeError") news h'→g.UpToSlots h'→E (.ref e) { s with heap:=h',toks:=tk' })
 : codeAny (model prog w) (ktrTop dp un gd cn cs L a ccd cl outer) (.call (.ref 1068) ⟨[.ref x,.str d1 t1,.str d2 t2],[]⟩) (kRes Q E) s:=by
 subst hxe
 have hx:=M.x
 have hd:=M.d
 k_extra "kT"
 refine ks_wpAt_execs_cons (_root_.PySem.wpAt_of_wpAny ?_)
 refine (let A1:=_;let qk:=_;let ek:=_;(?_:wpAny _ A1 _ qk ek _))
 k_extra "w"
 k_extra "kS1"
 refine get_dom2 D.x d1 d2 t1 t2 (by k_asm) (by k_asm) (by k_asm) (by k_asm) (by k_asm) rfl (by ktr_room) (by ktr_units) ?_
 intro g2 h2 tk2 e2 F2 R2 U2
 try dsimp only
 refine leave_onX (by k_asm) F2 rfl R2 U2 ?_
 intro h3 R3 U3
 exact exc _ _ _ _ FG' (RaisedSN.sub R3 fun p hp=>by k_mem) U3
theorem dmb_has2 {D:DmA} {x:Addr} (hxe:D.x=x) (n1:Str) (sn1:Tok) (n2:Str) (sn2:Tok) (d1 d2:Str) (t1 t2:Tok) (B:Below A₀ base outer h₀) (F:Fr h₀ L s.heap m) (X:(Kp w.params).In h₀) (N:News h₀ L s.heap news) (T:Top p loose mean mg mb h₀) (hk:cs.kind=.function) (hdp:dp + 6 < recursionLimit) (hun:un + 48 < cLine) (M:DmMem prog w news D)
 (exc:∀ g h' tk' e,Fr h₀ L g m→RaisedSN base g (envX cn cs L a ccd cl::outer) e (.type "RuntimeError") news h'→g.UpToSlots h'→E (.ref e) { s with heap:=h',toks:=tk' })
 : codeAny (model prog w) (ktrTop dp un gd cn cs L a ccd cl outer) (.call (.ref 1010) ⟨[.ref x,.str n1 sn1,.str n2 sn2,.str d1 t1,.str d2 t2],[]⟩) (kRes Q E) s:=by
 subst hxe
 have hx:=M.x
 have hd:=M.d
 k_extra "kR"
 iterate 2 k_extra "w"
 k_extra "kS1"
 refine get_rm2 (D:=D) rfl d1 d2 t1 t2 (by k_asm) (by k_asm) (by k_asm) (by k_asm) (by k_asm) rfl (by ktr_room) (by ktr_units) (M.sub fun p hp=>by k_mem) ?_
 intro g2 h2 tk2 e2 F2 R2 U2
 try dsimp only
 (try (k_unfold;(try dsimp only)))
 refine leave_onX (by k_asm) F2 rfl R2 U2 ?_
 intro h3 R3 U3
 exact exc _ _ _ _ FG' (RaisedSN.sub R3 fun p hp=>by k_mem) U3
theorem dmb_add2 {D:DmA} {x:Addr} (hxe:D.x=x) (n1:Str) (sn1:Tok) (n2:Str) (sn2:Tok) (d1 d2:Str) (t1 t2:Tok) (B:Below A₀ base outer h₀) (F:Fr h₀ L s.heap m) (X:(Kp w.params).In h₀) (N:News h₀ L s.heap news) (T:Top p loose mean mg mb h₀) (hk:cs.kind=.function) (hdp:dp + 6 < recursionLimit) (hun:un + 48 < cLine) (M:DmMem prog w news D)
 (exc:∀ g h' tk' e,Fr h₀ L g m→RaisedSN base g (envX cn cs L a ccd cl::outer) e (.type "RuntimeError") news h'→g.UpToSlots h'→E (.ref e) { s with heap:=h',toks:=tk' })
 : codeAny (model prog w) (ktrTop dp un gd cn cs L a ccd cl outer) (.call (.ref 996) ⟨[.ref x,.str n1 sn1,.str n2 sn2,.str d1 t1,.str d2 t2],[]⟩) (kRes Q E) s:=by
 subst hxe
 have hx:=M.x
 have hd:=M.d
 k_extra "kR"
 iterate 2 k_extra "w"
 k_extra "kS1"
 refine get_links2 (D:=D) rfl d1 d2 t1 t2 (by k_asm) (by k_asm) (by k_asm) (by k_asm) (by k_asm) rfl (by ktr_room) (by ktr_units) (M.sub fun p hp=>by k_mem) ?_
 intro g2 h2 tk2 e2 F2 R2 U2
 try dsimp only
 (try (k_unfold;(try dsimp only)))
 refine leave_onX (by k_asm) F2 rfl R2 U2 ?_
 intro h3 R3 U3
 exact exc _ _ _ _ FG' (RaisedSN.sub R3 fun p hp=>by k_mem) U3
theorem dmb_del2 {D:DmA} {x:Addr} (hxe:D.x=x) (n1:Str) (sn1:Tok) (n2:Str) (sn2:Tok) (d1 d2:Str) (t1 t2:Tok) (B:Below A₀ base outer h₀) (F:Fr h₀ L s.heap m) (X:(Kp w.params).In h₀) (N:News h₀ L s.heap news) (T:Top p loose mean mg mb h₀) (hk:cs.kind=.function) (hdp:dp + 6 < recursionLimit) (hun:un + 48 < cLine) (M:DmMem prog w news D)
 (exc:∀ g h' tk' e,Fr h₀ L g m→RaisedSN base g (envX cn cs L a ccd cl::outer) e (.type "RuntimeError") news h'→g.UpToSlots h'→E (.ref e) { s with heap:=h',toks:=tk' })
 : codeAny (model prog w) (ktrTop dp un gd cn cs L a ccd cl outer) (.call (.ref 1003) ⟨[.ref x,.str n1 sn1,.str n2 sn2,.str d1 t1,.str d2 t2],[]⟩) (kRes Q E) s:=by
 subst hxe
 have hx:=M.x
 have hd:=M.d
 k_extra "kR"
 iterate 2 k_extra "w"
 k_extra "kS1"
 refine get_links2 (D:=D) rfl d1 d2 t1 t2 (by k_asm) (by k_asm) (by k_asm) (by k_asm) (by k_asm) rfl (by ktr_room) (by ktr_units) (M.sub fun p hp=>by k_mem) ?_
 intro g2 h2 tk2 e2 F2 R2 U2
 try dsimp only
 (try (k_unfold;(try dsimp only)))
 refine leave_onX (by k_asm) F2 rfl R2 U2 ?_
 intro h3 R3 U3
 exact exc _ _ _ _ FG' (RaisedSN.sub R3 fun p hp=>by k_mem) U3
theorem dmb_roles2 {D:DmA} {x:Addr} (hxe:D.x=x) (n1:Str) (sn1:Tok) (d1 d2:Str) (t1 t2:Tok) (B:Below A₀ base outer h₀) (F:Fr h₀ L s.heap m) (X:(Kp w.params).In h₀) (N:News h₀ L s.heap news) (T:Top p loose mean mg mb h₀) (hk:cs.kind=.function) (hdp:dp + 6 < recursionLimit) (hun:un + 48 < cLine) (M:DmMem prog w news D)
 (exc:∀ g h' tk' e,Fr h₀ L g m→RaisedSN base g (envX cn cs L a ccd cl::outer) e (.type "RuntimeError") news h'→g.UpToSlots h'→E (.ref e) { s with heap:=h',toks:=tk' })
 : codeAny (model prog w) (ktrTop dp un gd cn cs L a ccd cl outer) (.call (.ref 1017) ⟨[.ref x,.str n1 sn1,.str d1 t1,.str d2 t2],[]⟩) (kRes Q E) s:=by
 subst hxe
 have hx:=M.x
 have hd:=M.d
 k_extra "kR"
 iterate 2 k_extra "w"
 k_extra "kS1"
 refine get_rm2 (D:=D) rfl d1 d2 t1 t2 (by k_asm) (by k_asm) (by k_asm) (by k_asm) (by k_asm) rfl (by ktr_room) (by ktr_units) (M.sub fun p hp=>by k_mem) ?_
 intro g2 h2 tk2 e2 F2 R2 U2
 try dsimp only
 (try (k_unfold;(try dsimp only)))
 refine leave_onX (by k_asm) F2 rfl R2 U2 ?_
 intro h3 R3 U3
 exact exc _ _ _ _ FG' (RaisedSN.sub R3 fun p hp=>by k_mem) U3
theorem dmb_users2 {D:DmA} {x:Addr} (hxe:D.x=x) (n1:Str) (sn1:Tok) (d1 d2:Str) (t1 t2:Tok) (B:Below A₀ base outer h₀) (F:Fr h₀ L s.heap m) (X:(Kp w.params).In h₀) (N:News h₀ L s.heap news) (T:Top p loose mean mg mb h₀) (hk:cs.kind=.function) (hdp:dp + 6 < recursionLimit) (hun:un + 48 < cLine) (M:DmMem prog w news D)
 (exc:∀ g h' tk' e,Fr h₀ L g m→RaisedSN base g (envX cn cs L a ccd cl::outer) e (.type "RuntimeError") news h'→g.UpToSlots h'→E (.ref e) { s with heap:=h',toks:=tk' })
 : codeAny (model prog w) (ktrTop dp un gd cn cs L a ccd cl outer) (.call (.ref 1024) ⟨[.ref x,.str n1 sn1,.str d1 t1,.str d2 t2],[]⟩) (kRes Q E) s:=by
 subst hxe
 have hx:=M.x
 have hd:=M.d
 k_extra "kR"
 iterate 2 k_extra "w"
 k_extra "kS1"
 refine get_rm2 (D:=D) rfl d1 d2 t1 t2 (by k_asm) (by k_asm) (by k_asm) (by k_asm) (by k_asm) rfl (by ktr_room) (by ktr_units) (M.sub fun p hp=>by k_mem) ?_
 intro g2 h2 tk2 e2 F2 R2 U2
 try dsimp only
 (try (k_unfold;(try dsimp only)))
 refine leave_onX (by k_asm) F2 rfl R2 U2 ?_
 intro h3 R3 U3
 exact exc _ _ _ _ FG' (RaisedSN.sub R3 fun p hp=>by k_mem) U3
theorem dm_has2 {D:DmA} {x:Addr} (hxe:D.x=x) (n1:Str) (sn1:Tok) (n2:Str) (sn2:Tok) (d1 d2:Str) (t1 t2:Tok) (B:Below A₀ base outer h₀) (F:Fr h₀ L s.heap m) (X:(Kp w.params).In h₀) (N:News h₀ L s.heap news) (T:Top p loose mean mg mb h₀) (hk:cs.kind=.function) (hdp:dp + 8 < recursionLimit) (hun:un + 64 < cLine) (M:DmMem prog w news D)
 (exc:∀ g h' tk' e,Fr h₀ L g m→RaisedSN base g (envX cn cs L a ccd cl::outer) e (.type "RuntimeError") news h'→g.UpToSlots h'→E (.ref e) { s with heap:=h',toks:=tk' })
 : wpAny (model prog w) (ktrTop dp un gd cn cs L a ccd cl outer) (call (.ref 1121) [.ref x,.str n1 sn1,.str n2 sn2,.str d1 t1,.str d2 t2]) Q E s:=by
 subst hxe
 have hx:=M.x
 have hd:=M.d
 refine call_res ?_
 k_extra "kT"
 refine ks_wpAt_execs_cons (ks_wpAt_Return_some (at_star ?_))
 k_extra "kN"
 refine callWith_SM2 (K:=Kp w.params) (by k_asm) (.head _) (by k_is) ?_
 iterate 9 k_extra "w"
 refine call_meth (by k_asm) (.head _) ?_
 refine dmb_has2 (D:=D) rfl n1 sn1 n2 sn2 d1 d2 t1 t2 (by k_asm) (by k_asm) (by k_asm) (by k_asm) (by k_asm) rfl (by ktr_room) (by ktr_units) (M.sub fun p hp=>by k_mem) ?_
 intro g2 h2 tk2 e2 F2 R2 U2
 try dsimp only
 refine leave_onX (by k_asm) F2 rfl R2 U2 ?_
 intro h3 R3 U3
 exact exc _ _ _ _ FG' (RaisedSN.sub R3 fun p hp=>by k_mem) U3
theorem dm_add2 {D:DmA} {x:Addr} (hxe:D.x=x) (n1:Str) (sn1:Tok) (n2:Str) (sn2:Tok) (d1 d2:Str) (t1 t2:Tok) (B:Below A₀ base outer h₀) (F:Fr h₀ L s.heap m) (X:(Kp w.params).In h₀) (N:News h₀ L s.heap news) (T:Top p loose mean mg mb h₀) (hk:cs.kind=.function) (hdp:dp + 8 < recursionLimit) (hun:un + 64 < cLine) (M:DmMem prog w news D)
 (exc:∀ g h' tk' e,Fr h₀ L g m→RaisedSN base g (envX cn cs L a ccd cl::outer) e (.type "RuntimeError") news h'→g.UpToSlots h'→E (.ref e) { s with heap:=h',toks:=tk' })
 : wpAny (model prog w) (ktrTop dp un gd cn cs L a ccd cl outer) (call (.ref 1105) [.ref x,.str n1 sn1,.str n2 sn2,.str d1 t1,.str d2 t2]) Q E s:=by
 subst hxe
 have hx:=M.x
 have hd:=M.d
 refine call_res ?_
 k_extra "kT"
 refine ks_wpAt_execs_cons (ks_wpAt_Expr_any (at_star ?_))
 k_extra "kN"
 refine callWith_SM2 (K:=Kp w.params) (by k_asm) (.head _) (by k_is) ?_
 iterate 9 k_extra "w"
 refine call_meth (by k_asm) (.head _) ?_
 refine dmb_add2 (D:=D) rfl n1 sn1 n2 sn2 d1 d2 t1 t2 (by k_asm) (by k_asm) (by k_asm) (by k_asm) (by k_asm) rfl (by ktr_room) (by ktr_units) (M.sub fun p hp=>by k_mem) ?_
 intro g2 h2 tk2 e2 F2 R2 U2
 try dsimp only
 refine leave_onX (by k_asm) F2 rfl R2 U2 ?_
 intro h3 R3 U3
 exact exc _ _ _ _ FG' (RaisedSN.sub R3 fun p hp=>by k_mem) U3
theorem dm_del2 {D:DmA} {x:Addr} (hxe:D.x=x) (n1:Str) (sn1:Tok) (n2:Str) (sn2:Tok) (d1 d2:Str) (t1 t2:Tok) (B:Below A₀ base outer h₀) (F:Fr h₀ L s.heap m) (X:(Kp w.params).In h₀) (N:News h₀ L s.heap news) (T:Top p loose mean mg mb h₀) (hk:cs.kind=.function) (hdp:dp + 8 < recursionLimit) (hun:un + 64 < cLine) (M:DmMem prog w news D)
 (exc:∀ g h' tk' e,Fr h₀ L g m→RaisedSN base g (envX cn cs L a ccd cl::outer) e (.type "RuntimeError") news h'→g.UpToSlots h'→E (.ref e) { s with heap:=h',toks:=tk' })
 : wpAny (model prog w) (ktrTop dp un gd cn cs L a ccd cl outer) (call (.ref 1113) [.ref x,.str n1 sn1,.str n2 sn2,.str d1 t1,.str d2 t2]) Q E s:=by
 subst hxe
 have hx:=M.x
 have hd:=M.d
 refine call_res ?_
 k_extra "kT"
 refine ks_wpAt_execs_cons (ks_wpAt_Expr_any (at_star ?_))
 k_extra "kN"
 refine callWith_SM2 (K:=Kp w.params) (by k_asm) (.head _) (by k_is) ?_
 iterate 9 k_extra "w"
 refine call_meth (by k_asm) (.head _) ?_
 refine dmb_del2 (D:=D) rfl n1 sn1 n2 sn2 d1 d2 t1 t2 (by k_asm) (by k_asm) (by k_asm) (by k_asm) (by k_asm) rfl (by ktr_room) (by ktr_units) (M.sub fun p hp=>by k_mem) ?_
 intro g2 h2 tk2 e2 F2 R2 U2
 try dsimp only
 refine leave_onX (by k_asm) F2 rfl R2 U2 ?_
 intro h3 R3 U3
 exact exc _ _ _ _ FG' (RaisedSN.sub R3 fun p hp=>by k_mem) U3
theorem dm_roles2 {D:DmA} {x:Addr} (hxe:D.x=x) (n1:Str) (sn1:Tok) (d1 d2:Str) (t1 t2:Tok) (B:Below A₀ base outer h₀) (F:Fr h₀ L s.heap m) (X:(Kp w.params).In h₀) (N:News h₀ L s.heap news) (T:Top p loose mean mg mb h₀) (hk:cs.kind=.function) (hdp:dp + 8 < recursionLimit) (hun:un + 64 < cLine) (M:DmMem prog w news D)
 (exc:∀ g h' tk' e,Fr h₀ L g m→RaisedSN base g (envX cn cs L a ccd cl::outer) e (.type "RuntimeError") news h'→g.UpToSlots h'→E (.ref e) { s with heap:=h',toks:=tk' })
 : wpAny (model prog w) (ktrTop dp un gd cn cs L a ccd cl outer) (call (.ref 1129) [.ref x,.str n1 sn1,.str d1 t1,.str d2 t2]) Q E s:=by
 subst hxe
 have hx:=M.x
 have hd:=M.d
 refine call_res ?_
 k_extra "kT"
 refine ks_wpAt_execs_cons (ks_wpAt_Return_some (at_star ?_))
 k_extra "kN"
 refine callWith_SM2 (K:=Kp w.params) (by k_asm) (.head _) (by k_is) ?_
 iterate 7 k_extra "w"
 refine call_meth (by k_asm) (.head _) ?_
 refine dmb_roles2 (D:=D) rfl n1 sn1 d1 d2 t1 t2 (by k_asm) (by k_asm) (by k_asm) (by k_asm) (by k_asm) rfl (by ktr_room) (by ktr_units) (M.sub fun p hp=>by k_mem) ?_
 intro g2 h2 tk2 e2 F2 R2 U2
 try dsimp only
 refine leave_onX (by k_asm) F2 rfl R2 U2 ?_
 intro h3 R3 U3
 exact exc _ _ _ _ FG' (RaisedSN.sub R3 fun p hp=>by k_mem) U3
theorem dm_users2 {D:DmA} {x:Addr} (hxe:D.x=x) (n1:Str) (sn1:Tok) (d1 d2:Str) (t1 t2:Tok) (B:Below A₀ base outer h₀) (F:Fr h₀ L s.heap m) (X:(Kp w.params).In h₀) (N:News h₀ L s.heap news) (T:Top p loose mean mg mb h₀) (hk:cs.kind=.function) (hdp:dp + 8 < recursionLimit) (hun:un + 64 < cLine) (M:DmMem prog w news D)
 (exc:∀ g h' tk' e,Fr h₀ L g m→RaisedSN base g (envX cn cs L a ccd cl::outer) e (.type "RuntimeError") news h'→g.UpToSlots h'→E (.ref e) { s with heap:=h',toks:=tk' })
 : wpAny (model prog w) (ktrTop dp un gd cn cs L a ccd cl outer) (call (.ref 1137) [.ref x,.str n1 sn1,.str d1 t1,.str d2 t2]) Q E s:=by
 subst hxe
 have hx:=M.x
 have hd:=M.d
 refine call_res ?_
 k_extra "kT"
 refine ks_wpAt_execs_cons (ks_wpAt_Return_some (at_star ?_))
 k_extra "kN"
 refine callWith_SM2 (K:=Kp w.params) (by k_asm) (.head _) (by k_is) ?_
 iterate 7 k_extra "w"
 refine call_meth (by k_asm) (.head _) ?_
 refine dmb_users2 (D:=D) rfl n1 sn1 d1 d2 t1 t2 (by k_asm) (by k_asm) (by k_asm) (by k_asm) (by k_asm) rfl (by ktr_room) (by ktr_units) (M.sub fun p hp=>by k_mem) ?_
 intro g2 h2 tk2 e2 F2 R2 U2
 try dsimp only
 refine leave_onX (by k_asm) F2 rfl R2 U2 ?_
 intro h3 R3 U3
 exact exc _ _ _ _ FG' (RaisedSN.sub R3 fun p hp=>by k_mem) U3
end
section
variable {prog:Program} {w:World} {A:Around} {E:Value→Shared→Prop} {s:Shared} {env:Env}
def ForItems (prog:Program) (w:World) (A:Around) (h₀:Heap) (env:Env) (xk xv:Str) (body:List Stmt) (Q:Flow→Shared→Prop) (E:Value→Shared→Prop) (xv':Value) (s₁:Shared):Prop:=∀ Zp:Prop,(∀ (J:Nat→(Str→Option Value)→Led→Prop) (vw d:Addr) (od:Obj) (kvs:List (Str×Value)) (m₀:Str→Option Value) (news₀:Led),(xv'=.ref vw)→(A.handled=none)→(Fr h₀ env.locals s₁.heap m₀)→(News h₀ env.locals s₁.heap news₀)→((vw,({ cls:=.type "dict_items",data:=.fields #[.ref d] }:Obj))∈news₀)→((d,od)∈news₀)→(od.IsDictOf (strKind prog w) kvs)→(J 0 m₀ news₀)→((∀ i m nw,J i m nw→(d,od)∈nw))→((∀ i k v t m₁ news₁ I oI h tk,kvs[i]?=some (k,v)→J i m₁ news₁→(∀ p∈news₁,p.1≠I)→Fr h₀ env.locals h (fun y=>if y=xv then some v else if y=xk then some (.str k t) else m₁ y)→News h₀ env.locals h ((I,oI)::news₁)→wpAny (model prog w) A (execs body env) (fun f s₃=>f=.next∧∃ h' tk' m₂ news₂,s₃={ s₁ with heap:=h',toks:=tk' }∧Fr h₀ env.locals h' m₂∧News h₀ env.locals h' ((I,oI)::news₂)∧(∀ p∈news₂,p.1≠I)∧J (i + 1) m₂ news₂) E { s₁ with heap:=h,toks:=tk }))→(∀ h' tk' m' news',Fr h₀ env.locals h' m'→News h₀ env.locals h' news'→J kvs.length m' news'→Q .next { s₁ with heap:=h',toks:=tk' })→Zp)→Zp
theorem for_items {Q:Flow→Shared→Prop} {xk xv:Str} {pk pv pt pos:Pos} {x1:Nat} {iter:Expr} {body:List Stmt} (h₀:Heap)
  (h:wpAny (model prog w) A (eval iter env) (ForItems prog w A h₀ env xk xv body Q E) E s)
  (hxk:env.kindOf xk=some .local) (hxv:env.kindOf xv=some .local) (hp:(env.scope.kind == .class || (env.scope.kind == .module && env.locals != env.globals))=false)
  (hs:∀ x,foldedSetIterable iter env x=pure x)
  (hE:PassesOwn (model prog w) A env E) :
  wpAny (model prog w) A (exec (.For (.Tuple [.Name xk pk,.Name xv pv] x1 pt) iter body [] pos) env) Q E s:=by
 refine wpAny_For (wpAny_mono h (fun xv' s₁ h₁=>?_) fun _ _ e=>e) hs
 (refine h₁ _ ?_;clear h₁;intro J vw d od kvs m₀ news₀ e9_7 hh F N hv hm hd hJ hkeep step fin;subst e9_7)
 (refine e_E ((kda_dict N hm hd).dictAt) ?_;intro ep hat)
 obtain ⟨es,hexact⟩:∃ es,od.ExactDict∧od.data=.dict es ep∧KeysOf (strKind prog w) es∧Pairs (strKind prog w) es.toList kvs∧(kvs.map (·.1)).Nodup:=by
  (refine e_E2A (hat) ?_;clear hat;intro o' es ho' r)
  cases (N _ hm).1.symm.trans ho'
  exact ⟨es,r⟩
 have dat:∀ {h':Heap} {m' nw i},J i m' nw→News h₀ env.locals h' nw→h'.DictAt (strKind prog w) d kvs ep:=fun hJ Nw=>⟨od,es,(Nw _ (hkeep _ _ _ hJ)).1,hexact⟩
 refine wpAny_pyIter_items ⟨_,(N _ hv).1,rfl,rfl⟩ hat ?_
 generalize hit:s₁.heap.objs.size=it
 have up:∀ b o,s₁.heap.get? b=some o→(s₁.heap.push { cls:=.type "dict_itemiterator",data:=.fields #[.none,.bool false,.ref d,.int 0 0,.int kvs.length 0,.int ep 0,.none,.none] }).get? b=some o:=fun b o e=>Heap.get?_push_of_some _ e
 have hLit:env.locals≠it:=hit▸Nat.ne_of_lt F.ns.lt
 have hin:h₀.get? it=none:=hit▸next_is_new F
 have oldNe:∀ b o,h₀.get? b=some o→b≠it:=fun b o e q=>by (replace e:=(q ..)▸e;replace e:=(hin ..)▸e);cases e
 refine codeAny_forLoop_any
  (fun n s'=>∃ h' tk m' news' i ok ov,s'={ s₁ with heap:=h',toks:=tk }∧IsItemIter h' it d i kvs.length ep ok ov∧Fr h₀ env.locals h' m'∧News h₀ env.locals h' news' ∧
   (∀ p∈news',p.1≠it)∧J i m' news'∧i≤kvs.length∧n=kvs.length + 1 - i) ?_ (kvs.length + 1)
  ⟨_,s₁.toks,m₀,news₀,0,.none,.none,rfl,by refine rwr (hit ..) ?_;exact Heap.get?_push_size _ rfl,F.keeps up,N.grown up,fun p hp=>hit▸Nat.ne_of_lt (Heap.lt_size (N p hp).1),hJ,Nat.zero_le _,rfl⟩
 intro n s' e8_2;(refine e_E7A7 (e8_2) ?_;clear e8_2;intro H tk m' news' i ok ov e9_7 hit' F' N' hnw hJ' hi e9_14;subst e9_7;subst e9_14)
 have hm':=dat hJ' N'
 have hn':=F'.ns
 cases hv:kvs[i]? with
 | none =>
  have hsz:i=kvs.length:=Nat.le_antisymm hi (by simpa using hv)
  refine wpAny_pyNext_items_end hh hit' hm' hv fun h₁ he₁=>wpAny_execs_nil ?_
  exact fin h₁ tk m' news' ⟨hn'.extBut he₁ hLit,fun b o e=>he₁ b o (oldNe b o e) (F'.keep b o e),F'.above⟩
   (fun p hp=>⟨he₁ _ _ (hnw p hp) (N' p hp).1,(N' p hp).2⟩) (hsz▸hJ')
 | some kv =>
  obtain ⟨k,v⟩:=kv
  have hlt:i < kvs.length:=(List.getElem?_eq_some_iff.mp hv).1
  have hiH:it < H.objs.size:=Heap.lt_size hit'
  refine wpAny_pyNext_items_item hit' hm' hv fun key h₁ hkey heo ht₁ hz₁ hk₁=>?_
  (refine e_E (Value.isStrOf_shape hkey) ?_;intro t e9_1;subst e9_1)
  refine wpAny_letOwnedTupleGo_items heo fun h₂ he₂ hs₂=>?_
  replace hs₂:Heap.SameBut it h₁ h₂:=hs₂
  have ht₂:h₂.IsTuple H.objs.size #[.str k t,v]:=⟨_,(hs₂.2 _ (Nat.ne_of_gt hiH)).trans ht₁,rfl,_,rfl⟩
  have hz₂:h₂.objs.size=H.objs.size + 1:=hs₂.1.trans hz₁
  refine wpAny_assign_Tuple hh ht₂ rfl rfl fun h₃ hx₃=>?_
  replace hx₃:Heap.ExtBut h₂.objs.size h₂ h₃:=hx₃
  have old₃:∀ b o,b < H.objs.size→h₂.get? b=some o→h₃.get? b=some o:=fun b o hb x=>hx₃ b o (by refine rwl (hz₂ ..) ?_;exact Nat.ne_of_lt (Nat.lt_succ_of_lt hb)) x
  have up₃:∀ b o,b≠it→H.get? b=some o→h₃.get? b=some o:=fun b o hb x=>old₃ b o (Heap.lt_size x) (hs₂.extBut b o hb (hk₁ b o hb x))
  have F₃:Fr h₀ env.locals h₃ m':=⟨hn'.at' fun o x=>up₃ _ o hLit x,fun b o e=>up₃ b o (oldNe b o e) (F'.keep b o e),F'.above⟩
  have N₃:News h₀ env.locals h₃ news':=fun p hp=>⟨up₃ _ _ (hnw p hp) (N' p hp).1,(N' p hp).2⟩
  show wpAny _ _ (assignInOrder [assign (.Name xk pk) env,assign (.Name xv pv) env] [.str k t,v]) _ _ _
  refine assignInOrder_cons ?_
  refine wpAny_assign_Name (wpAny_storeName_local hxk F₃.ns (fun h₄ hn₄ hs₄=>?_) hp)
  have F₄:=F₃.set hn₄ hs₄
  refine assignInOrder_cons ?_
  refine wpAny_assign_Name (wpAny_storeName_local hxv F₄.ns (fun h₅ hn₅ hs₅=>?_) hp)
  refine assignInOrder_nil ?_
  have F₅:=F₄.set hn₅ hs₅
  have N₅:News h₀ env.locals h₅ news':=(N₃.set hs₄).set hs₅
  have hit₃:h₃.get? it=some _:=old₃ it _ hiH he₂
  have hit₄:h₄.get? it=some _:=(hs₄.2 it (Ne.symm hLit)).trans hit₃
  have hit₅:h₅.get? it=some _:=(hs₅.2 it (Ne.symm hLit)).trans hit₄
  have N₆:News h₀ env.locals h₅ ((it,_)::news'):=fun p hp=>by
   rcases List.mem_cons.mp hp with rfl | hp
   ·exact ⟨hit₅,Ne.symm hLit,hin⟩
   ·exact N₅ p hp
  refine wpAny_passesOwn hE (wpAny_mono (step i k v t m' news' it _ h₅ _ hv hJ' hnw F₅ N₆) (fun f s₃ h₆=>?_) fun _ _ x=>x)
  (refine e_AE4A4 (h₆) ?_;clear h₆;intro e9_0 h₆ tk₆ m₂ news₂ e9_5 F₆ N₇ hoff₆ hJ₆;subst e9_0;subst e9_5)
  exact ⟨(kvs.length + 1 - (i + 1)),(by k_extra "ar"),h₆,tk₆,m₂,news₂,(i + 1),(.str k t),v,rfl,((N₇ _ (.head _)).1),F₆,(fun p hp=>N₇ p (.tail _ hp)),hoff₆,hJ₆,hlt,rfl⟩
end
structure Stop (p:Prop):Prop where
 out:p
section
variable {prog:Program} {w:World} {A:Around} {E:Value→Shared→Prop} {s:Shared} {env:Env}
noncomputable abbrev nf3 (a b c:Str) (o1 o2 o3:Option Value) (m₀:Str→Option Value):Str→Option Value:=fun y=>if y=a then o1 else if y=b then o2 else if y=c then o3 else m₀ y
theorem nf3_eta {a b c:Str} {m₀:Str→Option Value}:m₀=nf3 a b c (m₀ a) (m₀ b) (m₀ c) m₀:=by
 funext y
 show _=if y=a then _ else if y=b then _ else if y=c then _ else _
 by_cases h:y=a
 ·(refine rwl (if_pos h ..) ?_;refine rwl (h ..) ?_;with_reducible rfl)
 ·refine rwl (if_neg h ..) ?_
  by_cases h:y=b
  ·(refine rwl (if_pos h ..) ?_;refine rwl (h ..) ?_;with_reducible rfl)
  ·refine rwl (if_neg h ..) ?_
   by_cases h:y=c
   ·(refine rwl (if_pos h ..) ?_;refine rwl (h ..) ?_;with_reducible rfl)
   ·(refine rwl (if_neg h ..) ?_;with_reducible rfl)
theorem nf3_put2 {a b c:Str} {o1 o2 o3 p1 p2:Option Value} {m₀:Str→Option Value}:(fun y=>if y=a then p1 else if y=b then p2 else nf3 a b c o1 o2 o3 m₀ y)=nf3 a b c p1 p2 o3 m₀:=by
 funext y
 show (if y=a then _ else if y=b then _ else if y=a then _ else if y=b then _ else if y=c then _ else _)=if y=a then _ else if y=b then _ else if y=c then _ else _
 by_cases h:y=a
 ·(refine rwl (if_pos h ..) ?_;refine rwl (if_pos h ..) ?_;with_reducible rfl)
 ·(refine rwl (if_neg h ..) ?_;refine rwl (if_neg h ..) ?_;refine rwl (if_neg h ..) ?_)
  by_cases h:y=b
  ·(refine rwl (if_pos h ..) ?_;refine rwl (if_pos h ..) ?_;with_reducible rfl)
  ·(refine rwl (if_neg h ..) ?_;refine rwl (if_neg h ..) ?_;refine rwl (if_neg h ..) ?_;with_reducible rfl)
theorem nf3_put {a b c:Str} {o1 o2 o3 p3:Option Value} {m₀:Str→Option Value} (hac:c≠a) (hbc:c≠b):(fun y=>if y=c then p3 else nf3 a b c o1 o2 o3 m₀ y)=nf3 a b c o1 o2 p3 m₀:=by
 funext y
 show (if y=c then _ else if y=a then _ else if y=b then _ else if y=c then _ else _)=if y=a then _ else if y=b then _ else if y=c then _ else _
 by_cases h:y=c
 ·(refine rwl (if_pos h ..) ?_;refine rwl (if_neg (by rw [h];exact hac) ..) ?_;refine rwl (if_neg (by rw [h];exact hbc) ..) ?_;refine rwl (if_pos h ..) ?_;with_reducible rfl)
 ·(refine rwl (if_neg h ..) ?_;refine rwl (if_neg h ..) ?_;refine rwl (if_neg h ..) ?_;with_reducible rfl)
def ForItemsA (prog:Program) (w:World) (A:Around) (h₀:Heap) (env:Env) (xk xv c:Str) (body:List Stmt) (Q:Flow→Shared→Prop) (E:Value→Shared→Prop) (xv':Value) (s₁:Shared):Prop:=∀ Zp:Prop,(∀ (J:Nat→Addr→Led→Prop) (vw d:Addr) (od:Obj) (kvs:List (Str×Value)) (m₀:Str→Option Value) (a₀:Addr) (news₀:Led),(xv'=.ref vw)→(A.handled=none)→(Fr h₀ env.locals s₁.heap m₀)→(m₀ c=some (.ref a₀))→(News h₀ env.locals s₁.heap news₀)→((vw,({ cls:=.type "dict_items",data:=.fields #[.ref d] }:Obj))∈news₀)→((d,od)∈news₀)→(od.IsDictOf (strKind prog w) kvs)→(J 0 a₀ news₀)→((∀ i a nw,J i a nw→(d,od)∈nw))→((∀ i k v t a nw I oI h tk,kvs[i]?=some (k,v)→J i a nw→(∀ p∈nw,p.1≠I)→Fr h₀ env.locals h (nf3 xv xk c (some v) (some (.str k t)) (some (.ref a)) m₀)→News h₀ env.locals h ((I,oI)::nw)→wpAny (model prog w) A (execs body env) (fun f s₃=>Stop (f=.next∧∃ h' tk' a' nw',s₃={ s₁ with heap:=h',toks:=tk' }∧Fr h₀ env.locals h' (nf3 xv xk c (some v) (some (.str k t)) (some (.ref a')) m₀)∧News h₀ env.locals h' ((I,oI)::nw')∧(∀ p∈nw',p.1≠I)∧J (i + 1) a' nw')) E { s₁ with heap:=h,toks:=tk }))→(∀ h' tk' o1 o2 a nw,Fr h₀ env.locals h' (nf3 xv xk c o1 o2 (some (.ref a)) m₀)→News h₀ env.locals h' nw→J kvs.length a nw→Q .next { s₁ with heap:=h',toks:=tk' })→Zp)→Zp
theorem for_items_acc {Q:Flow→Shared→Prop} {xk xv:Str} {pk pv pt pos:Pos} {x1:Nat} {iter:Expr} {body:List Stmt} (h₀:Heap) (c:Str)
  (h:wpAny (model prog w) A (eval iter env) (ForItemsA prog w A h₀ env xk xv c body Q E) E s)
  (hxk:env.kindOf xk=some .local) (hxv:env.kindOf xv=some .local) (hp:(env.scope.kind == .class || (env.scope.kind == .module && env.locals != env.globals))=false)
  (hs:∀ x,foldedSetIterable iter env x=pure x)
  (hE:PassesOwn (model prog w) A env E) :
  wpAny (model prog w) A (exec (.For (.Tuple [.Name xk pk,.Name xv pv] x1 pt) iter body [] pos) env) Q E s:=by
 refine for_items h₀ (wpAny_mono h (fun xv' s₁ h₁=>?_) fun _ _ e=>e) hxk hxv hp hs hE
 (refine h₁ _ ?_;clear h₁;intro J vw d od kvs m₀ a₀ news₀ e9_8 hh F hm0 N hv hm hd hJ hkeep step fin;subst e9_8)
 refine fun _ kM=>kM (fun i m nw=>∃ o1 o2 a,m=nf3 xv xk c o1 o2 (some (.ref a)) m₀∧J i a nw) vw d od kvs m₀ news₀ rfl hh F N hv hm hd ⟨m₀ xv,m₀ xk,a₀,by refine rwr (hm0 ..) ?_;exact nf3_eta,hJ⟩ (fun i m nw ⟨_,_,_,_,h⟩=>hkeep i _ nw h) ?_ ?_
 ·intro i k v t m₁ nw I oI h tk hv' e8_11 off F' N';(refine e_E3A (e8_11) ?_;clear e8_11;intro o1 o2 a e9_3 hJ';subst e9_3)
  replace F':=(nf3_put2 ..)▸F'
  refine wpAny_mono (step i k v t a nw I oI h tk hv' hJ' off F' N') (fun f s₃ r=>?_) fun _ _ e=>e
  (refine e_AE4A4 (r.out) ?_;intro e9_0 h' tk' a' nw' e9_5 F₂ N₂ off₂ hJ₂;subst e9_0;subst e9_5)
  exact ⟨rfl,h',tk',_,nw',rfl,F₂,N₂,off₂,_,_,a',rfl,hJ₂⟩
 ·intro h' tk' m' nw F' N' e8_6;(refine e_E3A (e8_6) ?_;clear e8_6;intro o1 o2 a e9_3 hJ';subst e9_3)
  exact fin h' tk' o1 o2 a nw F' N' hJ'
theorem execs_nf {h₀:Heap} {L:Addr} {m₀:Str→Option Value} {st:Stmt} {rest:List Stmt} {Q:Flow→Shared→Prop} (a b c:Str) (P:Addr→Led→Prop) (_F:Fr h₀ L s.heap m₀)
  (h1:wpAny (model prog w) A (exec st env) (fun f s'=>Stop (f=.next∧∃ h' tk' o1 o2 dl nw,s'={ s with heap:=h',toks:=tk' }∧Fr h₀ L h' (nf3 a b c o1 o2 (some (.ref dl)) m₀)∧News h₀ L h' nw∧P dl nw)) E s)
  (h2:∀ h' tk' o1 o2 dl nw,Fr h₀ L h' (nf3 a b c o1 o2 (some (.ref dl)) m₀)→News h₀ L h' nw→P dl nw→wpAny (model prog w) A (execs rest env) Q E { s with heap:=h',toks:=tk' }):wpAny (model prog w) A (execs (st::rest) env) Q E s:=by
 refine wpAny_execs_cons (wpAny_mono h1 (fun f s' r=>?_) fun _ _ e=>e)
 (refine e_AE6A3 (r.out) ?_;intro e9_0 h' tk' o1 o2 dl nw e9_7 F' N' p;subst e9_0;subst e9_7)
 exact h2 h' tk' o1 o2 dl nw F' N' p
theorem stop_same {h₀:Heap} {L:Addr} {m₀:Str→Option Value} {a b c:Str} {P:Addr→Led→Prop} {dl:Addr} {nw:Led} {s₀:Shared} (F:Fr h₀ L s.heap m₀) (hc:m₀ c=some (.ref dl)) (N:News h₀ L s.heap nw) (hP:P dl nw) (hs:s={ s₀ with heap:=s.heap,toks:=s.toks }:=by rfl) :
  Stop (Flow.next=Flow.next∧∃ h' tk' o1 o2 dl nw,s={ s₀ with heap:=h',toks:=tk' }∧Fr h₀ L h' (nf3 a b c o1 o2 (some (.ref dl)) m₀)∧News h₀ L h' nw∧P dl nw) :=
 ⟨rfl,s.heap,s.toks,m₀ a,m₀ b,dl,nw,hs,by (refine rwr (hc ..) ?_;refine rwr (nf3_eta ..) ?_);exact F,N,hP⟩
end
section
variable {prog:Program} {w:World} {A:Around} {E:Value→Shared→Prop} {s:Shared} {h₀:Heap} {L:Addr} {m:Str→Option Value} {env:Env}
theorem compRest_rel {elt:Expr} {x:Str} {scope:Scope} {cl:List (Str×Addr)} {ax:Addr} {its:List Value} {k₀:Nat} {news:Led} {Rel:Value→Value→Prop} {Fin:List Value→Led→Prop}
  (hm:(ax,listOf its.toArray k₀)∈news)
  (he:InTurn prog w A h₀ L m s news x (fun C=>eval elt (compEnvC scope cl C env)) its Rel) (g:Heap) (fin:∀ ys,F2 Rel its ys→Fin ys news) :
  ∀ (k i:Nat) (ys:List Value),i + k=its.length→F2 Rel (its.take i) ys →
   CompRest prog w A h₀ L m env elt x scope cl { s with heap:=g } (SrcAt h₀ ax its.toArray) (fun i v=>its.toArray[i]?=some v) Fin k i ys news
 | 0,i,ys,hi,hF=>by
  refine CompRest.zero ?_
  rw [List.take_of_length_le (by omega)] at hF
  exact fin ys hF
 | k + 1,i,ys,hi,hF=>by
  refine CompRest.succ fun v I oI C oC D m₂ h tk E' hP hns hx F N off hne=>?_
  have hv:its[i]?=some v:=by simpa using hP
  have hmem:v∈its:=List.mem_of_getElem? hv
  have hS:SrcAt h₀ ax its.toArray news:=.inr ⟨_,hm,rfl,_,rfl⟩
  have ht:its.take (i + 1)=its.take i++[v]:=by (refine rwl (List.take_add_one ..) ?_;refine rwl (hv ..) ?_);rfl
  refine wpAny_mono (he v hmem I oI C oC D ys m₂ h tk E' hns hx F N) (fun y s'' r=>?_) fun _ _ e=>e
  (refine e_AE2A2 (r) ?_;clear r;intro hr h'' tk'' e9_3 F'' N'';subst e9_3)
  exact i_E3A5 h'' tk'' news rfl F'' N'' off hS (compRest_rel hm he g fin k (i + 1) _ (by k_extra "ar") (by refine rwl (ht ..) ?_;exact hF.append (.one hr)))
theorem comp_map {elt iter:Expr} {x:Str} {px:Pos} {scope:Scope} {cl:List (Str×Addr)} {pos:Pos} {Q:Value→Shared→Prop} (Rel:Value→Value→Prop) (F₀:Fr h₀ L s.heap m) (hh:A.handled=none)
  (h:wpAny (model prog w) A (eval iter env) (fun xv s₁=>∃ ax its k₀ news,xv=.ref ax∧Fr h₀ L s₁.heap m∧News h₀ L s₁.heap news∧(ax,listOf its.toArray k₀)∈news∧its.length≤1000 ∧
   InTurn prog w A h₀ L m s₁ news x (fun C=>eval elt (compEnvC scope cl C env)) its Rel ∧
   ∀ D h tk ys,F2 Rel its ys→Fr h₀ L h m→News h₀ L h ((D,lst ys)::news)→(∀ p∈news,p.1≠D)→Q (.ref D) { s₁ with heap:=h,toks:=tk }) E s)
  (hclos:closureFor scope env=pure cl) (hcell:∀ y∈scope.names,y.2≠.cell) (hkind:scope.kind=.function)
  (hnames:∀ y∈scope.names,y.2=.local→scope.names.lookup y.1=some .local) (hx:scope.names.lookup x=some .local)
  (hs:∀ x,foldedSetIterable iter env x=pure x) :
  wpAny (model prog w) A (eval (.ListComp elt [⟨.Name x px,iter,[],0⟩] scope pos) env) Q E s:=by
 refine ListComp_U F₀ hclos hcell hkind hnames hx (wpAny_mono h (fun xv s₁ r=>?_) fun _ _ e=>e) hs
 (refine e_E4A6 (r) ?_;clear r;intro ax its k₀ news e9_4 F N hm hl he fin;subst e9_4)
 refine CompSrc.ledger hh F N hm (by (refine rwl (List.size_toArray ..) ?_;refine rwl (sizeLine_eq ..) ?_);k_extra "ar") fun g=>?_
 have z:=compRest_rel (Fin:=FinE h₀ L m { s₁ with heap:=g } Q) hm he g (fun ys hF D h tk F' N' o=>fin D h tk ys hF F' N' (off1_mem o)) its.length 0 [] (by omega) (by refine rwl (List.take_zero ..) ?_;exact .nil)
 refine rwl (List.size_toArray ..) ?_
 exact z
end
section
variable {prog:Program} {w:World} {A:Around} {E:Value→Shared→Prop} {s:Shared} {h₀:Heap} {L:Addr} {m:Str→Option Value} {news:Led}
theorem F2.ofNth {α β:Type} {R:α→β→Prop}:∀ {as:List α} {bs:List β},as.length=bs.length→(∀ (j:Nat) a,as[j]?=some a→∃ b,bs[j]?=some b∧R a b)→F2 R as bs
 | [],[],_,_=>.nil
 | [],_::_,h,_=>nomatch h
 | _::_,[],h,_=>nomatch h
 | a::as,b::bs,h,k=>by
  refine .cons ?_ (F2.ofNth (Nat.succ.inj h) fun j a' e=>k (j + 1) a' e)
  (refine e_EA (k 0 a rfl) ?_;intro b' e r)
  cases e
  exact r
theorem list_items {v d:Addr} {od:Obj} {kvs:List (Str×Value)} {Q:Value→Shared→Prop} (hh:A.handled=none) (F:Fr h₀ L s.heap m) (N:News h₀ L s.heap news) (hvw:(v,({ cls:=.type "dict_items",data:=.fields #[.ref d] }:Obj))∈news) (hmd:(d,od)∈news) (hod:od.IsDictOf (strKind prog w) kvs) (hn:kvs.length≤1000)
  (h:∀ (B:Addr) c h' tk (as:List Addr) (tups:Led),(∀ q∈news,q.1 < B)→Fr h₀ L h' m→News h₀ L h' ((B,refsO as c)::(tups++news)) →
   F2 (fun a kv=>∃ t,(a,({ cls:=.type "tuple",data:=.seq #[.str kv.1 t,kv.2] }:Obj))∈tups) as kvs→Q (.ref B) { s with heap:=h',toks:=tk }) :
  wpAny (model prog w) A (call (.type "list") [.ref v]) Q E s:=by
 (refine e_E (KdkAt.of hod) ?_;intro ep hat)
 refine kdx_call (knd:=strKind prog w) (kvs:=kvs) (ep:=ep) hh ⟨_,(N _ hvw).1,rfl,rfl⟩ (hat.dictAt (N _ hmd).1) (kdl_size (by k_extra "ar")) fun h' tk acc c as hk hS hl hG hacc=>?_
 have ea:acc=(as.map Value.ref).toArray:=by (refine rwr (hacc ..) ?_;refine rwl (Array.toArray_toList ..) ?_;with_reducible rfl)
 have get:∀ a∈as,∃ o,h'.get? a=some o:=fun a ha=>by
  (refine e_E (List.mem_iff_getElem?.mp ha) ?_;intro j hj)
  (refine e_E3A2 (hG.pairs j a hj) ?_;intro _ _ _ _ _ e)
  exact ⟨_,e⟩
 refine h s.heap.objs.size c h' tk as (as.map fun a=>(a,(h'.get? a).getD default)) (fun q hq=>Heap.lt_size (N q hq).1) (F.keeps hk) (fun q hq=>?_) (F2.ofNth hl fun j a e=>?_)
 ·rcases List.mem_cons.mp hq with rfl | hq
  ·subst ea;exact ⟨hS,kdx_fresh F (Nat.le_refl _)⟩
  ·rcases List.mem_append.mp hq with hq | hq
   ·(refine e_EA (List.mem_map.mp hq) ?_;intro a ha e9_2;subst e9_2)
    (refine e_E (get a ha) ?_;intro o e)
    exact ⟨by refine rwl (e ..) ?_;rfl,kdx_fresh F (Nat.le_of_lt (hG.above a ha))⟩
   ·exact ⟨hk _ _ (N q hq).1,(N q hq).2⟩
 ·(refine e_E3A2 (hG.pairs j a e) ?_;intro key k x e1 e2 e3)
  (refine e_E (Value.isStrOf_shape e2) ?_;intro t e9_1;subst e9_1)
  refine i_EAE _ e1 t (List.mem_map.mpr ⟨a,List.mem_of_getElem? e,?_⟩)
  refine rwl (e3 ..) ?_;rfl
end
section
variable {prog:Program} {w:World} {p:Program} {loose:List Str} {mean:ExcName→Option Value} {mg mb:Str→Option Value}
 {dp un:Nat} {gd:Option (List Code)} {cn:Str} {cs:Scope} {a:Addr} {ccd:Value} {cl:List (Str×Addr)} {outer:List Env} {A₀:Around} {base h₀:Heap} {L:Addr} {m:Str→Option Value} {s:Shared} {Q E:Value→Shared→Prop} {news:Led}

theorem mroles {R:RmA} {os:Led} (K:FnOk prog w R.lam os eqS) (nm:Str) (t:Tok) (hnm:nm.length≤100) (B:Below A₀ base outer h₀) (F:Fr h₀ L s.heap m) (X:(Kp w.params).In h₀) (N:News h₀ L s.heap news) (T:Top p loose mean mg mb h₀) (hk:cs.kind=.function) (hdp:dp + 4 < recursionLimit) (hun:un + 32 < cLine)
 (I:RmIn prog w news R) (hno:nm ∉ R.roles.map (·.a.nm)) (ho:∀ p∈os,p∈news)
 (ret:∀ h' tk' q k,Fr h₀ L h' m→News h₀ L h' ((q,refsO [] k)::news)→(∀ p∈news,p.1≠q)→Q (.ref q) { s with heap:=h',toks:=tk' })
 : wpAny (model prog w) (ktrTop dp un gd cn cs L a ccd cl outer) (call (.ref 854) [.ref R.x,.str nm t]) Q E s:=by
 (refine e_EA (I.ar) ?_;intro oar har hod)
 have hx:=I.x
 have hd:=I.d
 have hlo:=I.lo
 (refine call_res ?_;k_extra "kC")
 rename_i o1 o2 o3 e1 e2 e3
 k_extra "w"
 k_extra "w"
 refine comp_over (h₀:=g') (L:=L') (fun _ m₂=>∃ n tk x,(n,x)∈(R.roles.map fun r=>(r.a.nm,Value.ref r.a.x))∧m₂ "role_name"=some (.str n tk)∧m₂ "role"=some x) (fun _=>false) id (by k_asm) rfl (fun _ _ _ _ _ _ _ hI q=>go_list_tuple hI q) ?_ (by rfl) (by decide) (by rfl) (by decide) (by intro _;rfl)
 k_extra "w"
 k_extra "w"
 k_extra "w"
 k_extra "w"
 k_extra "w"
 k_extra "w"
 k_extra "w"
 k_extra "w"
 refine kdl_method (knd:=PySem.strKind _ _) PySem.F.slot_dict_items PySem.F.type_dict_items (by k_asm) (by k_mem) hod ?_
 k_extra "w"
 refine kdx_view (knd:=strKind _ _) (by k_asm) (by k_asm) (by k_mem) hod hlo ?_
 intro vw h5 F5 N5 l5
 k_extra "w"
 refine list_items rfl (by k_asm) (by k_asm) (by k_mem) (by k_mem) hod (by refine rwl (List.length_map ..) ?_;have:=I.fewr;k_extra "ar") ?_
 intro B6 c6 h6 tk6 as tups l6 F6 N6 hz
 refine .mk B6 (as.map Value.ref) c6 _ rfl (by k_asm) (by k_asm) (by k_mem) ?_ ?_ ?_ ?_ ?_
 ·(refine rwl (List.length_map ..) ?_;refine rwl (hz.length ..) ?_;refine rwl (List.length_map ..) ?_);have:=I.fewr;k_extra "ar"
 ·intro v hv C m₁ s₁ Q₁ E₁ hn N₁ hq
  (refine e_EA (List.mem_map.mp hv) ?_;intro T hT e9_2;subst e9_2)
  (refine e_EAE (hz.left hT) ?_;intro kv hkv t₁ ht₁)
  exact bind2 rfl rfl rfl rfl hn N₁ (.tail _ (List.mem_append_left _ ht₁)) (by decide) fun h' tk m₂ a b c=>hq h' tk m₂ a ⟨kv.1,t₁,kv.2,hkv,b.1,b.2⟩ c
 ·intro v hv I₁ oI C₁ oC D ys m₂ h tk E' hns hb F'' N''
  (refine e_E3A2 (hb) ?_;clear hb;intro n tn x hm h1 h2)
  try dsimp only
  k_extra "w"
  k_extra "w"
  k_extra "w"
  k_extra "w"
  k_extra "w"
  k_extra "w"
  k_extra "w"
  k_extra "w"
  k_extra "w"
  k_extra "w"
  k_extra "w"
  k_extra "w"
  k_extra "w"
  k_extra "w"
  refine mfn_sp K nm n t tn hnm (by
   (refine e_EA (List.mem_map.mp hm) ?_;intro r hr e)
   cases e
   exact I.short hr) (by k_asm) (by k_asm) (by k_asm) (by k_asm) (by k_asm) rfl (by ktr_room) (by ktr_units) (by k_mem) (by k_mem) (fun p hp=>?_) ?_
  ·have:=ho p hp
   k_mem
  intro h7 tk7 F7 N7
  have hne:(nm == n)=false:=by
   (refine e_EA (List.mem_map.mp hm) ?_;intro r hr e)
   cases e
   exact beq_eq_false_iff_ne.mpr fun q=>hno (by refine rwl (q ..) ?_;exact List.mem_map_of_mem (f:=fun r=>r.a.nm) hr)
  refine rwl (hne ..) ?_
  k_extra "w"
  exact i_AE2A2 rfl _ _ rfl F7 N7
 ·intro v hv
  rw [List.filter_eq_nil_iff.mpr (fun _ _=>Bool.false_ne_true)] at hv
  nomatch hv
 ·intro D h tk F'' N'' hD
  rw [List.filter_eq_nil_iff.mpr (fun _ _=>Bool.false_ne_true)] at N''
  k_extra "w"
  refine ret _ _ D 0 (by k_asm) (news_sub (by k_asm) (List.forall_mem_cons.mpr ⟨by k_mem,fun p hp=>by k_mem⟩)) ?_
  intro p hp
  exact hD p (by k_mem)
end
section
variable {prog:Program} {w:World} {p:Program} {loose:List Str} {mean:ExcName→Option Value} {mg mb:Str→Option Value}
 {dp un:Nat} {gd:Option (List Code)} {cn:Str} {cs:Scope} {a:Addr} {ccd:Value} {cl:List (Str×Addr)} {outer:List Env} {A₀:Around} {base h₀:Heap} {L:Addr} {m:Str→Option Value} {s:Shared} {Q E:Value→Shared→Prop} {news:Led}

theorem get_role {R:RmA} {x:Addr} (hxe:R.x=x) {os:Led} (K:FnOk prog w R.lam os eqS) (nm:Str) (t:Tok) (hnm:nm∈Names) (B:Below A₀ base outer h₀) (F:Fr h₀ L s.heap m) (X:(Kp w.params).In h₀) (N:News h₀ L s.heap news) (T:Top p loose mean mg mb h₀) (hk:cs.kind=.function) (hdp:dp + 5 < recursionLimit) (hun:un + 40 < cLine)
 (I:RmIn prog w news R) (ho:∀ p∈os,p∈news) (hoff:∀ p∈os,¬ R.own p.1)
 (ret:∀ h' tk' news' R' r,Fr h₀ L h' m→News h₀ L h' news'→RmIn prog w news' R'→Stp R.own R'.own news news'→RmSame R R'→(∀ q∈R.roles,q∈R'.roles) →
  r∈R'.roles→r.a.nm=nm→Q (.ref r.a.x) { s with heap:=h',toks:=tk' })
 : wpAny (model prog w) (ktrTop dp un gd cn cs L a ccd cl outer) (call (.ref 861) [.ref x,.str nm t]) Q E s:=by
 subst hxe
 (refine e_EA (I.ar) ?_;intro oar har hod)
 have hx:=I.x
 have hd:=I.d
 have hlo:=I.lo
 have hxa:NeA R.x R.ar:=newsNe N hx har (by refine rwl (dict_cls hod ..) ?_;nofun)
 have hda:NeA R.d R.ar:=⟨I.dar⟩
 by_cases hin:nm∈R.roles.map (·.a.nm)
 ·(refine e_EA (List.mem_map.mp hin) ?_;intro r hr e9_2;subst e9_2)
  have hv:valueAt (R.roles.map fun r=>(r.a.nm,Value.ref r.a.x)) r.a.nm=some (.ref r.a.x):=valueAt_mem (mf_nd I.nd) (List.mem_map_of_mem (f:=fun r:RoleS=>(r.a.nm,Value.ref r.a.x)) hr)
  (refine call_res ?_;k_extra "kE")
  iterate 7 k_extra "w"
  refine kdg_notin (knd:=strKind _ _) (by k_asm) (by k_mem) hod hlo (strKind_is _ _ _ _) true (by refine rwl (hv ..) ?_;rfl) ?_
  iterate 10 k_extra "w"
  refine kdt_tail (knd:=PySem.strKind _ _) (by k_asm) (by k_mem) hod ?_
  refine kdt_getItem (knd:=PySem.strKind _ _) (by k_asm) (by k_mem) hod (strKind_is _ _ _ _) hv ?_
  k_extra "w"
  exact ret _ _ news R r (by k_asm) (by k_asm) I (.refl _ _) (.refl _) (fun _ h=>h) hr rfl
 ·(refine call_res ?_;k_extra "kE")
  iterate 7 k_extra "w"
  refine kdg_notin (knd:=strKind _ _) (by k_asm) (by k_mem) hod hlo (strKind_is _ _ _ _) false (by refine rwl (valueAt_none (mf_in hin) ..) ?_;rfl) ?_
  iterate 11 k_extra "w"
  refine new_role nm t (by k_asm) (by k_asm) (by k_asm) (by k_asm) (by k_asm) rfl (by ktr_room) (by ktr_units) ?_
  intro h5 tk5 r k1 k2 F5 hrn N5 fresh f1 f2 f3
  iterate 8 k_extra "w"
  refine ne_fn_none (K.ty (by k_asm) (Fr.keep (by k_asm)) (by k_asm) (fun p hp=>by have:=ho p hp;k_mem)) (by ktr_units) ?_
  iterate 3 k_extra "w"
  refine for_empty g' ?_ rfl rfl (by intro _;rfl) (by passes_own)
  iterate 8 k_extra "w"
  refine mroles K nm t (names_short hnm) (by k_asm) (by k_asm) (by k_asm) (by k_asm) (by k_asm) rfl (by ktr_room) (by ktr_units) ?_ hin (fun p hp=>by have:=ho p hp;k_mem) ?_
  ·exact I.sub fun p hp=>by k_mem
  intro h6 tk6 q6 k6 F6 N6 o6
  refine fun _ kM=>kM q6 k6 _ _ rfl rfl (by k_asm) (by k_asm) (by k_mem) ?_
  intro h7 tk7 F7 N7
  iterate 8 k_extra "w"
  refine sd_set (by k_asm) (by k_asm) (by k_mem) hod (by refine rwl (List.length_map ..) ?_;have:=I.fewr;k_extra "ar") ?_
  intro h8 o8 F8 N8 hd8
  iterate 8 k_extra "w"
  refine kdt_tail (knd:=PySem.strKind _ _) (by k_asm) (by k_mem) hd8 ?_
  refine kdt_getItem (knd:=PySem.strKind _ _) (v:=.ref r.x) (by k_asm) (by k_mem) hd8 (strKind_is _ _ _ _) ?_ ?_
  ·refine rwl (stored_new (mf_in hin) ..) ?_
   refine valueAt_mem ?_ (List.mem_append_right _ (.head _))
   refine rwr (stored_new (mf_in hin) ..) ?_
   (refine e_E2A4 (hd8) ?_;clear hd8;intro _ _ _ _ _ _ hnd)
   exact hnd
  k_extra "w"
  subst hrn
  (refine e_A (I.addRole N (k1:=k1) (k2:=k2) fresh f1 f2 f3 hin hnm hd8) ?_;intro I' S')
  refine ret _ _ _ (R.add r k1 k2) ⟨r,[],[],k1,k2⟩ (by k_asm) (news_sub (by k_asm) ?_) I' S' ⟨rfl,rfl,rfl,rfl,rfl,rfl,rfl,rfl,rfl⟩ (fun _ h=>List.mem_append_left _ h) (List.mem_append_right _ (.head _)) rfl
  exact sub_upd (sub_skip sub_rfl)
end
noncomputable def StrIs (v:Value) (n:Str):Prop:=∃ t,v=.str n t
section
variable {prog:Program} {w:World} {p:Program} {loose:List Str} {mean:ExcName→Option Value} {mg mb:Str→Option Value}
 {dp un:Nat} {gd:Option (List Code)} {cn:Str} {cs:Scope} {a:Addr} {ccd:Value} {cl:List (Str×Addr)} {outer:List Env} {A₀:Around} {base h₀:Heap} {L:Addr} {m:Str→Option Value} {s:Shared} {Q E:Value→Shared→Prop} {news:Led}

theorem get_roles {R:RmA} {os:Led} (K:FnOk prog w R.lam os eqS) (nm:Str) (t:Tok) (hnm:nm∈Names) (B:Below A₀ base outer h₀) (F:Fr h₀ L s.heap m) (X:(Kp w.params).In h₀) (N:News h₀ L s.heap news) (T:Top p loose mean mg mb h₀) (hk:cs.kind=.function) (hdp:dp + 6 < recursionLimit) (hun:un + 48 < cLine)
 (I:RmIn prog w news R) (ho:∀ p∈os,p∈news) (hoff:∀ p∈os,¬ R.own p.1)
 (ret:∀ h' tk' news' R' q k vs,Fr h₀ L h' m→News h₀ L h' ((q,listOf vs.toArray k)::news')→RmIn prog w news' R'→Stp R.own R'.own news news'→RmSame R R' →
  (∀ p∈news',p.1≠q)→F2 StrIs vs (outs R.links nm)→Q (.ref q) { s with heap:=h',toks:=tk' })
 : wpAny (model prog w) (ktrTop dp un gd cn cs L a ccd cl outer) (call (.ref 914) [.ref R.x,.str nm t]) Q E s:=by
 have hx:=I.x
 have hd:=I.d
 (refine call_res ?_;k_extra "kR")
 iterate 10 k_extra "w"
 refine get_role rfl K nm t hnm (by k_asm) (by k_asm) (by k_asm) (by k_asm) (by k_asm) rfl (by ktr_room) (by ktr_units) (I.sub fun p hp=>.tail _ hp) (fun p hp=>.tail _ (ho p hp)) hoff ?_
 intro h5 tk5 news5 R5 r F5 N5 I5 S5 Sm e5 hr ern
 have hinj:∀ q∈R5.roles,∀ q'∈R5.roles,q.a.x=q'.a.x→q=q':=fun q hq q' hq' e=>I5.x_inj N5 hq hq' e
 iterate 3 k_extra "w"
 have hrI:=I5.roles r hr
 have hrx:=hrI.x
 have hrd:=hrI.d
 have hrl:=hrI.l
 refine comp_map (fun v y=>∃ q∈R5.roles,v=.ref q.a.x∧y=.str q.a.nm q.a.tn) (by k_asm) rfl ?_ rfl (by decide) rfl (by decide) (by decide) (by intro _;rfl)
 k_extra "w"
 k_extra "w"
 k_extra "w"
 refine i_E4A6 _ (r.rs.map Value.ref) r.k _ rfl (by k_asm) (by k_asm) (by k_mem) (by refine rwl (List.length_map ..) ?_;have:=I5.rsLen hr;k_extra "ar") ?_ ?_
 ·intro v hv I₁ oI C₁ oC D ys m₂ h tk E' hns hm2 F'' N''
  (refine e_EA (List.mem_map.mp hv) ?_;intro b hb e9_2;subst e9_2)
  (refine e_EAEA2 ((I5.rs r hr).left hb) ?_;intro n _ q hq e9_4 hqn;subst e9_4)
  have hqx:=(I5.roles q hq).x
  have hqd:=(I5.roles q hq).d
  k_extra "w"
  k_extra "w"
  k_extra "w"
  exact i_AE2A2 ⟨q,hq,rfl,rfl⟩ _ _ rfl F'' N''
 ·intro D h tk ys hF F'' N'' hD
  k_extra "w"
  refine ret _ _ news5 R5 D _ ys (by k_asm) (by k_asm) I5 ?_ Sm hD ?_
  ·exact ⟨fun p hp=>S5.keep p (.tail _ hp),fun a ha=>(S5.new a ha).imp id fun h p hp=>h p (.tail _ hp),S5.more⟩
  ·(refine rwr (Sm.links ..) ?_;refine rwr (ern ..) ?_)
   refine (I5.rs r hr).join hF ?_
   intro b n c e8_3 e8_4;(refine e_EA2 (e8_3) ?_;clear e8_3;intro q hq e9_2 e9_3;subst e9_2;subst e9_3);(refine e_EA2 (e8_4) ?_;clear e8_4;intro q' hq' eq e9_3;subst e9_3)
   obtain rfl:=hinj q hq q' hq' (Value.ref.inj eq)
   exact ⟨_,rfl⟩
theorem get_users {R:RmA} {os:Led} (K:FnOk prog w R.lam os eqS) (nm:Str) (t:Tok) (hnm:nm∈Names) (B:Below A₀ base outer h₀) (F:Fr h₀ L s.heap m) (X:(Kp w.params).In h₀) (N:News h₀ L s.heap news) (T:Top p loose mean mg mb h₀) (hk:cs.kind=.function) (hdp:dp + 6 < recursionLimit) (hun:un + 48 < cLine)
 (I:RmIn prog w news R) (ho:∀ p∈os,p∈news) (hoff:∀ p∈os,¬ R.own p.1)
 (ret:∀ h' tk' news' R' q k vs,Fr h₀ L h' m→News h₀ L h' ((q,listOf vs.toArray k)::news')→RmIn prog w news' R'→Stp R.own R'.own news news'→RmSame R R' →
  (∀ p∈news',p.1≠q)→F2 StrIs vs (ins R.links nm)→Q (.ref q) { s with heap:=h',toks:=tk' })
 : wpAny (model prog w) (ktrTop dp un gd cn cs L a ccd cl outer) (call (.ref 919) [.ref R.x,.str nm t]) Q E s:=by
 have hx:=I.x
 have hd:=I.d
 (refine call_res ?_;k_extra "kR")
 iterate 10 k_extra "w"
 refine get_role rfl K nm t hnm (by k_asm) (by k_asm) (by k_asm) (by k_asm) (by k_asm) rfl (by ktr_room) (by ktr_units) (I.sub fun p hp=>.tail _ hp) (fun p hp=>.tail _ (ho p hp)) hoff ?_
 intro h5 tk5 news5 R5 r F5 N5 I5 S5 Sm e5 hr ern
 have hinj:∀ q∈R5.roles,∀ q'∈R5.roles,q.a.x=q'.a.x→q=q':=fun q hq q' hq' e=>I5.x_inj N5 hq hq' e
 iterate 3 k_extra "w"
 have hrI:=I5.roles r hr
 have hrx:=hrI.x
 have hrd:=hrI.d
 have hru:=hrI.u
 refine comp_map (fun v y=>∃ q∈R5.roles,v=.ref q.a.x∧y=.str q.a.nm q.a.tn) (by k_asm) rfl ?_ rfl (by decide) rfl (by decide) (by decide) (by intro _;rfl)
 k_extra "w"
 k_extra "w"
 k_extra "w"
 refine i_E4A6 _ (r.us.map Value.ref) r.k2 _ rfl (by k_asm) (by k_asm) (by k_mem) (by refine rwl (List.length_map ..) ?_;have:=I5.usLen hr;k_extra "ar") ?_ ?_
 ·intro v hv I₁ oI C₁ oC D ys m₂ h tk E' hns hm2 F'' N''
  (refine e_EA (List.mem_map.mp hv) ?_;intro b hb e9_2;subst e9_2)
  (refine e_EAEA2 ((I5.us r hr).left hb) ?_;intro n _ q hq e9_4 hqn;subst e9_4)
  have hqx:=(I5.roles q hq).x
  have hqd:=(I5.roles q hq).d
  k_extra "w"
  k_extra "w"
  k_extra "w"
  exact i_AE2A2 ⟨q,hq,rfl,rfl⟩ _ _ rfl F'' N''
 ·intro D h tk ys hF F'' N'' hD
  k_extra "w"
  refine ret _ _ news5 R5 D _ ys (by k_asm) (by k_asm) I5 ?_ Sm hD ?_
  ·exact ⟨fun p hp=>S5.keep p (.tail _ hp),fun a ha=>(S5.new a ha).imp id fun h p hp=>h p (.tail _ hp),S5.more⟩
  ·(refine rwr (Sm.links ..) ?_;refine rwr (ern ..) ?_)
   refine (I5.us r hr).join hF ?_
   intro b n c e8_3 e8_4;(refine e_EA2 (e8_3) ?_;clear e8_3;intro q hq e9_2 e9_3;subst e9_2;subst e9_3);(refine e_EA2 (e8_4) ?_;clear e8_4;intro q' hq' eq e9_3;subst e9_3)
   obtain rfl:=hinj q hq q' hq' (Value.ref.inj eq)
   exact ⟨_,rfl⟩
end
section
variable {prog:Program} {w:World} {A:Around} {E:Value→Shared→Prop} {s:Shared} {h₀:Heap} {L:Addr} {m:Str→Option Value} {news:Led} {env:Env}
theorem execs_pure {st:Stmt} {rest:List Stmt} {Q:Flow→Shared→Prop} (F:Fr h₀ L s.heap m) (N:News h₀ L s.heap news)
  (h1:wpAny (model prog w) A (exec st env) (fun f s'=>f=.next∧∃ h' tk',s'={ s with heap:=h',toks:=tk' }∧Fr h₀ L h' m∧News h₀ L h' news) E s)
  (h2:∀ h' tk',Fr h₀ L h' m→News h₀ L h' news→wpAny (model prog w) A (execs rest env) Q E { s with heap:=h',toks:=tk' }):wpAny (model prog w) A (execs (st::rest) env) Q E s:=by
 refine wpAny_execs_cons (wpAny_mono h1 (fun f s' r=>?_) fun _ _ e=>e)
 (refine e_AE2A2 (r) ?_;clear r;intro e9_0 h' tk' e9_3 F' N';subst e9_0;subst e9_3)
 exact h2 h' tk' F' N'
end
theorem ite_both {c:Prop} [Decidable c] {P Q:Prop} (h1:c→P) (h2:¬ c→Q):if c then P else Q:=by
 by_cases h:c
 ·refine rwl (if_pos h ..) ?_;exact h1 h
 ·refine rwl (if_neg h ..) ?_;exact h2 h
theorem refs_push (l:List Addr) (T:Addr) (k:Nat):listOf ((l.map Value.ref).toArray.push (.ref T)) k=refsO (l++[T]) k:=by simp [refsO]
section
variable {prog:Program} {w:World} {h₀ h:Heap} {L:Addr} {news:Led} {R:RmA}
theorem RmIn.instsR (I:RmIn prog w news R) {r:RoleS} (hr:r∈R.roles):InstsIn 814 r.rs news:=fun b hb=>by
 (refine e_EAEA2 ((I.rs r hr).left hb) ?_;intro n _ p hp e9_4 _;subst e9_4)
 exact ⟨_,(I.roles p hp).x⟩
theorem RmIn.instsU (I:RmIn prog w news R) {r:RoleS} (hr:r∈R.roles):InstsIn 814 r.us news:=fun b hb=>by
 (refine e_EAEA2 ((I.us r hr).left hb) ?_;intro n _ p hp e9_4 _;subst e9_4)
 exact ⟨_,(I.roles p hp).x⟩
end
section
variable {prog:Program} {w:World} {p:Program} {loose:List Str} {mean:ExcName→Option Value} {mg mb:Str→Option Value}
 {dp un:Nat} {gd:Option (List Code)} {cn:Str} {cs:Scope} {a:Addr} {ccd:Value} {cl:List (Str×Addr)} {outer:List Env} {A₀:Around} {base h₀:Heap} {L:Addr} {m:Str→Option Value} {s:Shared} {Q E:Value→Shared→Prop} {news:Led}

noncomputable def addBody:List Stmt:=match stA 16 8 with
 | .FunctionDef _ _ body _ _ _ _ _ _ _=>body
 | _=>[]
noncomputable def addScope:Scope:=match stA 16 8 with
 | .FunctionDef _ _ _ _ _ _ scope _ _ _=>scope
 | _=>default
theorem rm_add_body {R:RmA} {os:Led} (K:FnOk prog w R.lam os eqS) (n1 n2:Str) (t1 t2:Tok) (hn1:n1∈Names) (hn2:n2∈Names) {mm:Str→Option Value} (QF:Flow→Shared→Prop)
 (B:Below A₀ base outer h₀) (F:Fr h₀ L s.heap mm) (X:(Kp w.params).In h₀) (N:News h₀ L s.heap news) (T:Top p loose mean mg mb h₀) (hdp:dp + 5 < recursionLimit) (hun:un + 40 < cLine)
 (m1:mm "self"=some (.ref R.x)) (m2:mm "name1"=some (.str n1 t1)) (m3:mm "name2"=some (.str n2 t2))
 (I:RmIn prog w news R) (ho:∀ p∈os,p∈news) (hoff:∀ p∈os,¬ R.own p.1) (hseq:R.seq=R.links) (hno:(n1,n2) ∉ R.links) (hlen:R.links.length≤19)
 (hE:PassesOwn (model prog w) (ktrTop dp un gd "RoleManager.add_link" addScope L a ccd [] outer) (envX "RoleManager.add_link" addScope L a ccd []) E)
 (ret:∀ h' tk' m' news' R',Fr h₀ L h' m'→News h₀ L h' news'→RmIn prog w news' R'→Stp R.own R'.own news news'→R'.x=R.x→R'.lam=R.lam→R'.lvl=R.lvl→R'.seq=R'.links→R'.links=R.links++[(n1,n2)] →
  QF .next { s with heap:=h',toks:=tk' })
 : wpAny (model prog w) (ktrTop dp un gd "RoleManager.add_link" addScope L a ccd [] outer) (execs addBody (envX "RoleManager.add_link" addScope L a ccd [])) QF E s:=by
 refine (let A1:=_;(?_:wpAny _ A1 _ _ _ _))
 refine (let m1:=_;fun (F1:Fr _ _ _ m1)=>?_) (fr_on m1 (fr_on m2 (fr_on m3 F)));clear F;rename Fr _ _ _ _=>F
 conv in addBody=>whnf
 conv in (occs:=*) addScope=>all_goals whnf
 have hx:=I.x
 have hd:=I.d
 have hal:=I.al
 iterate 15 k_extra "w"
 refine kup_newTuple (by k_asm) (by k_asm) ?_ (by exact Nat.le_of_ble_eq_true rfl)
 intro T h5 F5 N5 lT
 k_extra "w"
 refine append_upd (its:=(R.tups.map Value.ref).toArray) (n:=R.kl) (by k_asm) (by k_asm) (by k_mem) ?_ (by (refine rwl (List.size_toArray ..) ?_;refine rwl (List.length_map ..) ?_;refine rwl (I.tup.length ..) ?_;refine rwl (sizeLine_eq ..) ?_);have:=I.few2;k_extra "ar")
 intro h6 F6 N6
 rw [refs_push] at N6
 (refine e_A (I.push (news_sub N5 fun p hp=>.tail _ hp) (T:=T) (l:=(n1,n2)) (ta:=t1) (tb:=t2) (nt:=0) (fun p hp=>Nat.ne_of_lt (lT p hp)) (by refine rwl (hseq ..) ?_;exact hlen)) ?_;intro I1 S1)
 have hx1:(R.x,instObj 929 R.d)∈_:=I1.x
 have hd1:(R.d,rmD w.params R)∈_:=I1.d
 generalize hL6:upd R.al (refsO (R.tups++[T]) (R.kl + 1)) ((T,pairO n1 n2 t1 t2 0)::news)=news6 at N6 I1 S1 hx1 hd1
 have ho6:∀ p∈os,p∈news6:=fun p hp=>S1.keep p (ho p hp) (hoff p hp)
 iterate 10 k_extra "w"
 refine get_role (R:=R.push T (n1,n2)) rfl K n1 t1 hn1 (by k_asm) (by k_asm) (by k_asm) (by k_asm) (by k_asm) rfl (by ktr_room) (by ktr_units) I1 ho6 (fun p hp h=>(S1.new _ h).elim (hoff p hp) fun f=>f p (ho p hp) rfl) ?_
 intro h7 tk7 news7 R7 u F7 N7 I7 S7 Sm7 e7 hu7 un7
 have hx7:(R.x,instObj 929 R7.d)∈news7:=by have:=I7.x;rw [Sm7.x] at this;exact this
 have hd7:=I7.d
 have ho7:∀ p∈os,p∈news7:=fun p hp=>S7.keep p (ho6 p hp) fun h=>(S1.new _ h).elim (hoff p hp) fun f=>f p (ho p hp) rfl
 have S17:=S1.trans S7
 have hlam7:R7.lam=R.lam:=Sm7.lam
 iterate 11 k_extra "w"
 refine get_role (R:=R7) Sm7.x (hlam7▸K) n2 t2 hn2 (by k_asm) (by k_asm) (by k_asm) (by k_asm) (by k_asm) rfl (by ktr_room) (by ktr_units) I7 ho7 (fun p hp h=>(S17.new _ h).elim (hoff p hp) fun f=>f p (ho p hp) rfl) ?_
 intro h8 tk8 news8 R8 v F8 N8 I8 S8 Sm8 e8 hv8 vn8
 have hx8:(R.x,instObj 929 R8.d)∈news8:=by have:=I8.x;rw [Sm8.x,Sm7.x] at this;exact this
 have hd8:=I8.d
 have S18:=S17.trans S8
 have hu8:=e8 u hu7
 have Ju:=I8.roles u hu8
 have Jv:=I8.roles v hv8
 have ux:=Ju.x
 have ud:=Ju.d
 have ul:=Ju.l
 have vx:=Jv.x
 have vd:=Jv.d
 have vu:=Jv.u
 have hinj8:∀ a∈R8.roles,∀ b∈R8.roles,a.a.x=b.a.x→a=b:=fun a ha b hb e=>I8.x_inj N8 ha hb e
 have hdinj8:∀ a∈R8.roles,∀ b∈R8.roles,a.a.d=b.a.d→a=b:=fun a ha b hb e=>I8.d_inj N8 ha hb e
 have lk8:=fun (q q2:Addr) (fq:∀ p∈news8,p.1≠q) (fq2:∀ p∈news8,p.1≠q2) (hqq:q≠q2)=>I8.linked N8 hu8 hv8 fq fq2 hqq (by (refine rwl (Sm8.links ..) ?_;refine rwl (Sm7.links ..) ?_;refine rwl (un7 ..) ?_;refine rwl (vn8 ..) ?_);exact hno) (by (refine rwl (Sm8.links ..) ?_;refine rwl (Sm7.links ..) ?_);exact hlen) rfl
 iterate 11 k_extra "w"
 refine add_role u.a v.a (fun e=>by (refine rwl (hinj8 v hv8 u hu8 e ..) ?_;with_reducible rfl)) u.rs v.us u.k v.k2 (by k_asm) (by k_asm) (by k_asm) (by k_asm) (by k_asm) rfl (by ktr_room) (by ktr_units) ux ud ul (by have:=I8.rsLen hu8;k_extra "ar") (I8.instsR hu8) vx vd vu (by have:=I8.usLen hv8;k_extra "ar") (I8.instsU hv8) (fun e=>by (refine rwl (hdinj8 v hv8 u hu8 e ..) ?_;with_reducible rfl)) ?_
 intro h9 tk9 q q2 F9 fq fq2 hqq N9
 (refine e_A (lk8 q q2 fq fq2 hqq) ?_;intro I9 S9)
 generalize hL9:upd v.a.d _ _=news9 at N9 I9 S9
 have S19:=S18.trans S9
 have hx9:(R.x,instObj 929 R8.d)∈news9:=by have:=I9.x;rw [show (R8.two _ _ _ _ _ _ _ _ _).x=R8.x from rfl,Sm8.x,Sm7.x] at this;exact this
 have hd9:(R8.d,rmD w.params R8)∈news9:=I9.d
 have hlam8:R8.lam=R.lam:=Sm8.lam.trans hlam7
 have ho9:∀ p∈os,p∈news9:=fun p hp=>S19.keep p (ho p hp) (hoff p hp)
 iterate 7 k_extra "w"
 refine ne_fn_none ((hlam8▸K).ty (by k_asm) (Fr.keep (by k_asm)) (by k_asm) ho9) (by ktr_units) ?_
 iterate 3 k_extra "w"
 (refine e_EA (I9.ar) ?_;intro oar9 har9 hod9)
 have hlo9:=I9.lo
 obtain ⟨u9,hu9,eux,eud,eun⟩:∃ z∈(R8.two u.a.x v.a.x q q2 (fun l=>(l.filter fun b=>b != v.a.x)++[v.a.x]) (fun l=>(l.filter fun b=>b != u.a.x)++[u.a.x]) 0 0 (R8.links++[(u.a.nm,v.a.nm)])).roles,z.a.x=u.a.x∧z.a.d=u.a.d∧z.a.nm=n1:=⟨_,List.mem_map_of_mem hu8,(two_x u).1,(two_x u).2.1,(two_x u).2.2.trans un7⟩
 obtain ⟨v9,hv9,evx,evd,evn⟩:∃ z∈(R8.two u.a.x v.a.x q q2 (fun l=>(l.filter fun b=>b != v.a.x)++[v.a.x]) (fun l=>(l.filter fun b=>b != u.a.x)++[u.a.x]) 0 0 (R8.links++[(u.a.nm,v.a.nm)])).roles,z.a.x=v.a.x∧z.a.d=v.a.d∧z.a.nm=n2:=⟨_,List.mem_map_of_mem hv8,(two_x v).1,(two_x v).2.1,(two_x v).2.2.trans vn8⟩
 have u9x:=(I9.roles u9 hu9).x
 have u9d:=(I9.roles u9 hu9).d
 have v9x:=(I9.roles v9 hv9).x
 have v9d:=(I9.roles v9 hv9).d
 rw [eux,eud] at u9x
 rw [eud] at u9d
 rw [evx,evd] at v9x
 rw [evd] at v9d
 have hnms9:=I9.names
 have hroles9:=I9.roles
 have hl9:(R8.two u.a.x v.a.x q q2 (fun l=>(l.filter fun b=>b != v.a.x)++[v.a.x]) (fun l=>(l.filter fun b=>b != u.a.x)++[u.a.x]) 0 0 (R8.links++[(u.a.nm,v.a.nm)])).links=R.links++[(n1,n2)]:=by show R8.links++[(u.a.nm,v.a.nm)]=_;(refine rwl (un7 ..) ?_;refine rwl (vn8 ..) ?_;refine rwl (Sm8.links ..) ?_;refine rwl (Sm7.links ..) ?_);rfl
 have hs9:(R8.two u.a.x v.a.x q q2 (fun l=>(l.filter fun b=>b != v.a.x)++[v.a.x]) (fun l=>(l.filter fun b=>b != u.a.x)++[u.a.x]) 0 0 (R8.links++[(u.a.nm,v.a.nm)])).seq=R.links++[(n1,n2)]:=by show R8.seq=_;(refine rwl (Sm8.seq ..) ?_;refine rwl (Sm7.seq ..) ?_);show R.seq++_=_;(refine rwl (hseq ..) ?_;with_reducible rfl)
 generalize hR9:R8.two u.a.x v.a.x q q2 (fun l=>(l.filter fun b=>b != v.a.x)++[v.a.x]) (fun l=>(l.filter fun b=>b != u.a.x)++[u.a.x]) 0 0 (R8.links++[(u.a.nm,v.a.nm)])=R9 at I9 S9 S19 har9 hod9 hlo9 hu9 hv9 hnms9 hroles9 hl9 hs9
 have e9x:R9.x=R.x:=by refine rwr (hR9 ..) ?_;show R8.x=_;(refine rwl (Sm8.x ..) ?_;refine rwl (Sm7.x ..) ?_);rfl
 have e9d:R9.d=R8.d:=by refine rwr (hR9 ..) ?_;rfl
 have e9m:R9.lam=R.lam:=by refine rwr (hR9 ..) ?_;exact hlam8
 have e9v:R9.lvl=R.lvl:=by refine rwr (hR9 ..) ?_;show R8.lvl=_;(refine rwl (Sm8.lvl ..) ?_;refine rwl (Sm7.lvl ..) ?_);rfl
 have e9a:R9.ar=R8.ar:=by refine rwr (hR9 ..) ?_;rfl
 rw [e9a] at har9 hlo9
 refine for_values_pure h₀ ?_ rfl rfl (by intro _;rfl) hE
 iterate 4 k_extra "w"
 refine kdl_method (knd:=PySem.strKind _ _) PySem.F.slot_dict_values PySem.F.type_dict_values (by k_asm) har9 hod9 ?_
 k_extra "w"
 refine kdl_view_values (knd:=strKind _ _) (by k_asm) (by k_asm) har9 hod9 hlo9 ?_
 intro vw h10 F10 N10 l10
 refine fun _ kM=>kM vw _ _ _ _ _ rfl rfl (by k_asm) (by k_asm) (by k_mem) (.tail _ har9) hod9 ?_ ?_
 ·intro k vv I₁ oI h11 tk11 hkv F11 N11
  (refine e_EA (List.mem_map.mp hkv) ?_;intro r hr e)
  cases e
  have rx:=(hroles9 r hr).x
  have rd:=(hroles9 r hr).d
  have rnm:=hnms9 r hr
  refine execs_pure F11 N11 ?_ ?_
  ·iterate 11 k_extra "w"
   refine ite_both (fun hne=>?_) (fun hne=>?_)
   ·iterate 20 k_extra "w"
    refine mfn_ps e9x (e9m▸K) u9.a.nm r.a.nm u9.a.tn r.a.tn (by refine rwl (eun ..) ?_;exact names_short hn1) (names_short rnm) (by k_asm) (by k_asm) (by k_asm) (by k_asm) (by k_asm) rfl (by ktr_room) (by ktr_units) (.tail _ (.tail _ I9.x)) (.tail _ (.tail _ I9.d)) (fun p hp=>.tail _ (.tail _ (ho9 p hp))) ?_
    intro h12 tk12 F12 N12
    refine rwl (show (r.a.nm == u9.a.nm)=false from by simpa using hne) ?_
    k_steps
    all_goals first | k_asm | rfl
   ·k_steps
    all_goals first | k_asm | rfl
  intro h13 tk13 F13 N13
  iterate 12 k_extra "w"
  refine ite_both (fun hne=>?_) (fun hne=>?_)
  ·iterate 20 k_extra "w"
   refine mfn_ps e9x (e9m▸K) v9.a.nm r.a.nm v9.a.tn r.a.tn (by refine rwl (evn ..) ?_;exact names_short hn2) (names_short rnm) (by k_asm) (by k_asm) (by k_asm) (by k_asm) (by k_asm) rfl (by ktr_room) (by ktr_units) (.tail _ (.tail _ I9.x)) (.tail _ (.tail _ I9.d)) (fun p hp=>.tail _ (.tail _ (ho9 p hp))) ?_
   intro h12 tk12 F12 N12
   refine rwl (show (r.a.nm == v9.a.nm)=false from by simpa using hne) ?_
   k_steps
   all_goals first | k_asm | rfl
  ·k_steps
   all_goals first | k_asm | rfl
 ·intro h11 tk11 o F11 N11
  k_steps
  exact ret _ _ _ news9 R9 (by k_asm) (news_sub (by k_asm) fun p hp=>by k_mem) I9 S19 e9x e9m e9v (hs9.trans hl9.symm) hl9
theorem rm_add_link0 {R:RmA} {os:Led} (K:FnOk prog w R.lam os eqS) (n1 n2:Str) (t1 t2:Tok)  (hn1:n1∈Names) (hn2:n2∈Names) (B:Below A₀ base outer h₀) (F:Fr h₀ L s.heap m) (X:(Kp w.params).In h₀) (N:News h₀ L s.heap news) (T:Top p loose mean mg mb h₀) (hk:cs.kind=.function) (hdp:dp + 6 < recursionLimit) (hun:un + 48 < cLine)
 (I:RmIn prog w news R) (ho:∀ p∈os,p∈news) (hoff:∀ p∈os,¬ R.own p.1) (hseq:R.seq=R.links) (hno:(n1,n2) ∉ R.links) (hlen:R.links.length≤19)
 (ret:∀ h' tk' news' R',Fr h₀ L h' m→News h₀ L h' news'→RmIn prog w news' R'→Stp R.own R'.own news news'→R'.x=R.x→R'.lam=R.lam→R'.lvl=R.lvl→R'.seq=R'.links→R'.links=R.links++[(n1,n2)] →
  Q .none { s with heap:=h',toks:=tk' })
 : wpAny (model prog w) (ktrTop dp un gd cn cs L a ccd cl outer) (call (.ref 890) [.ref R.x,.str n1 t1,.str n2 t2]) Q E s:=by
 (refine call_res ?_;k_extra "kR")
 refine rm_add_body K n1 n2 t1 t2 hn1 hn2 _ (by k_asm) (by k_asm) (by k_asm) (by k_asm) (by k_asm) (by ktr_room) (by ktr_units) rfl rfl rfl (I.sub fun p hp=>.tail _ hp) (fun p hp=>.tail _ (ho p hp)) hoff hseq hno hlen (by passes_own) ?_
 intro h5 tk5 m5 news5 R5 F5 N5 I5 S5 e1 e2 e3 e4 e5
 k_extra "w"
 exact ret _ _ news5 R5 (by k_asm) (news_sub (by k_asm) fun p hp=>by k_mem) I5 ⟨fun p hp=>S5.keep p (.tail _ hp),fun a ha=>(S5.new a ha).imp id fun h p hp=>h p (.tail _ hp),S5.more⟩ e1 e2 e3 e4 e5
theorem rm_add_link1 {R:RmA} {os:Led} (K:FnOk prog w R.lam os eqS) (n1 n2:Str) (t1 t2:Tok) (dm:Str) (td:Tok) (hn1:n1∈Names) (hn2:n2∈Names) (B:Below A₀ base outer h₀) (F:Fr h₀ L s.heap m) (X:(Kp w.params).In h₀) (N:News h₀ L s.heap news) (T:Top p loose mean mg mb h₀) (hk:cs.kind=.function) (hdp:dp + 6 < recursionLimit) (hun:un + 48 < cLine)
 (I:RmIn prog w news R) (ho:∀ p∈os,p∈news) (hoff:∀ p∈os,¬ R.own p.1) (hseq:R.seq=R.links) (hno:(n1,n2) ∉ R.links) (hlen:R.links.length≤19)
 (ret:∀ h' tk' news' R',Fr h₀ L h' m→News h₀ L h' news'→RmIn prog w news' R'→Stp R.own R'.own news news'→R'.x=R.x→R'.lam=R.lam→R'.lvl=R.lvl→R'.seq=R'.links→R'.links=R.links++[(n1,n2)] →
  Q .none { s with heap:=h',toks:=tk' })
 : codeAny (model prog w) (ktrTop dp un gd cn cs L a ccd cl outer) (.call (.ref 890) ⟨[.ref R.x,.str n1 t1,.str n2 t2,.str dm td],[]⟩) (kRes Q E) s:=by
 k_extra "kR"
 refine rm_add_body K n1 n2 t1 t2 hn1 hn2 _ (by k_asm) (by k_asm) (by k_asm) (by k_asm) (by k_asm) (by ktr_room) (by ktr_units) rfl rfl rfl (I.sub fun p hp=>.tail _ hp) (fun p hp=>.tail _ (ho p hp)) hoff hseq hno hlen (by passes_own) ?_
 intro h5 tk5 m5 news5 R5 F5 N5 I5 S5 e1 e2 e3 e4 e5
 k_extra "w"
 exact ret _ _ news5 R5 (by k_asm) (news_sub (by k_asm) fun p hp=>by k_mem) I5 ⟨fun p hp=>S5.keep p (.tail _ hp),fun a ha=>(S5.new a ha).imp id fun h p hp=>h p (.tail _ hp),S5.more⟩ e1 e2 e3 e4 e5
end
section
variable {prog:Program} {w:World} {A:Around} {E:Value→Shared→Prop} {s:Shared} {env:Env}
noncomputable def ForStepX (h₀:Heap) (L:Addr) (S:Led→Prop) (J:Nat→Led→Prop) (G:Shared→Prop) (Q:Flow→Shared→Prop) (I:Addr) (oI:Obj) (i:Nat) (m:Str→Option Value) (f:Flow) (s₂:Shared):Prop:=match f with
 | .ret v=>Q (.ret v) s₂
 | .brk=>Q .next s₂
 | _=>∃ news',G s₂∧Fr h₀ L s₂.heap m∧News h₀ L s₂.heap ((I,oI)::news')∧(∀ p∈news',p.1≠I)∧S news'∧J (i + 1) news'
theorem ite_self {α:Type} {x:Str} {m₀:Str→Option α} {v o:Option α}:(fun y=>if y=x then v else if y=x then o else m₀ y)=fun y=>if y=x then v else m₀ y:=by
 funext y
 by_cases e:y=x
 ·(refine rwl (if_pos e ..) ?_;refine rwl (if_pos e ..) ?_;with_reducible rfl)
 ·(refine rwl (if_neg e ..) ?_;refine rwl (if_neg e ..) ?_;refine rwl (if_neg e ..) ?_;with_reducible rfl)
theorem ite_eta {α:Type} {x:Str} {m₀:Str→Option α}:m₀=fun y=>if y=x then m₀ x else m₀ y:=by
 funext y
 by_cases e:y=x
 ·(refine rwl (if_pos e ..) ?_;refine rwl (e ..) ?_;with_reducible rfl)
 ·(refine rwl (if_neg e ..) ?_;with_reducible rfl)
def ForListX (prog:Program) (w:World) (A:Around) (h₀:Heap) (env:Env) (x:Str) (body:List Stmt) (Q:Flow→Shared→Prop) (E:Value→Shared→Prop) (xv:Value) (s₁:Shared):Prop:=∀ Zp:Prop,(∀ (J:Nat→Led→Prop) (G:Shared→Prop) (ax:Addr) (its:List Value) (k:Nat) (m₀:Str→Option Value) (news₀:Led),(Closed G)→(xv=.ref ax)→(G s₁)→(A.handled=none)→(Fr h₀ env.locals s₁.heap m₀)→(News h₀ env.locals s₁.heap news₀)→((ax,listOf its.toArray k)∈news₀)→(J 0 news₀)→((∀ i v news₁ s₂ I oI,G s₂→its[i]?=some v→J i news₁→(ax,listOf its.toArray k)∈news₁→(∀ p∈news₁,p.1≠I)→Fr h₀ env.locals s₂.heap (fun y=>if y=x then some v else m₀ y)→News h₀ env.locals s₂.heap ((I,oI)::news₁)→wpAny (model prog w) A (execs body env) (ForStepX h₀ env.locals (fun nw=>(ax,listOf its.toArray k)∈nw) J G Q I oI i (fun y=>if y=x then some v else m₀ y)) E s₂))→(∀ s' o news',G s'→Fr h₀ env.locals s'.heap (fun y=>if y=x then o else m₀ y)→News h₀ env.locals s'.heap news'→J its.length news'→Q .next s')→Zp)→Zp
theorem for_list_x {Q:Flow→Shared→Prop} {x:Str} {px pos:Pos} {iter:Expr} {body:List Stmt} (h₀:Heap)
  (h:wpAny (model prog w) A (eval iter env) (ForListX prog w A h₀ env x body Q E) E s)
  (hx:env.kindOf x=some .local) (hp:(env.scope.kind == .class || (env.scope.kind == .module && env.locals != env.globals))=false)
  (hs:∀ x,foldedSetIterable iter env x=pure x)
  (hE:PassesOwn (model prog w) A env E) :
  wpAny (model prog w) A (exec (.For (.Name x px) iter body [] pos) env) Q E s:=by
 refine for_list h₀ (wpAny_mono h (fun xv s₁ h₁=>?_) fun _ _ e=>e) hx hp hs hE
 (refine h₁ _ ?_;clear h₁;intro J G ax its k m₀ news₀ hG e9_8 hg hh F N hm hJ step fin;subst e9_8)
 refine fun _ kM=>kM (fun i m' nw=>J i nw∧∃ o,m'=fun y=>if y=x then o else m₀ y) G ax its k m₀ news₀ hG rfl hg hh F N hm ⟨hJ,m₀ x,ite_eta⟩ ?_ ?_
 ·intro i v m₁ news₁ s₂ I oI hg hv e8_9 hS off F' N';(refine e_AE (e8_9) ?_;clear e8_9;intro hJ o e9_2;subst e9_2)
  replace F':=(ite_self ..)▸F'
  refine wpAny_mono (step i v news₁ s₂ I oI hg hv hJ hS off F' N') (fun f s₃ r=>?_) fun _ _ e=>e
  cases f with
  | ret v=>exact r
  | brk=>exact r
  | cont=>(refine e_EA5 (r) ?_;clear r;intro nw a b c d e f);exact i_E2A6E _ nw a b c d e f (some v) rfl
  | next=>(refine e_EA5 (r) ?_;clear r;intro nw a b c d e f);exact i_E2A6E _ nw a b c d e f (some v) rfl
 ·intro s' m' news' hg F' N' e8_6;(refine e_AE (e8_6) ?_;clear e8_6;intro hJ o e9_2;subst e9_2)
  exact fin s' o news' hg F' N' hJ
end
noncomputable def lsOf (pls:List PlS) (dm:Str):List (Str×Str):=match pls.find? (·.nm == dm) with
 | some q=>q.ls
 | none=>[]
noncomputable def exts (cov:Bool) (dm:Str):List PlS→List (Str×Str)
 | []=>[]
 | q::r=>(if (dm != q.nm && (cov && covS dm q.nm))=true then q.ls else [])++exts cov dm r
theorem exts_n {cov:Bool} {dm:Str}:exts cov dm []=[]:=rfl
theorem exts_c {cov:Bool} {dm:Str} {q:PlS} {r:List PlS}:exts cov dm (q::r)=(if (dm != q.nm && (cov && covS dm q.nm))=true then q.ls else [])++exts cov dm r:=rfl
noncomputable def colL (D:DmA) (cov:Bool) (dm:Str):List (Str×Str):=lsOf D.pls dm++exts cov dm D.pls
theorem exts_snoc {cov:Bool} {dm:Str} {q:PlS}:∀ {l:List PlS},exts cov dm (l++[q])=exts cov dm l++(if (dm != q.nm && (cov && covS dm q.nm))=true then q.ls else [])
 | []=>by simp [exts_n,exts_c]
 | r::l=>by (refine rwl (List.cons_append ..) ?_;(first | rewrite [exts_c] | rewrite [exts_n]);refine rwl (exts_snoc ..) ?_;(first | rewrite [exts_c] | rewrite [exts_n]);refine rwl (List.append_assoc ..) ?_;with_reducible rfl)
theorem exts_take {cov:Bool} {dm:Str}:∀ {l:List PlS} {i:Nat},(exts cov dm (l.take i)).length≤(exts cov dm l).length
 | [],i=>by refine rwl (List.take_nil ..) ?_;exact Nat.le_refl _
 | q::l,0=>by refine rwl (List.take_zero ..) ?_;exact Nat.zero_le _
 | q::l,i + 1=>by
  (refine rwl (List.take_succ_cons ..) ?_;(first | rewrite [exts_c] | rewrite [exts_n]);(first | rewrite [exts_c] | rewrite [exts_n]);refine rwl (List.length_append ..) ?_;refine rwl (List.length_append ..) ?_)
  have:=exts_take (cov:=cov) (dm:=dm) (l:=l) (i:=i)
  k_extra "ar"
theorem fr_put3 {h₀ h:Heap} {L:Addr} {a b c:Str} {o1 o2 o3 p3:Option Value} {m₀:Str→Option Value} (hac:c≠a) (hbc:c≠b) (F:Fr h₀ L h (fun y=>if y=c then p3 else nf3 a b c o1 o2 o3 m₀ y)):Fr h₀ L h (nf3 a b c o1 o2 p3 m₀):=by
 rw [nf3_put hac hbc] at F;exact F
theorem exts_off {dm:Str}:∀ {l:List PlS},exts false dm l=[]
 | []=>rfl
 | q::l=>by ((first | rewrite [exts_c] | rewrite [exts_n]);refine rwl (exts_off ..) ?_);simp
theorem lsOf_mem {dm:Str}:∀ {pls:List PlS},(pls.map (·.nm)).Nodup→∀ {r:PlS},r∈pls→r.nm=dm→lsOf pls dm=r.ls
 | [],_,_,h,_=>nomatch h
 | q::l,hn,r,h,e=>by
  rw [List.map_cons,List.nodup_cons] at hn
  unfold lsOf
  refine rwl (List.find?_cons ..) ?_
  by_cases hq:q.nm=dm
  ·refine rwl (beq_iff_eq.mpr hq ..) ?_
   rcases List.mem_cons.mp h with rfl | h
   ·rfl
   ·exact absurd (by (refine rwl (hq ..) ?_;refine rwr (e ..) ?_);exact List.mem_map_of_mem (f:=fun q:PlS=>q.nm) h) hn.1
  ·refine rwl (beq_eq_false_iff_ne.mpr hq ..) ?_
   rcases List.mem_cons.mp h with rfl | h
   ·exact absurd e hq
   ·exact lsOf_mem hn.2 h e
theorem lsOf_none {dm:Str}:∀ {pls:List PlS},dm ∉ pls.map (·.nm)→lsOf pls dm=[]
 | [],_=>rfl
 | q::l,h=>by
  rw [List.map_cons,List.mem_cons,not_or] at h
  unfold lsOf
  (refine rwl (List.find?_cons ..) ?_;refine rwl (beq_eq_false_iff_ne.mpr (Ne.symm h.1) ..) ?_)
  exact lsOf_none h.2
theorem DmMem.getLs {prog:Program} {w:World} {news:Led} {D:DmA} (M:DmMem prog w news D) (dm:Str) (l7:Addr) (k7:Nat):∃ dl tups k,(valueAt (D.pls.map fun q=>(q.nm,Value.ref q.a)) dm).getD (.ref l7)=.ref dl∧(dl,refsO tups k)∈(l7,refsO [] k7)::news∧TupsIn news tups (lsOf D.pls dm):=by
 by_cases hin:dm∈D.pls.map (·.nm)
 ·(refine e_EA (List.mem_map.mp hin) ?_;intro r hr e9_2;subst e9_2)
  (refine rwl (valueAt_mem (mf_nd M.plnd) (List.mem_map_of_mem (f:=fun q:PlS=>(q.nm,Value.ref q.a)) hr) ..) ?_;refine rwl (lsOf_mem M.plnd hr rfl ..) ?_)
  exact i_E3A2 r.a r.tups r.k rfl (.tail _ (M.pls r hr).a) ((M.pls r hr).tup)
 ·(refine rwl (valueAt_none (mf_in hin) ..) ?_;refine rwl (lsOf_none hin ..) ?_)
  exact i_E3A2 l7 ([]) k7 rfl (.head _) .nil
theorem pack {h₀ h:Heap} {L:Addr} {big sm:Led} {q:Addr×Obj} (N:News h₀ L h big) (hs:∀ p∈sm,p∈big) (hq:q∈big):∃ nw,News h₀ L h nw∧(∀ p∈sm,p∈nw)∧q∈nw:=⟨big,N,hs,hq⟩
theorem exts_mem {cov:Bool} {dm:Str} {l:Str×Str}:∀ {pls:List PlS},l∈exts cov dm pls→∃ q∈pls,l∈q.ls
 | [],h=>nomatch h
 | q::r,h=>by
  (first | rw [exts_c] at h | rw [exts_n] at h)
  rcases List.mem_append.mp h with h | h
  ·split at h
   ·exact ⟨q,.head _,h⟩
   ·nomatch h
  ·(refine e_EA (exts_mem h) ?_;intro q' h1 h2)
   exact ⟨q',.tail _ h1,h2⟩
theorem lsOf_sub {dm:Str} {l:Str×Str} {pls:List PlS} (h:l∈lsOf pls dm):∃ q∈pls,l∈q.ls:=by
 unfold lsOf at h
 split at h
 ·rename_i q hq
  exact ⟨q,List.mem_of_find?_eq_some hq,h⟩
 ·nomatch h
theorem DmMem.namesC {prog:Program} {w:World} {news:Led} {D:DmA} (M:DmMem prog w news D) (cov:Bool) (dm:Str):NamesL (colL D cov dm):=fun l hl=>by
 rcases List.mem_append.mp hl with h | h
 ·(refine e_EA (lsOf_sub h) ?_;intro q hq h)
  exact (M.pls q hq).nms l h
 ·(refine e_EA (exts_mem h) ?_;intro q hq h)
  exact (M.pls q hq).nms l h
section
variable {prog:Program} {w:World} {p:Program} {loose:List Str} {mean:ExcName→Option Value} {mg mb:Str→Option Value}
 {dp un:Nat} {gd:Option (List Code)} {cn:Str} {cs:Scope} {a:Addr} {ccd:Value} {cl:List (Str×Addr)} {outer:List Env} {A₀:Around} {base h₀:Heap} {L:Addr} {m:Str→Option Value} {s:Shared} {Q E:Value→Shared→Prop} {news:Led}

theorem get_rm_b {D:DmA} {x:Addr} (hxe:D.x=x) (cov:Bool) (hcov:D.fn=if cov then .ref 1177 else .none) (dm:Str) (t:Tok) (hdm:dm∈Places) (B:Below A₀ base outer h₀) (F:Fr h₀ L s.heap m) (X:(Kp w.params).In h₀) (N:News h₀ L s.heap news) (T:Top p loose mean mg mb h₀) (hk:cs.kind=.function) (hdp:dp + 30 < recursionLimit) (hun:un + 240 < cLine) (M:DmMem prog w news D)
 (hcol:(colL D cov dm).Nodup) (hfew:(colL D cov dm).length≤10)
 (ret:∀ h' tk' news' R,Fr h₀ L h' m→News h₀ L h' news'→(∀ p∈news,p∈news')→RmOf prog w news' D.lam D.lvl (dm,R)→(∀ a,R.own a→∀ p∈news,p.1≠a)→R.links=colL D cov dm→Q (.ref R.x) { s with heap:=h',toks:=tk' })
 : codeAny (model prog w) (ktrTop dp un gd cn cs L a ccd cl outer) (.call (.ref 982) ⟨[.ref x,.str dm t],[]⟩) (kRes Q E) s:=by
 subst hxe
 have hx:=M.x
 have hd:=M.d
 (refine e_EA (M.al) ?_;intro oal hal dal)
 have loa:=M.loa
 k_extra "kR"
 iterate 2 k_extra "w"
 k_extra "kS1"
 refine get_dom1 D.x dm t (by k_asm) (by k_asm) (by k_asm) (by k_asm) (by k_asm) rfl (by ktr_room) (by ktr_units) ?_
 intro h5 tk5 F5 N5
 iterate 7 k_extra "w"
 refine kdl_method (knd:=PySem.strKind _ _) PySem.F.slot_dict_get PySem.F.type_dict_get (by k_asm) (by k_mem) dal ?_
 iterate 8 k_extra "w"
 rename_i l7 h7 F7 N7 L7
 (refine e_E3A2 (M.getLs dm l7 0) ?_;intro dl tups kd hdl hdm7 htl)
 refine kdg_get2 (knd:=strKind _ _) (by k_asm) (by k_mem) dal loa (strKind_is _ _ _ _) _ rfl ?_
 refine rwl (hdl ..) ?_
 obtain ⟨news7,N8,hsub7,hdl7⟩:=pack N7 (sm:=news) (q:=(dl,refsO tups kd)) (fun p hp=>by k_mem) (by
  rcases List.mem_cons.mp hdm7 with e | h
  ·refine rwl (e ..) ?_;exact .head _
  ·k_mem)
 clear N7
 have M7:=M.sub hsub7
 have hx7:=M7.x
 have hd7:=M7.d
 k_extra "w"
 refine execs_nf "links" "domain2" "domain_links" (fun dl2 nw=>(∀ p∈news,p∈nw)∧∃ tups2 kd2,(dl2,refsO tups2 kd2)∈nw∧TupsIn nw tups2 (colL D cov dm)) (by k_asm) ?first ?second
 case first =>
  unfold dmD dmDE at hd7
  cases cov with
  | false =>
   rw [show D.fn=.none from hcov] at hd7
   iterate 10 k_extra "w"
   refine stop_same (P:=fun dl2 nw=>(∀ p∈news,p∈nw)∧∃ tups2 kd2,(dl2,refsO tups2 kd2)∈nw∧TupsIn nw tups2 (colL D false dm)) (dl:=dl) (by k_asm) rfl (by k_asm) ⟨hsub7,tups,kd,hdl7,?_⟩
   unfold colL
   (refine rwl (exts_off ..) ?_;refine rwl (List.append_nil ..) ?_)
   exact htl.sub hsub7
  | true =>
   rw [show D.fn=.ref 1177 from hcov] at hd7
   iterate 6 k_extra "w"
   refine ne_fn_none ((covers_ok (prog:=prog)).ty X' (Fr.keep (by k_asm)) (by k_asm) (fun _ h=>nomatch h)) (by ktr_units) ?_
   iterate 3 k_extra "w"
   refine for_items_acc g' "domain_links" ?_ rfl rfl rfl (by intro _;rfl) (by passes_own)
   iterate 4 k_extra "w"
   have hal7:=hsub7 _ hal
   refine kdl_method (knd:=PySem.strKind _ _) PySem.F.slot_dict_items PySem.F.type_dict_items (by k_asm) (by k_mem) dal ?_
   k_extra "w"
   refine kdx_view (knd:=strKind _ _) (by k_asm) (by k_asm) (by k_mem) dal loa ?_
   intro vw h10 F10 N10 l10
   refine fun _ kM=>kM (fun i a nw=>(∀ p∈(vw,({ cls:=.type "dict_items",data:=.fields #[.ref D.al] }:Obj))::news7,p∈nw)∧∃ tups2 kd2,(a,refsO tups2 kd2)∈nw∧TupsIn nw tups2 (lsOf D.pls dm++exts true dm (D.pls.take i))) vw D.al oal _ _ dl _ rfl rfl (by k_asm) rfl (by k_asm) (.head _) (by k_mem) dal ⟨fun _ h=>h,tups,kd,.tail _ hdl7,?_⟩ ?_ ?_ ?_
   ·(refine rwl (List.take_zero ..) ?_;(first | rewrite [exts_c] | rewrite [exts_n]);refine rwl (List.append_nil ..) ?_)
    exact htl.sub fun p hp=>.tail _ (hsub7 p hp)
   ·intro i a nw e8_3;(refine e_A (e8_3) ?_;clear e8_3;intro h _)
    exact h _ (.tail _ hal7)
   ·intro i k v t2 a nw I₂ oI h11 tk11 hkv e8_11 off F11 N11;(refine e_AE2A (e8_11) ?_;clear e8_11;intro hsubw tups2 kd2 ha hta)
    rw [List.getElem?_map] at hkv
    (refine e_EA (Option.map_eq_some_iff.mp hkv) ?_;intro q hq e)
    cases e
    have hqm:=List.mem_of_getElem? hq
    have htk:D.pls.take (i + 1)=D.pls.take i++[q]:=by (refine rwl (List.take_add_one ..) ?_;refine rwl (hq ..) ?_);rfl
    have Pq:=(M7.pls q hqm).keep (news':=nw) fun p hp _=>hsubw p (.tail _ hp)
    have hqa:=Pq.a
    have hx11:=hsubw _ (.tail _ hx7)
    have hd11:=hsubw _ (.tail _ hd7)
    have hqn:q.nm.length≤100:=places_short Pq.nm
    iterate 8 k_extra "w"
    by_cases hne:(dm != q.nm)=true
    ·refine rwl (if_pos hne ..) ?_
     iterate 15 k_extra "w"
     refine meh (covers_ok (prog:=prog)) dm q.nm t t2 (places_short hdm) hqn (by k_asm) (by k_asm) (by k_asm) (by k_asm) (by k_asm) rfl (by ktr_room) (by ktr_units) (fun _ h=>nomatch h) ?_
     intro h12 tk12 F12 N12
     cases hcv:covS dm q.nm with
     | true =>
      have hlen:tups2.length + q.tups.length≤2000:=by
       have h1:=hta.length
       have h2:=Pq.tup.length
       have h3:=Pq.few
       have h4:(exts true dm (D.pls.take i)).length≤_:=exts_take
       unfold colL at hfew
       rw [List.length_append] at h1 hfew
       exact ar_add (Nat.le_trans (Nat.le_of_eq h1) (Nat.le_trans (Nat.add_le_add_left h4 _) hfew)) (Nat.le_trans (Nat.le_of_eq h2) h3) rfl
      iterate 9 k_extra "w"
      refine add_lists2 (vs:=tups2.map Value.ref) (ws:=q.tups.map Value.ref) (k:=kd2) (k':=q.k) (by k_asm) (by k_asm) (.tail _ ha) (.tail _ hqa) (by (refine rwl (List.length_map ..) ?_;refine rwl (List.length_map ..) ?_);exact hlen) ?_
      intro nq h13 F13 N13 l13
      rw [← List.map_append] at N13
      iterate 3 k_extra "w"
      refine ⟨rfl,_,_,nq,(nq,refsO (tups2++q.tups) 0)::nw,rfl,fr_put3 (by decide) (by decide) (by k_asm),news_sub (by k_asm) ?_,?_,fun p hp=>.tail _ (hsubw p hp),tups2++q.tups,0,.head _,?_⟩
      ·exact List.forall_mem_cons.mpr ⟨.tail _ (.head _),List.forall_mem_cons.mpr ⟨.head _,fun p hp=>.tail _ (.tail _ hp)⟩⟩
      ·exact List.forall_mem_cons.mpr ⟨Nat.ne_of_gt (l13 _ (.head _)),off⟩
      ·(refine rwl (htk ..) ?_;refine rwl (exts_snoc ..) ?_;refine rwl (if_pos (by rw [hne,hcv];rfl) ..) ?_;refine rwr (List.append_assoc ..) ?_)
       exact (hta.sub fun p hp=>.tail _ hp).append (Pq.tup.sub fun p hp=>.tail _ hp)
     | false =>
      iterate 5 k_extra "w"
      refine ⟨rfl,_,_,a,nw,rfl,by k_asm,by k_asm,off,hsubw,tups2,kd2,ha,?_⟩
      (refine rwl (htk ..) ?_;refine rwl (exts_snoc ..) ?_;refine rwl (if_neg (by rw [hcv];simp) ..) ?_;refine rwl (List.append_nil ..) ?_)
      exact hta
    ·refine rwl (if_neg hne ..) ?_
     iterate 3 k_extra "w"
     refine ⟨rfl,_,_,a,nw,rfl,by k_asm,by k_asm,off,hsubw,tups2,kd2,ha,?_⟩
     (refine rwl (htk ..) ?_;refine rwl (exts_snoc ..) ?_;refine rwl (if_neg (by simp only [Bool.not_eq_true] at hne;rw [hne];simp) ..) ?_;refine rwl (List.append_nil ..) ?_)
     exact hta
   ·intro h11 tk11 o1 o2 a nw F11 N11 hJ
    (refine e_AE2A (hJ) ?_;clear hJ;intro hsubw tups2 kd2 ha hta)
    rw [List.length_map,List.take_length] at hta
    k_extra "w"
    exact ⟨rfl,_,_,o1,o2,a,nw,rfl,F11,N11,fun p hp=>hsubw p (.tail _ (hsub7 p hp)),tups2,kd2,ha,hta⟩
 case second =>
  intro h9 tk9 o1 o2 dl2 nw9 F9 N9 hP9
  (refine e_AE2A (hP9) ?_;clear hP9;intro hsub9 tups2 kd2 hdl9 htl9)
  have M9:=M.sub hsub9
  have hx9:=M9.x
  have hd9:=M9.d
  have hlam9:D.lam=D.lam:=rfl
  iterate 11 k_extra "w"
  refine rm_new (D.lvl:Int) D.tl (by k_asm) (by k_asm) (by k_asm) (by k_asm) (by k_asm) rfl (by ktr_room) (by ktr_units) ?_
  intro h10 tk10 x1 d1 al1 ar1 t1 t2 t3 t4 t5 k10 F10 N10 l10 l10x l10a l10r
  iterate 13 k_extra "w"
  refine rm_setf x1 d1 al1 ar1 D.lam (D.lvl:Int) D.tl t1 t2 t3 t4 t5 k10 (by k_asm) (by k_asm) (by k_asm) (by k_asm) (by k_asm) rfl (by ktr_room) (by ktr_units) (.head _) (.tail _ (.head _)) (.tail _ (.tail _ (.head _))) ?_
  intro h11 tk11 R1 nw11 F11 N11 I11 ex el ev es elk hk11 ho11
  have hsub11:∀ p∈nw9,p∈nw11:=fun p hp=>hk11 p (.tail _ (.tail _ (.tail _ (.tail _ hp)))) (Nat.ne_of_lt (l10 p hp))
  have hfr11:∀ a,R1.own a→∀ p∈nw9,p.1≠a:=fun a ha p hp=>by
   rcases ho11 a ha with rfl | rfl | h
   ·exact Nat.ne_of_lt (Nat.lt_trans (l10 p hp) l10x)
   ·exact Nat.ne_of_lt (l10 p hp)
   ·exact h p (.tail _ (.tail _ (.tail _ (.tail _ hp))))
  have hxd11:(x1,instObj 929 R1.d)∈nw11:=ex▸I11.x
  have hd11:=I11.d
  have hdl11:=hsub11 _ hdl9
  have hNm:NamesL (colL D cov dm):=M.namesC cov dm
  k_extra "w"
  refine for_list_x g' ?_ rfl rfl (by intro _;rfl) (by passes_own)
  k_extra "w"
  refine fun _ kM=>kM (fun i nw=>∃ R,RmIn prog w nw R∧R.x=x1∧R.lam=D.lam∧R.lvl=(D.lvl:Int)∧R.seq=R.links∧R.links=(colL D cov dm).take i∧(∀ p∈nw9,p∈nw)∧∀ a,R.own a→∀ p∈nw9,p.1≠a) (fun s'=>Only s s') dl2 (tups2.map Value.ref) kd2 _ _ (Only.closed s) rfl ⟨_,_,rfl⟩ rfl (by k_asm) (by k_asm) hdl11 ⟨R1,I11,ex,el,ev,es.trans elk.symm,by refine rwl (elk ..) ?_;rfl,hsub11,hfr11⟩ ?_ ?_
  ·intro i v nw s₂ I₂ oI e8_6 hv e8_8 hS off F12 N12;(refine e_E2 (e8_6) ?_;clear e8_6;intro h12 tk12 e9_2;subst e9_2);(refine e_EA7 (e8_8) ?_;clear e8_8;intro R IR rx rl rv rs rlk hsb hfr)
   have hv':(tups2.map Value.ref)[i]?=some v:=hv
   rw [List.getElem?_map] at hv'
   (refine e_EA (Option.map_eq_some_iff.mp hv') ?_;intro T hT e9_2;subst e9_2)
   (refine e_EAE3 (htl9.nth hT) ?_;intro l hl ta tb nt hTm)
   have hTn:=hsb _ hTm
   have hlm:=hNm l (List.mem_of_getElem? hl)
   have hRx:(x1,instObj 929 R.d)∈nw:=rx▸IR.x
   have hRd:=IR.d
   have htk:(colL D cov dm).take (i + 1)=(colL D cov dm).take i++[l]:=by (refine rwl (List.take_add_one ..) ?_;refine rwl (hl ..) ?_);rfl
   iterate 18 k_extra "w"
   subst rx
   refine rm_add_link0 (R:=R) (os:=D.os) (by refine rwl (rl ..) ?_;exact M.K) l.1 l.2 ta tb hlm.1 hlm.2 (by k_asm) (by k_asm) (by k_asm) (by k_asm) (by k_asm) rfl (by ktr_room) (by ktr_units) (IR.sub fun p hp=>.tail _ hp) (fun p hp=>.tail _ (hsb p (hsub9 p (M.os p hp)))) (fun p hp h=>hfr _ h p (hsub9 p (M.os p hp)) rfl) rs ?_ ?_ ?_
   ·refine rwl (rlk ..) ?_
    intro hin
    obtain ⟨j,hj,e⟩:=List.getElem_of_mem hin
    rw [List.length_take] at hj
    rw [List.getElem_take] at e
    obtain ⟨hi,e'⟩:=List.getElem?_eq_some_iff.mp hl
    have:=(List.getElem_inj hcol).mp (e.trans e'.symm)
    k_extra "ar"
   ·(refine rwl (rlk ..) ?_;refine rwl (List.length_take ..) ?_);k_extra "ar"
   intro h13 tk13 nw13 R' F13 N13 I13 S13 x13 l13 v13 s13 k13
   k_extra "w"
   have hk13:∀ p∈nw9,p∈nw13:=fun p hp=>S13.keep p (.tail _ (hsb p hp)) fun h=>hfr _ h p hp rfl
   have hI13:(I₂,oI)∈nw13:=S13.keep _ (.head _) fun h=>by
    (refine e_E (IR.there _ h) ?_;intro o ho)
    exact off _ ho rfl
   refine i_EA5EA7 (nw13.filter fun p=>p.1 != I₂) ⟨_,_,rfl⟩ (by k_asm) (news_sub (by k_asm) ?_) (fun p hp=>by simpa using (List.mem_filter.mp hp).2) ?_ R' ?_ x13 (l13.trans rl) (v13.trans rv) s13 ?_ ?_ ?_
   ·exact List.forall_mem_cons.mpr ⟨hI13,fun p hp=>(List.mem_filter.mp hp).1⟩
   ·exact List.mem_filter.mpr ⟨hk13 _ hdl9,by simpa using off _ hS⟩
   ·refine I13.keep fun p hp h=>List.mem_filter.mpr ⟨hp,?_⟩
    have:p.1≠I₂:=fun e=>by
     rcases S13.new _ h with h | h
     ·(refine e_E (IR.there _ h) ?_;intro o ho)
      exact off _ ho e
     ·exact h _ (.head _) e.symm
    simpa using this
   ·(refine rwl (k13 ..) ?_;refine rwl (rlk ..) ?_;refine rwl (htk ..) ?_;with_reducible rfl)
   ·exact fun p hp=>List.mem_filter.mpr ⟨hk13 p hp,by simpa using off _ (hsb p hp)⟩
   ·intro a ha p hp
    rcases S13.new a ha with h | h
    ·exact hfr a h p hp
    ·exact h p (.tail _ (hsb p hp))
  ·intro s' o nw e8_3 F12 N12 e8_6;(refine e_E2 (e8_3) ?_;clear e8_3;intro h12 tk12 e9_2;subst e9_2);(refine e_EA7 (e8_6) ?_;clear e8_6;intro R IR rx rl rv rs rlk hsb hfr)
   rw [List.length_map,htl9.length,List.take_length] at rlk
   iterate 4 k_extra "w"
   have:=ret _ tk12 nw R (by k_asm) (by k_asm) (fun p hp=>hsb p (hsub9 p hp)) ⟨IR,rl,rv,rs,hdm⟩ (fun a ha p hp=>hfr a ha p (hsub9 p hp)) rlk
   rw [rx] at this
   exact this
end
section
variable {prog:Program} {w:World} {M:Model} {A:Around} {c:Code} {E:Value→Shared→Prop} {s:Shared} {env:Env}
theorem at_sub {o i value:Expr} {pos' pos:Pos} {Q:Flow→Shared→Prop}
  (h:_root_.PySem.wpAt M A c (eval value env) (fun v s₁=>wpAny M A (eval o env) (fun ov s₂=>wpAny M A (eval i env) (fun iv s₃=>wpAny M A (setItem ov iv v) (fun _=>Q .next) E s₃) E s₂) E s₁) E s)
  (hs:swapsWith value (some (.Subscript o i pos')) pos.line env=pure false:=by rfl) :
  _root_.PySem.wpAt M A c (exec (.Assign [.Subscript o i pos'] value pos) env) Q E s:=fun Γ p hc hΓ=>by
 simp -iota only [exec_Assign_Subscript o i pos' value pos hs,assign_Subscript,Sem.wp_bind',Sem.wp_holding,Sem.wp_cmd_standAt,Sem.wp_release,Sem.wp_pure']
 exact Sem.wp_mono M Γ _ (fun v p₁ s₁ h₁=>Sem.wp_mono M Γ _ (fun ov p₂ s₂ h₂=>Sem.wp_mono M Γ _ (fun iv _ s₃ h₃=>h₃ Γ _ hΓ)
  (fun _ _ _ h'=>h') _ _ (h₂ Γ p₂ hΓ)) (fun _ _ _ h'=>h') _ _ (h₁ Γ p₁ hΓ)) (fun _ _ _ h'=>h') _ _ (h Γ _ hc hΓ)
end
section
variable {prog:Program} {w:World} {p:Program} {loose:List Str} {mean:ExcName→Option Value} {mg mb:Str→Option Value}
 {dp un:Nat} {gd:Option (List Code)} {cn:Str} {cs:Scope} {a:Addr} {ccd:Value} {cl:List (Str×Addr)} {outer:List Env} {A₀:Around} {base h₀:Heap} {L:Addr} {m:Str→Option Value} {s:Shared} {Q E:Value→Shared→Prop} {news:Led}

theorem get_rm1 {D:DmA} {x:Addr} (hxe:D.x=x) (cov:Bool) (hcov:D.fn=if cov then .ref 1177 else .none) (dm:Str) (t:Tok) (hdm:dm∈Places) (B:Below A₀ base outer h₀) (F:Fr h₀ L s.heap m) (X:(Kp w.params).In h₀) (N:News h₀ L s.heap news) (T:Top p loose mean mg mb h₀) (hk:cs.kind=.function) (hdp:dp + 40 < recursionLimit) (hun:un + 320 < cLine) (M:DmMem prog w news D)
 (hcol:(colL D cov dm).Nodup) (hfew:(colL D cov dm).length≤10)
 (ret:∀ h' tk' news' D' q,Fr h₀ L h' m→News h₀ L h' news'→DmMem prog w news' D'→Stp D.own D'.own news news'→(D'=D∨∃ R,dm ∉ D.rms.map (·.1)∧D'=D.newRm dm R∧R.links=colL D cov dm)→q∈D'.rms→q.1=dm→Q (.ref q.2.x) { s with heap:=h',toks:=tk' })
 : codeAny (model prog w) (ktrTop dp un gd cn cs L a ccd cl outer) (.call (.ref 1068) ⟨[.ref x,.str dm t],[]⟩) (kRes Q E) s:=by
 subst hxe
 have hx:=M.x
 have hd:=M.d
 (refine e_EA (M.rm) ?_;intro orm hrm drm)
 have lor:=M.lor
 k_extra "kT"
 refine ks_wpAt_execs_cons (_root_.PySem.wpAt_of_wpAny ?_)
 refine (let A1:=_;let qk:=_;let ek:=_;(?_:wpAny _ A1 _ qk ek _))
 k_extra "w"
 k_extra "kS1"
 refine get_dom1 D.x dm t (by k_asm) (by k_asm) (by k_asm) (by k_asm) (by k_asm) rfl (by ktr_room) (by ktr_units) ?_
 intro h5 tk5 F5 N5
 k_extra "w"
 by_cases hin:dm∈D.rms.map (·.1)
 ·(refine e_EA (List.mem_map.mp hin) ?_;intro r hr e9_2;subst e9_2)
  have hv:valueAt (D.rms.map fun q=>(q.1,Value.ref q.2.x)) r.1=some (.ref r.2.x):=valueAt_mem (mf_nd M.rmnd) (List.mem_map_of_mem (f:=fun q:Str×RmA=>(q.1,Value.ref q.2.x)) hr)
  refine _root_.PySem.wpAt_of_wpAny ?_
  refine (let A1:=_;let qk:=_;let ek:=_;(?_:wpAny _ A1 _ qk ek _))
  iterate 7 k_extra "w"
  refine kdg_notin (knd:=strKind _ _) (by k_asm) (by k_mem) drm lor (strKind_is _ _ _ _) true (by refine rwl (hv ..) ?_;rfl) ?_
  iterate 10 k_extra "w"
  refine kdt_tail (knd:=PySem.strKind _ _) (by k_asm) (by k_mem) drm ?_
  refine kdt_getItem (knd:=PySem.strKind _ _) (by k_asm) (by k_mem) drm (strKind_is _ _ _ _) hv ?_
  k_extra "w"
  exact ret _ _ news D r (by k_asm) (news_sub (by k_asm) fun p hp=>by k_mem) M (.refl _ _) (.inl rfl) hr rfl
 ·refine ks_wpAt_execs_cons (ks_wpAt_If (_root_.PySem.wpAt_of_wpAny ?_))
  iterate 5 k_extra "w"
  refine kdg_notin (knd:=strKind _ _) (by k_asm) (by k_mem) drm lor (strKind_is _ _ _ _) false (by refine rwl (valueAt_none (mf_in hin) ..) ?_;rfl) ?_
  iterate 1 k_extra "w"
  refine rwl (if_pos (by rfl) ..) ?_
  refine ks_wpAt_execs_cons (at_sub (at_star ?_))
  k_extra "kN"
  refine callWith_SM (K:=Kp w.params) (by k_asm) (.head _) (by k_is) ?_
  iterate 3 k_extra "w"
  refine call_meth (by k_asm) (.head _) ?_
  refine get_rm_b (D:=D) rfl cov hcov dm t hdm (by k_asm) (by k_asm) (by k_asm) (by k_asm) (by k_asm) rfl (by ktr_room) (by ktr_units) (M.sub fun p hp=>by k_mem) hcol hfew ?_
  intro h6 tk6 news6 R F6 N6 hk6 hR ho6 hl6
  have hks:∀ p∈news,p∈news6:=fun p hp=>hk6 p (by k_mem)
  have M6:=M.sub hks
  have hx6:=M6.x
  have hd6:=M6.d
  have hrm6:=hks _ hrm
  iterate 4 k_extra "w"
  refine sd_set (by k_asm) (by k_asm) (by k_mem) drm (by refine rwl (List.length_map ..) ?_;have:=M.fewr;k_extra "ar") ?_
  intro h8 o8 F8 N8 hd8
  (refine e_A (M.newRm hks N6 hR hin (fun a ha p hp=>ho6 a ha p (by k_mem)) hd8) ?_;intro M8 S8)
  have hx8:(D.x,instObj 1140 D.d)∈_:=M8.x
  have hd8':(D.d,dmD w.params D)∈_:=M8.d
  have hrm8:(D.rm,o8)∈upd D.rm o8 news6:=mem_upd_self
  refine _root_.PySem.wpAt_of_wpAny (wpAny_execs_nil ?_)
  refine _root_.PySem.wpAt_of_wpAny ?_
  refine (let A1:=_;let qk:=_;let ek:=_;(?_:wpAny _ A1 _ qk ek _))
  iterate 7 k_extra "w"
  refine kdt_tail (knd:=PySem.strKind _ _) (by k_asm) (by k_mem) hd8 ?_
  refine kdt_getItem (knd:=PySem.strKind _ _) (v:=.ref R.x) (by k_asm) (by k_mem) hd8 (strKind_is _ _ _ _) ?_ ?_
  ·refine rwl (stored_new (mf_in hin) ..) ?_
   refine valueAt_mem ?_ (List.mem_append_right _ (.head _))
   refine rwr (stored_new (mf_in hin) ..) ?_
   (refine e_E2A4 (hd8) ?_;clear hd8;intro _ _ _ _ _ _ hnd)
   exact hnd
  k_extra "w"
  exact ret _ _ _ (D.newRm dm R) (dm,R) (by k_asm) (by k_asm) M8 S8 (.inr ⟨R,hin,rfl,hl6⟩) (List.mem_append_right _ (.head _)) rfl
end
section
variable {prog:Program} {w:World} {A₀ A:Around} {s:Shared} {K:Frag} {L:Addr} {h₀ base:Heap} {m mg mb:Str→Option Value} {news:Led} {p:Program} {loose:List Str} {mean:ExcName→Option Value} {env:Env} {outer:List Env} {R:Result→Shared→Prop}
 {name qual:Str} {params:Arguments} {body:List Stmt} {scope:Scope} {dV kV doc pm cdv ct oc:Value} {an od:Option Addr} {osl:Array (Option Value)} {f:Addr}
theorem rest_cells {args:Args} {vs:List Value} {g₁:Addr→Option (List (Str×Value))} {binds:Addr→List (Str×Value)}
  (B:Below A₀ base outer h₀) (F:Fr h₀ L s.heap m) (X₀:K.In h₀) (N:News h₀ L s.heap news) (T:Top p loose mean mg mb h₀) (hA:A.frames=some (env::outer)) (hf:env.frame=some L) (hke:env.scope.kind=.function)
  (ho:K.lookup f=some ⟨oc,od,.func (fnOf name qual params body scope dV kV doc pm an cdv ct),osl⟩) (hcd:codeIn K cdv qual=true) (hroom:A.depth < recursionLimit)
  (hv:args.pos.drop (params.posonlyargs.length + params.args.length)=vs)
  (hp:peek1 K ⟨prog,w.params⟩ (bindArgs (fnOf name qual params body scope dV kV doc pm an cdv ct) args)=some (({ cls:=.type "tuple",data:=.seq vs.toArray }:Obj),g₁))
  (hg:∀ D,g₁ D=some (binds D)) (hkind:∀ D,((binds D).all fun y=>scope.names.lookup y.1 == some .local || scope.names.lookup y.1 == some .cell)=true)
  (hnd:((cellsFrom 0 scope.names []).map (·.1)).Nodup)
  (h:∀ D g L' h₁ tk cells,(∀ p∈news,p.1 < D)→Fr h₀ L g m→Fr g L' h₁ (bindL (envOfC qual scope L' f cdv).kindOf (binds D) fun _=>none)→News g L' h₁ (cells++(D,({ cls:=.type "tuple",data:=.seq vs.toArray }:Obj))::news) →
   CellsAre (bindC (envOfC qual scope L' f cdv).kindOf (binds D) fun _=>none) (cellsFrom (L' + 1) scope.names []) cells→Below A base (env::outer) g→K.In g→Top p loose mean mg mb g→(∀ p∈(D,({ cls:=.type "tuple",data:=.seq vs.toArray }:Obj))::news,p.1 < L') →
   wpAny (model prog w) (A.deeper (envOfC qual scope L' f cdv)) (execs body (envOfC qual scope L' f cdv))
    (fun fl s'=>LeaveK h₀ L m g R (match fl with | .ret v=>v | _=>.none) s')
    (fun e s'=>wpAny (model prog w) (A.deeper (envOfC qual scope L' f cdv)) (leaving (envOfC qual scope L' f cdv) e) (fun _ s''=>R (.error e) s'') (fun e' s''=>R (.error e') s'') s')
    { s with heap:=h₁,toks:=tk })
  (hco:scope.isCoroutine=false) (hgen:scope.isGenerator=false) (hk:scope.kind=.function):codeAny (model prog w) A (.call (.ref f) args) R s:=by
 have _:=hv
 refine codeAny_call_function (fd:=fnOf name qual params body scope dV kV doc pm an cdv ct) (body:=body) hroom ((X₀.keeps F.keep) _ _ ho) rfl hco hgen rfl (codeRec_of (X₀.keeps F.keep) hcd) ?_
 refine wp_of_peek1 (o:=({ cls:=.type "tuple",data:=.seq vs.toArray }:Obj)) F N (X₀.keeps F.keep) rfl (r:=binds) (fun D h' F' N' l=>?_) _ g₁ hp hg
 (refine e_A3 (groundX (R:=R) (s:={ s with heap:=h' }) B F' N' hA hf hke) ?_;intro FG BG st lv)
 refine wpAny_newFunctionEnv_cells hk (kindsX (hkind D) _) fun env' he s' x=>?_
 subst he
 refine ⟨(T.nolimit.keeps F'.keep).keeps x.toInCall.keep,codeAny_func ?_⟩
 (refine e_E2A (x.done) ?_;intro h₁ tk e9_2 _;subst e9_2)
 have hk₁:=x.toInCall.keep
 (refine e_EA (Cl.news (h₀:=h') (Nat.le_refl _) fun n c hm=>⟨x.cell n c (lookup_of_mem_nodup (cellsFrom_names scope.names 0 (h'.objs.size + 1) [] [] rfl▸hnd) hm),x.above n c hm⟩) ?_;intro cells NC Y)
 refine wpAny_mono (h D _ h'.objs.size h₁ tk cells l FG ⟨x.toInCall.ns,fun b o e=>hk₁ b o (of_hideAll _ e),Nat.le_of_eq (hideAll_size _ _)⟩ (fun p hp=>?_) Y BG (X₀.keeps st) (T.keeps st) (fun p hp=>Heap.lt_size (N' p hp).1)) (fun fl s' hl=>lv _ _ hl) fun _ _ y=>y
 rcases List.mem_append.mp hp with hp | hp
 ·refine ⟨(NC p hp).1,(NC p hp).2.1,?_⟩
  cases q:(hideAll h' (((D,({ cls:=.type "tuple",data:=.seq vs.toArray }:Obj))::news).map (·.1))).get? p.1 with
  | none=>rfl
  | some o=>have:=of_hideAll _ q;replace this:=((NC p hp).2.2 ..)▸this;cases this
 ·exact ⟨hk₁ _ _ (N' p hp).1,Nat.ne_of_lt (Heap.lt_size (N' p hp).1),hideAll_none _ (List.mem_map_of_mem hp)⟩
end
section
variable {prog:Program} {w:World} {A:Around} {E:Value→Shared→Prop} {s:Shared} {h₀:Heap} {L:Addr} {m:Str→Option Value} {env:Env}
theorem frame_cell {scope:Scope} {cl:List (Str×Addr)} {x:Str} {Q:Env→Shared→Prop} (hcf:∀ n,cellsFrom n scope.names cl=(x,n)::cl) (hpc:∀ h,pushCells h scope.names=h.push { cls:=.type "cell",data:=.cell none })
  (h:Q { scope:=scope,locals:=s.heap.objs.size,globals:=env.globals,cells:=(x,s.heap.objs.size + 1)::cl,qual:=env.qual,func:=none,code:=env.code,frame:=env.frame,builtins:=env.builtins }
   { s with heap:=(s.heap.push { cls:=.type "dict",data:=.dict #[] }).push { cls:=.type "cell",data:=.cell none } }) :
  wpAny (model prog w) A (newFunctionEnv scope env.globals cl [] env.qual none .none (some env)) Q E s:=by
 simp only [newFunctionEnv,Option.isSome_some,if_true]
 refine wpAny_bind (wpAny_alloc ?_)
 refine wpAny_bind (wpAny_layCells _ (fun name kind cells=>by cases hkc:kind == NameKind.cell<;>simp [hkc]) _ _ _ _ ?_)
 (refine rwl (hcf ..) ?_;refine rwl (hpc ..) ?_;refine rwl (Heap.size_push ..) ?_)
 refine wpAny_bind ?_
 refine rwl (List.forIn_nil ..) ?_
 exact wpAny_pure (wpAny_pure h)
noncomputable def CellTest (prog:Program) (w:World) (A:Around) (h₀:Heap) (L P:Addr) (m:Str→Option Value) (s₁:Shared) (news:Led) (scope:Scope) (cl:List (Str×Addr)) (env:Env) (x:Str) (c:Expr) (pz:Addr→Bool) (its:List Addr):Prop :=
 ∀ b∈its,∀ I oI C oC d od D oD ps' (st:Shared) (E':Value→Shared→Prop),Cl s₁ st→AllBare st.gens→TriplesOk ps'.toList→od.data=.cell (some (.ref b))→NeA I P→NeA C P→NeA d P→NeA D P→Fr h₀ L st.heap m →
  News h₀ L st.heap ((I,oI)::(C,oC)::(d,od)::(D,oD)::upd P (tabObj ps') news) →
  wpAny (model prog w) A (isTrue c (compEnvC scope ((x,d)::cl) C env) (eval c (compEnvC scope ((x,d)::cl) C env))) (fun ok s'=>ok=pz b∧∃ ps'',Cl st s'∧AllBare s'.gens∧TriplesOk ps''.toList∧Fr h₀ L s'.heap m ∧
   News h₀ L s'.heap ((I,oI)::(C,oC)::(d,od)::(D,oD)::upd P (tabObj ps'') news)) E' st
def OverCell (prog:Program) (w:World) (A:Around) (h₀:Heap) (L:Addr) (m:Str→Option Value) (env:Env) (scope:Scope) (cl:List (Str×Addr)) (x:Str) (c:Expr) (Q:Value→Shared→Prop) (P:Addr) (pz:Addr→Bool) (xv:Value) (s₁:Shared):Prop:=∀ Zp:Prop,(∀ (ax:Addr) (its:List Addr) (k₀:Nat) (news:Led) (ps:Array Value),(xv=.ref ax)→(Fr h₀ L s₁.heap m)→(News h₀ L s₁.heap news)→((ax,refsO its k₀)∈news)→(its.length≤1000)→((P,tabObj ps)∈news)→(TriplesOk ps.toList)→(NeA ax P)→(AllBare s₁.gens)→(CellTest prog w A h₀ L P m s₁ news scope cl env x c pz its)→(∀ D s' ps',Cl s₁ s'→AllBare s'.gens→TriplesOk ps'.toList→Fr h₀ L s'.heap m→News h₀ L s'.heap ((D,lst ((its.filter pz).map Value.ref))::upd P (tabObj ps') news)→(∀ p∈news,p.1≠D)→Q (.ref D) s')→Zp)→Zp
theorem OverCell.mk {prog:Program} {w:World} {A:Around} {h₀:Heap} {L:Addr} {m:Str→Option Value} {env:Env} {scope:Scope} {cl:List (Str×Addr)} {x:Str} {c:Expr} {Q:Value→Shared→Prop} {P:Addr} {pz:Addr→Bool} {xv:Value} {s₁:Shared} (ax:Addr) (its:List Addr) (k₀:Nat) (news:Led) (ps:Array Value) (f0:xv=.ref ax) (f1:Fr h₀ L s₁.heap m) (f2:News h₀ L s₁.heap news) (f3:(ax,refsO its k₀)∈news) (f4:its.length≤1000) (f5:(P,tabObj ps)∈news) (f6:TriplesOk ps.toList) (f7:NeA ax P) (f8:AllBare s₁.gens) (f9:CellTest prog w A h₀ L P m s₁ news scope cl env x c pz its) (f10:∀ D s' ps',Cl s₁ s'→AllBare s'.gens→TriplesOk ps'.toList→Fr h₀ L s'.heap m→News h₀ L s'.heap ((D,lst ((its.filter pz).map Value.ref))::upd P (tabObj ps') news)→(∀ p∈news,p.1≠D)→Q (.ref D) s'):OverCell prog w A h₀ L m env scope cl x c Q P pz xv s₁:=fun _ k=>k ax its k₀ news ps f0 f1 f2 f3 f4 f5 f6 f7 f8 f9 f10
theorem comp_cell {c iter:Expr} {x:Str} {px pe:Pos} {scope:Scope} {cl:List (Str×Addr)} {pos:Pos} {Q:Value→Shared→Prop} {P:Addr} (pz:Addr→Bool) (_F₀:Fr h₀ L s.heap m) (hh:A.handled=none)
  (h:wpAny (model prog w) A (eval iter env) (OverCell prog w A h₀ L m env scope cl x c Q P pz) E s)
  (hclos:closureFor scope env=pure cl) (hkind:scope.kind=.function)
  (hnames:∀ y∈scope.names,y.2=.local→scope.names.lookup y.1=some .local)
  (hcf:∀ n,cellsFrom n scope.names cl=(x,n)::cl) (hpc:∀ h,pushCells h scope.names=h.push { cls:=.type "cell",data:=.cell none })
  (hx:∀ C d,(compEnvC scope ((x,d)::cl) C env).kindOf x=some .cell) (hk:∀ C d,(compEnvC scope ((x,d)::cl) C env).scope.kind=.function) (hdbg:(x == ("__debug__":Str))=false)
  (hs:∀ x,foldedSetIterable iter env x=pure x) :
  wpAny (model prog w) A (eval (.ListComp (.Name x pe) [⟨.Name x px,iter,[c],0⟩] scope pos) env) Q E s:=by
 refine rwl (eval_ListComp ..) ?_
 refine wpAny_comprehension_free (use:=none) rfl hs hclos hkind hnames (wpAny_mono h (fun xv s₁ h₁=>?_) fun _ _ e=>e)
 (refine h₁ _ ?_;clear h₁;intro ax its k₀ news ps e9_5 F N hm hl hP htr haP G test fin;subst e9_5)
 have hls:s₁.heap.IsList ax (its.map Value.ref).toArray:=News.isList N hm
 have hlt:ax < s₁.heap.objs.size:=Heap.lt_size (N _ hm).1
 have hPlt:P < s₁.heap.objs.size:=Heap.lt_size (N _ hP).1
 refine wpAny_pyIter_list hls ?_
 generalize hI:s₁.heap.objs.size=I at hlt hPlt ⊢
 have W:=Walks.list (prog:=prog) (w:=w) hh I ax (Nat.ne_of_lt hlt) (its.map Value.ref).toArray
 (replace W:=(List.size_toArray ..)▸W;replace W:=(List.length_map ..)▸W)
 refine wpAny_newObj_type (frame_cell hcf hpc ?_)
 try dsimp only
 generalize hH2:s₁.heap.push { cls:=.type "list_iterator",data:=.fields #[.ref ax,.int 0 0] }=H2
 have s2:H2.objs.size=I + 1:=by (refine rwr (hH2 ..) ?_;refine rwl (Heap.size_push ..) ?_;refine rwl (hI ..) ?_;with_reducible rfl)
 generalize hH3:H2.push { cls:=.type "list",dict:=none,data:=.seq ([]:List Value).toArray }=H3
 have s3:H3.objs.size=I + 2:=by (refine rwr (hH3 ..) ?_;refine rwl (Heap.size_push ..) ?_;refine rwl (s2 ..) ?_;with_reducible rfl)
 generalize hH4:H3.push { cls:=.type "dict",data:=.dict #[] }=H4
 have s4:H4.objs.size=I + 3:=by (refine rwr (hH4 ..) ?_;refine rwl (Heap.size_push ..) ?_;refine rwl (s3 ..) ?_;with_reducible rfl)
 generalize hH5:H4.push { cls:=.type "cell",data:=.cell none }=H5
 (refine rwl (s2 ..) ?_;refine rwl (s3 ..) ?_)
 have u1:∀ b o,s₁.heap.get? b=some o→H5.get? b=some o:=fun b o e=>by
  (refine rwr (hH5 ..) ?_;refine rwr (hH4 ..) ?_;refine rwr (hH3 ..) ?_;refine rwr (hH2 ..) ?_)
  exact Heap.get?_push_of_some _ (Heap.get?_push_of_some _ (Heap.get?_push_of_some _ (Heap.get?_push_of_some _ e)))
 have gI:H5.get? I=some { cls:=.type "list_iterator",data:=.fields #[.ref ax,.int 0 0] }:=by
  (refine rwr (hH5 ..) ?_;refine rwr (hH4 ..) ?_;refine rwr (hH3 ..) ?_;refine rwr (hH2 ..) ?_;refine rwr (hI ..) ?_)
  exact Heap.get?_push_of_some _ (Heap.get?_push_of_some _ (Heap.get?_push_of_some _ (Heap.get?_push_size _ rfl)))
 have gD:H5.get? (I + 1)=some (lst []):=by
  (refine rwr (hH5 ..) ?_;refine rwr (hH4 ..) ?_;refine rwr (hH3 ..) ?_;refine rwr (s2 ..) ?_)
  exact Heap.get?_push_of_some _ (Heap.get?_push_of_some _ (Heap.get?_push_size _ rfl))
 have nC:H5.Ns (I + 2) (fun _=>none):=by
  refine rwr (s3 ..) ?_
  refine (Heap.Ns.new H3 (.type "dict")).keeps fun b o e=>?_
  refine rwr (hH5 ..) ?_
  replace e:=(hH4 ..)▸e
  exact Heap.get?_push_of_some _ e
 have gd:H5.get? (I + 3)=some { cls:=.type "cell",data:=.cell none }:=by
  (refine rwr (hH5 ..) ?_;refine rwr (s4 ..) ?_)
  exact Heap.get?_push_size _ rfl
 have ltI:∀ b o,s₁.heap.get? b=some o→b < I:=fun b o e=>hI▸Heap.lt_size e
 have fr0:∀ a,I≤a→h₀.get? a=none:=fun a ha=>by
  cases e:h₀.get? a with
  | none=>rfl
  | some o'=>exact absurd (ltI _ _ (F.keep a o' e)) (Nat.not_lt.mpr ha)
 have hLlt:L < I:=hI▸F.ns.lt
 have offN:∀ p∈news,p.1 < I:=fun p hp=>ltI _ _ (N p hp).1
 have offU:∀ ps':Array Value,∀ p∈upd P (tabObj ps') news,p.1 < I:=fun ps' p hp=>by
  rcases of_mem_upd hp with rfl | ⟨hp,_⟩
  ·exact hPlt
  ·exact offN p hp
 show codeAny (model prog w) A (.compStart (.ListComp (.Name x pe) [⟨.Name x px,iter,[c],0⟩] scope pos) 0 (.ref I) (.ref (I + 1)) (compEnvC scope ((x,I + 3)::cl) (I + 2) env)) (compPost (model prog w) A E none Q (.ref (I + 1)) (I + 2)) { s₁ with heap:=H5,toks:=s₁.toks }
 have loop:codeAny (model prog w) A (.compLoop (.ListComp (.Name x pe) [⟨.Name x px,iter,[c],0⟩] scope pos) 0 (.ref I) (.ref (I + 1)) (compEnvC scope ((x,I + 3)::cl) (I + 2) env)) (compPost (model prog w) A E none Q (.ref (I + 1)) (I + 2)) { s₁ with heap:=H5,toks:=s₁.toks }:=by
  refine kct_loop
   (fun k s'=>∃ i ps' m' v₀,Cl s₁ s'∧AllBare s'.gens∧TriplesOk ps'.toList∧i≤its.length∧k=its.length + 1 - i∧s'.heap.IsListIter I ax i∧Fr h₀ L s'.heap m∧s'.heap.Ns (I + 2) m'∧s'.heap.IsCell (I + 3) v₀ ∧
    News h₀ L s'.heap ((I + 1,lst (((its.take i).filter pz).map Value.ref))::upd P (tabObj ps') news)) ?_ (its.length + 1)
   ⟨0,ps,_,_,⟨rfl,id⟩,G,htr,Nat.zero_le _,rfl,⟨_,gI,rfl,rfl⟩,F.keeps u1,nC,⟨_,gd,rfl⟩,fun p hp=>?_⟩
  ·intro k s' e8_2;(refine e_E4A9 (e8_2) ?_;clear e8_2;intro i ps' m' v₀ hcl G' htr' hi e9_8 hit F' nC' hcell N';subst e9_8)
   have hm':(ax,refsO its k₀)∈upd P (tabObj ps') news:=mem_upd hm haP.out
   have hls':s'.heap.IsList ax (its.map Value.ref).toArray:=News.isList N' (.tail _ hm')
   by_cases hlt':i < its.length
   ·refine W.item i _ _ _ hlt' ⟨hit,hls'⟩ fun v h₂ tk₂ hPv hst₂ hk₂=>?_
    refine go_list_name ?_
    have hv:(its.map Value.ref)[i]?=some v:=by simpa using hPv
    replace hv:=(List.getElem?_map ..)▸hv
    (refine e_EA (Option.map_eq_some_iff.mp hv) ?_;intro b hb e9_2;subst e9_2)
    have hbm:b∈its:=List.mem_of_getElem? hb
    have k2:∀ b o,b≠I→s'.heap.get? b=some o→h₂.get? b=some o:=fun b o hb e=>hk₂ b o (by simpa using hb) e
    have hcell2:h₂.IsCell (I + 3) v₀:=let ⟨o,e,q⟩:=hcell;⟨o,k2 _ _ (Nat.ne_of_gt (Nat.lt_add_of_pos_right (by decide))) e,q⟩
    refine wpAny_assign_Name (wpAny_storeName_cell (hk _ _) (hx _ _) (by show List.lookup x ((x,I + 3)::cl)=_;(refine rwl (List.lookup_cons ..) ?_;refine rwl (beq_self_eq_true ..) ?_;with_reducible rfl)) hcell2 fun h₃ hc₃ hs₃=>?_)
    (refine e_EA (hc₃) ?_;clear hc₃;intro od hod hodd)
    have k3:∀ b o,b≠I→b≠I + 3→s'.heap.get? b=some o→h₃.get? b=some o:=fun b o h1 h2 e=>hs₃.extBut b o h2 (k2 b o h1 e)
    (refine e_EA (hst₂.1) ?_;intro oI heI qI)
    have heI3:h₃.get? I=some oI:=hs₃.extBut _ _ (Nat.ne_of_lt (Nat.lt_add_of_pos_right (by decide))) heI
    (refine e_EA (ns_obj nC') ?_;intro oC heC hoC)
    have heC3:h₃.get? (I + 2)=some oC:=k3 _ _ (Nat.ne_of_gt (Nat.lt_add_of_pos_right (by decide))) (by simp) heC
    have F₃:Fr h₀ L h₃ m:=⟨F'.ns.at' fun o e=>k3 L o (Nat.ne_of_lt hLlt) (Nat.ne_of_lt (Nat.lt_add_right 3 hLlt)) e,fun b o e=>k3 b o (fun q=>by (replace e:=(q ..)▸e;replace e:=(fr0 I (Nat.le_refl _) ..)▸e);cases e) (fun q=>by (replace e:=(q ..)▸e;replace e:=(fr0 (I + 3) (Nat.le_add_right _ _) ..)▸e);cases e) (F'.keep b o e),F'.above⟩
    have N₃:News h₀ L h₃ ((I,oI)::(I + 2,oC)::(I + 3,od)::(I + 1,lst (((its.take i).filter pz).map Value.ref))::upd P (tabObj ps') news):=fun p hp=>by
     rcases List.mem_cons.mp hp with rfl | hp
     ·exact ⟨heI3,Nat.ne_of_gt hLlt,fr0 I (Nat.le_refl _)⟩
     ·rcases List.mem_cons.mp hp with rfl | hp
      ·exact ⟨heC3,Nat.ne_of_gt (Nat.lt_add_right 2 hLlt),fr0 _ (Nat.le_add_right _ _)⟩
      ·rcases List.mem_cons.mp hp with rfl | hp
       ·exact ⟨hod,Nat.ne_of_gt (Nat.lt_add_right 3 hLlt),fr0 _ (Nat.le_add_right _ _)⟩
       ·have z:=N' p hp
        refine ⟨?_,z.2⟩
        rcases List.mem_cons.mp hp with rfl | hp
        ·exact k3 _ _ (Nat.ne_of_gt (Nat.lt_succ_self _)) (by simp) z.1
        ·exact k3 _ _ (Nat.ne_of_lt (offU ps' p hp)) (Nat.ne_of_lt (Nat.lt_add_right 3 (offU ps' p hp))) z.1
    have ht:its.take (i + 1)=its.take i++[b]:=by (refine rwl (List.take_add_one ..) ?_;refine rwl (hb ..) ?_);rfl
    have pI:P < I:=hPlt
    refine wpAny_mono (test b hbm I oI (I + 2) oC (I + 3) od (I + 1) _ ps' _ _ ⟨hcl.1,hcl.2⟩ G' htr' hodd ⟨Nat.ne_of_gt pI⟩ ⟨Nat.ne_of_gt (Nat.lt_add_right 2 pI)⟩ ⟨Nat.ne_of_gt (Nat.lt_add_right 3 pI)⟩ ⟨Nat.ne_of_gt (Nat.lt_add_right 1 pI)⟩ F₃ N₃) (fun ok s₄ h₄=>?_) fun _ _ e=>e
    (refine e_AEA4 (h₄) ?_;clear h₄;intro e9_0 ps'' hcl₄ G₄ htr₄ F₄ N₄;subst e9_0)
    have hcl₄':Cl s₁ s₄:=⟨hcl₄.1.trans hcl.1,fun _=>G₄⟩
    have zI:s₄.heap.get? I=some oI:=(N₄ _ (.head _)).1
    have zC:s₄.heap.get? (I + 2)=some oC:=(N₄ _ (.tail _ (.head _))).1
    have zd:s₄.heap.get? (I + 3)=some od:=(N₄ _ (.tail _ (.tail _ (.head _)))).1
    have N₄':News h₀ L s₄.heap ((I + 1,lst (((its.take i).filter pz).map Value.ref))::upd P (tabObj ps'') news):=fun p hp=>N₄ p (.tail _ (.tail _ (.tail _ hp)))
    by_cases hp:pz b=true
    ·refine rwl (if_pos hp ..) ?_
     refine wpAny_Name (wpAny_loadName_cell (hk _ _) (hx _ _) (by show List.lookup x ((x,I + 3)::cl)=_;(refine rwl (List.lookup_cons ..) ?_;refine rwl (beq_self_eq_true ..) ?_;with_reducible rfl)) ⟨od,zd,hodd⟩ ?_) hdbg
     have hln:(((its.take i).filter pz).map Value.ref).toArray.size≤sizeLine:=by
      (refine rwl (List.size_toArray ..) ?_;refine rwl (List.length_map ..) ?_;refine rwl (sizeLine_eq ..) ?_)
      refine Nat.le_trans (Nat.le_trans (List.length_filter_le _ _) ?_) (Nat.le_trans hl (by decide))
      refine rwl (List.length_take ..) ?_;exact Nat.min_le_right _ _
     refine append_at (hsz:=hln) (N₄' _ (.head _)).1 fun h₆ hs₆ hD₆=>?_
     have k6:∀ b o,b≠I + 1→s₄.heap.get? b=some o→h₆.get? b=some o:=fun b o hb e=>hs₆.extBut b o hb e
     refine i_EAE4A9 (its.length + 1 - (i + 1)) (by k_extra "ar") (i + 1) ps'' m' (some (.ref b)) ⟨hcl₄'.1,hcl₄'.2⟩ G₄ htr₄ hlt' rfl ⟨oI,k6 _ _ (Nat.ne_of_lt (Nat.lt_succ_self _)) zI,qI⟩ ?_ (hoC.ns (k6 _ _ (by simp) zC)) ⟨od,k6 _ _ (by simp) zd,hodd⟩ (fun p hp'=>?_)
     ·exact ⟨F₄.ns.at' fun o e=>k6 L o (Nat.ne_of_lt (Nat.lt_add_right 1 hLlt)) e,fun b o e=>k6 b o (fun q=>by (replace e:=(q ..)▸e;replace e:=(fr0 (I + 1) (Nat.le_add_right _ _) ..)▸e);cases e) (F₄.keep b o e),F₄.above⟩
     ·rcases List.mem_cons.mp hp' with rfl | hp'
      ·(refine rwl (ht ..) ?_;refine rwl (List.filter_append ..) ?_;refine rwl (List.filter_cons_of_pos hp ..) ?_;refine rwl (List.filter_nil ..) ?_;refine rwl (List.map_append ..) ?_;refine rwl (List.map_singleton ..) ?_)
       exact ⟨hD₆.trans (congrArg some (lst_snoc _ _)),(N₄' _ (.head _)).2⟩
      ·exact ⟨k6 _ _ (Nat.ne_of_lt (Nat.lt_add_right 1 (offU ps'' p hp'))) (N₄' _ (.tail _ hp')).1,(N₄' _ (.tail _ hp')).2⟩
    ·refine rwl (if_neg hp ..) ?_
     refine i_EAE4A9 (its.length + 1 - (i + 1)) (by k_extra "ar") (i + 1) ps'' m' (some (.ref b)) hcl₄' G₄ htr₄ hlt' rfl ⟨oI,zI,qI⟩ F₄ (hoC.ns zC) ⟨od,zd,hodd⟩ (fun p hp'=>?_)
     rcases List.mem_cons.mp hp' with rfl | hp'
     ·(refine rwl (ht ..) ?_;refine rwl (List.filter_append ..) ?_;refine rwl (List.filter_cons_of_neg hp ..) ?_;refine rwl (List.filter_nil ..) ?_;refine rwl (List.append_nil ..) ?_)
      exact N₄' _ (.head _)
     ·exact N₄' _ (.tail _ hp')
   ·obtain rfl:i=its.length:=Nat.le_antisymm hi (Nat.not_lt.mp hlt')
    refine W.done _ _ _ ⟨hit,hls'⟩ fun h₂ tk₂ hk₂=>?_
    have k2:∀ b o,b≠I→s'.heap.get? b=some o→h₂.get? b=some o:=fun b o hb e=>hk₂ b o (by simpa using hb) e
    replace N':=(List.take_length ..)▸N'
    refine ⟨m',nC'.at' fun o e=>k2 _ o (Nat.ne_of_gt (Nat.lt_add_of_pos_right (by decide))) e,fun h'' hs''=>?_⟩
    have k5:∀ b o,b≠I→b≠I + 2→s'.heap.get? b=some o→h''.get? b=some o:=fun b o h1 h2 e=>hs''.extBut b o h2 (k2 b o h1 e)
    refine fin (I + 1) _ ps' ⟨hcl.1,hcl.2⟩ G' htr' ?_ (fun p hp=>?_) (fun p hp=>Nat.ne_of_lt (Nat.lt_add_right 1 (offN p hp)))
    ·exact ⟨F'.ns.at' fun o e=>k5 L o (Nat.ne_of_lt hLlt) (Nat.ne_of_lt (Nat.lt_add_right 2 hLlt)) e,fun b o e=>k5 b o (fun q=>by (replace e:=(q ..)▸e;replace e:=(fr0 I (Nat.le_refl _) ..)▸e);cases e) (fun q=>by (replace e:=(q ..)▸e;replace e:=(fr0 (I + 2) (Nat.le_add_right _ _) ..)▸e);cases e) (F'.keep b o e),F'.above⟩
    ·refine ⟨?_,(N' p hp).2⟩
     rcases List.mem_cons.mp hp with rfl | hp
     ·exact k5 _ _ (Nat.ne_of_gt (Nat.lt_succ_self _)) (by simp) (N' _ (.head _)).1
     ·exact k5 _ _ (Nat.ne_of_lt (offU ps' p hp)) (Nat.ne_of_lt (Nat.lt_add_right 2 (offU ps' p hp))) (N' _ (.tail _ hp)).1
  ·rcases List.mem_cons.mp hp with rfl | hp
   ·exact ⟨gD,Nat.ne_of_gt (Nat.lt_add_right 1 hLlt),fr0 _ (Nat.le_add_right _ _)⟩
   ·have z:=news_updOf N hP p hp
    exact ⟨u1 _ _ z.1,z.2⟩
 exact codeAny_compStart_list loop (W.self 0 _ _ _ ⟨⟨_,gI,rfl,rfl⟩,by (refine e_EA (hls) ?_;clear hls;intro o e r);exact ⟨o,u1 _ _ e,r⟩⟩ loop)
end
noncomputable def Wk (ways:List (Str×Str)):Nat→Str→Str→Prop
 | 0,a,x=>a=x
 | k + 1,a,x=>∃ y,(a,y)∈ways∧Wk ways k y x
theorem Wk.snoc {ways:List (Str×Str)}:∀ {k:Nat} {a x:Str},Wk ways (k + 1) a x↔∃ y,Wk ways k a y∧(y,x)∈ways
 | 0,a,x=>by
  constructor
  ·intro e8_0;(refine e_EA (e8_0) ?_;clear e8_0;intro y h e9_2;subst e9_2);exact ⟨a,rfl,h⟩
  ·intro e8_0;(refine e_EA (e8_0) ?_;clear e8_0;intro y e9_1 h;subst e9_1);exact ⟨x,h,rfl⟩
 | k + 1,a,x=>by
  constructor
  ·intro e8_0;(refine e_EA (e8_0) ?_;clear e8_0;intro y h h')
   (refine e_EA (Wk.snoc.mp h') ?_;intro z h1 h2)
   exact ⟨z,⟨y,h,h1⟩,h2⟩
  ·intro e8_0;(refine e_EA (e8_0) ?_;clear e8_0;intro z e9_1 h2;obtain ⟨y,h,h1⟩:=e9_1)
   exact ⟨y,h,Wk.snoc.mpr ⟨z,h1,h2⟩⟩
theorem Wk.congr {w1 w2:List (Str×Str)} (h:∀ l,l∈w1↔l∈w2):∀ {k:Nat} {a x:Str},Wk w1 k a x↔Wk w2 k a x
 | 0,_,_=>Iff.rfl
 | _ + 1,_,_=>exists_congr fun _=>and_congr (h _) (Wk.congr h)
noncomputable def addNew (near:List Str):List Str→List Str
 | []=>near
 | r::rest=>addNew (if near.any (· == r) then near else near++[r]) rest
theorem addNew_n {near:List Str}:addNew near []=near:=rfl
theorem addNew_c {near rest:List Str} {r:Str}:addNew near (r::rest)=addNew (if near.any (· == r) then near else near++[r]) rest:=rfl
noncomputable def nearStep (ways:List (Str×Str)) (near:List Str):List Str:=addNew near ((ways.filter fun l=>near.any (· == l.1)).map (·.2))
noncomputable def nears (ways:List (Str×Str)) (a:Str):Nat→List Str
 | 0=>[a]
 | i + 1=>nearStep ways (nears ways a i)
theorem nears_n {ways:List (Str×Str)} {a:Str}:nears ways a 0=[a]:=rfl
theorem nears_c {ways:List (Str×Str)} {a:Str} {i:Nat}:nears ways a (i + 1)=nearStep ways (nears ways a i):=rfl
theorem any_mem {l:List Str} {x:Str}:l.any (· == x)=true↔x∈l:=by simp
theorem mem_addNew:∀ {rs near:List Str} {x:Str},x∈addNew near rs↔x∈near∨x∈rs
 | [],near,x=>by simp [addNew_n]
 | r::rs,near,x=>by
  ((first | rewrite [addNew_c] | rewrite [addNew_n]);refine rwl (propext (mem_addNew ..)) ?_)
  by_cases h:near.any (· == r)=true
  ·refine rwl (if_pos h ..) ?_
   rw [any_mem] at h
   constructor
   ·rintro (q | q)
    ·exact .inl q
    ·exact .inr (.tail _ q)
   ·rintro (q | q)
    ·exact .inl q
    ·rcases List.mem_cons.mp q with rfl | q
     ·exact .inl h
     ·exact .inr q
  ·(refine rwl (if_neg h ..) ?_;refine rwl (propext (List.mem_append ..)) ?_;refine rwl (propext (List.mem_singleton ..)) ?_;refine rwl (propext (List.mem_cons ..)) ?_;refine rwl (propext (or_assoc ..)) ?_;with_reducible rfl)
theorem mem_nears {ways:List (Str×Str)} {a:Str}:∀ {k:Nat} {x:Str},x∈nears ways a k↔∃ j,j≤k∧Wk ways j a x
 | 0,x=>by
  ((first | rewrite [nears_c] | rewrite [nears_n]);refine rwl (propext (List.mem_singleton ..)) ?_)
  constructor
  ·rintro rfl;exact ⟨0,Nat.le_refl _,rfl⟩
  ·intro e8_0;(refine e_EA (e8_0) ?_;clear e8_0;intro j hj h)
   obtain rfl:j=0:=Nat.le_zero.mp hj
   exact h.symm
 | k + 1,x=>by
  ((first | rewrite [nears_c] | rewrite [nears_n]);rewrite [nearStep];refine rwl (propext (mem_addNew ..)) ?_;refine rwl (propext (mem_nears ..)) ?_)
  constructor
  ·rintro (⟨j,hj,h⟩ | h)
   ·exact ⟨j,Nat.le_succ_of_le hj,h⟩
   ·(refine e_EA (List.mem_map.mp h) ?_;intro l hl e9_2;subst e9_2)
    (refine e_A (List.mem_filter.mp hl) ?_;intro h1 h2)
    (refine e_EA (mem_nears.mp (any_mem.mp h2)) ?_;intro j hj h3)
    exact ⟨j + 1,Nat.succ_le_succ hj,Wk.snoc.mpr ⟨_,h3,h1⟩⟩
  ·intro e8_0;(refine e_EA (e8_0) ?_;clear e8_0;intro j hj h)
   cases j with
   | zero=>exact .inl ⟨0,Nat.zero_le _,h⟩
   | succ j =>
    (refine e_EA (Wk.snoc.mp h) ?_;intro y h1 h2)
    exact .inr (List.mem_map.mpr ⟨(y,x),List.mem_filter.mpr ⟨h2,any_mem.mpr (mem_nears.mpr ⟨j,Nat.le_of_succ_le_succ hj,h1⟩)⟩,rfl⟩)
noncomputable def nextN (links:List (Str×Str)):List Str→List Str→List Str
 | acc,[]=>acc
 | acc,r::rest=>nextN links (acc++(outs links r).filter fun x=>!acc.any (· == x)) rest
theorem nextN_n {links:List (Str×Str)} {acc:List Str}:nextN links acc []=acc:=rfl
theorem nextN_c {links:List (Str×Str)} {acc rest:List Str} {r:Str}:nextN links acc (r::rest)=nextN links (acc++(outs links r).filter fun x=>!acc.any (· == x)) rest:=rfl
noncomputable def hasL (links:List (Str×Str)) (name:Str):Nat→List Str→Bool
 | 0,_=>false
 | l + 1,rs=>if rs=[] then false else rs.any (· == name) || hasL links name l (nextN links [] rs)
theorem hasL_c {links:List (Str×Str)} {name:Str} {l:Nat} {rs:List Str}:hasL links name (l + 1) rs=if rs=[] then false else rs.any (· == name) || hasL links name l (nextN links [] rs):=rfl
theorem mem_nextN {links:List (Str×Str)}:∀ {rs acc:List Str} {x:Str},x∈nextN links acc rs↔x∈acc∨∃ r∈rs,(r,x)∈links
 | [],acc,x=>by simp [nextN_n]
 | r::rs,acc,x=>by
  ((first | rewrite [nextN_c] | rewrite [nextN_n]);refine rwl (propext (mem_nextN ..)) ?_;refine rwl (propext (List.mem_append ..)) ?_;refine rwl (propext (List.mem_filter ..)) ?_;refine rwl (propext (mem_outs ..)) ?_)
  constructor
  ·rintro ((h | ⟨h,_⟩) | ⟨q,hq,h⟩)
   ·exact .inl h
   ·exact .inr ⟨r,.head _,h⟩
   ·exact .inr ⟨q,.tail _ hq,h⟩
  ·rintro (h | ⟨q,hq,h⟩)
   ·exact .inl (.inl h)
   ·rcases List.mem_cons.mp hq with rfl | hq
    ·by_cases hx:x∈acc
     ·exact .inl (.inl hx)
     ·exact .inl (.inr ⟨h,by (refine rwl (Bool.not_eq_true' ..) ?_;refine rwr (Bool.not_eq_true ..) ?_;refine rwl (propext (any_mem ..)) ?_);exact hx⟩)
    ·exact .inr ⟨q,hq,h⟩
theorem nodup_nextN {links:List (Str×Str)} (hl:links.Nodup):∀ {rs acc:List Str},acc.Nodup→(nextN links acc rs).Nodup
 | [],acc,h=>h
 | r::rs,acc,h=>by
  (first | rw [nextN_c] | rw [nextN_n])
  refine nodup_nextN hl ?_
  refine rwl (propext (List.nodup_append ..)) ?_
  refine ⟨h,List.Nodup.sublist List.filter_sublist ?_,?_⟩
  ·unfold outs
   have:(links.filter (·.1 == r)).Nodup:=hl.sublist List.filter_sublist
   unfold List.Nodup at this ⊢
   refine rwl (propext (List.pairwise_map ..)) ?_
   refine this.imp_of_mem ?_
   intro e8_0 e8_1 h1 h2 hn e;obtain ⟨a,b⟩:=e8_0;obtain ⟨c,d⟩:=e8_1
   have e1:=beq_iff_eq.mp (List.mem_filter.mp h1).2
   have e2:=beq_iff_eq.mp (List.mem_filter.mp h2).2
   dsimp only at e1 e2 e
   exact hn (by (refine rwl (e1 ..) ?_;refine rwl (e2 ..) ?_;refine rwl (e ..) ?_;with_reducible rfl))
  ·intro x hx y hy e
   have:=(List.mem_filter.mp hy).2
   rw [Bool.not_eq_true',← Bool.not_eq_true,any_mem] at this
   exact this (e▸hx)
theorem hasL_iff {links:List (Str×Str)} {name:Str}:∀ {l:Nat} {rs:List Str},hasL links name l rs=true↔∃ j r,j < l∧r∈rs∧Wk links j r name
 | 0,rs=>by
  constructor
  ·intro h;nomatch h
  ·intro e8_0;(refine e_E2A (e8_0) ?_;clear e8_0;intro j r h _);exact absurd h (Nat.not_lt_zero _)
 | l + 1,rs=>by
  rw [hasL_c]
  by_cases hr:rs=[]
  ·refine rwl (if_pos hr ..) ?_
   constructor
   ·intro h;nomatch h
   ·intro e8_0;(refine e_E2A2 (e8_0) ?_;clear e8_0;intro j r _ h _);rw [hr] at h;nomatch h
  ·(refine rwl (if_neg hr ..) ?_;refine rwl (Bool.or_eq_true ..) ?_;refine rwl (propext (any_mem ..)) ?_;refine rwl (propext (hasL_iff ..)) ?_)
   constructor
   ·rintro (h | ⟨j,r,hj,h,hw⟩)
    ·exact i_E2A2 0 name (Nat.succ_pos _) h rfl
    ·rcases mem_nextN.mp h with h | ⟨q,hq,h⟩
     ·nomatch h
     ·exact ⟨j + 1,q,Nat.succ_lt_succ hj,hq,r,h,hw⟩
   ·intro e8_0;(refine e_E2A2 (e8_0) ?_;clear e8_0;intro j r hj h hw)
    cases j with
    | zero=>exact .inl (by refine rwr (show r=name from hw) ?_;exact h)
    | succ j =>
     (refine e_EA (hw) ?_;clear hw;intro y h1 h2)
     exact .inr ⟨j,y,Nat.lt_of_succ_lt_succ hj,mem_nextN.mpr (.inr ⟨r,h,h1⟩),h2⟩
theorem hasL_nears {links ways:List (Str×Str)} (h:∀ l,l∈links↔l∈ways) (a b:Str) (k:Nat):hasL links b (k + 1) [a]=(nears ways a k).any (· == b):=by
 (refine rwl (propext (Bool.eq_iff_iff ..)) ?_;refine rwl (propext (hasL_iff ..)) ?_;refine rwl (propext (any_mem ..)) ?_;refine rwl (propext (mem_nears ..)) ?_)
 constructor
 ·intro e8_0;(refine e_E2A2 (e8_0) ?_;clear e8_0;intro j r hj hr hw)
  rw [List.mem_singleton.mp hr] at hw
  exact ⟨j,Nat.le_of_lt_succ hj,(Wk.congr h).mp hw⟩
 ·intro e8_0;(refine e_EA (e8_0) ?_;clear e8_0;intro j hj hw)
  exact i_E2A2 j a (Nat.lt_succ_of_le hj) (.head _) ((Wk.congr h).mpr hw)
theorem nextN_snoc {links:List (Str×Str)} {r:Str}:∀ {l acc:List Str},nextN links acc (l++[r])=nextN links acc l++(outs links r).filter fun x=>!(nextN links acc l).any (· == x)
 | [],acc=>rfl
 | q::l,acc=>by
  (refine rwl (List.cons_append ..) ?_;(first | rewrite [nextN_c] | rewrite [nextN_n]);refine rwl (nextN_snoc ..) ?_;(first | rw [nextN_c] | rw [nextN_n]))
theorem RmIn.at_mem {prog:Program} {w:World} {h₀ h:Heap} {L:Addr} {news:Led} {R:RmA} (I:RmIn prog w news R) (N:News h₀ L h news) {acc:List Addr} {ns:List Str} {a:Addr} {n:Str} (h:F2 (At R.roles) acc ns) (hat:At R.roles a n):acc.any (fun o=>a == o)=ns.any (· == n):=by
 (refine rwl (propext (Bool.eq_iff_iff ..)) ?_;refine rwl (propext (List.any_eq_true ..)) ?_;refine rwl (propext (any_mem ..)) ?_)
 (refine e_EA2 (hat) ?_;clear hat;intro p hp e9_2 e9_3;subst e9_2;subst e9_3)
 constructor
 ·intro e8_0;(refine e_EA (e8_0) ?_;clear e8_0;intro o ho e)
  obtain rfl:=beq_iff_eq.mp e
  (refine e_EA (h.left ho) ?_;intro y hy hat)
  refine rwr (I.at_fun N hp hat ..) ?_;exact hy
 ·intro hn
  (refine e_EA (h.right hn) ?_;intro a' ha' hat)
  exact ⟨a',ha',by refine rwl (I.at_nm hp hat ..) ?_;exact beq_self_eq_true _⟩
theorem name_cell {M:Model} {A:Around} {E:Value→Shared→Prop} {s:Shared} {h₀:Heap} {L:Addr} {news:Led} {env:Env} {n:Str} {pos:Pos} {c:Addr} {oc:Obj} {v:Value} {Q:Value→Shared→Prop} (N:News h₀ L s.heap news) (hm:(c,oc)∈news) (hd:oc.data=.cell (some v)) (hk:env.scope.kind=.function) (hl:env.kindOf n=some .cell) (hc:env.cells.lookup n=some c)
  (h:Q v s) (hb:(n == ("__debug__":Str))=false):wpAny M A (eval (.Name n pos) env) Q E s:=wpAny_Name (wpAny_loadName_cell hk hl hc ⟨oc,(N _ hm).1,hd⟩ h) hb
noncomputable def HasAt (prog:Program) (w:World) (n2:Str) (l:Nat):Prop :=
 ∀ {p:Program} {loose:List Str} {mean:ExcName→Option Value} {mg mb:Str→Option Value} {dp un:Nat} {gd:Option (List Code)} {cn:Str} {cs:Scope} {a:Addr} {ccd:Value} {cl:List (Str×Addr)} {outer:List Env} {A₀:Around} {base h₀:Heap} {L:Addr} {m:Str→Option Value} {s:Shared} {Q E:Value→Shared→Prop} {news:Led}
  (R:RmA) (t2 tl:Tok) (D:Addr) (as:List Addr) (k:Nat) (ns:List Str) (ps:Array Value) (B:Below A₀ base outer h₀) (F:Fr h₀ L s.heap m) (X:(Kp w.params).In h₀) (N:News h₀ L s.heap news) (T:Top p loose mean mg mb h₀) (hk:cs.kind=.function) (hdp:dp + (3 * l + 9) < recursionLimit) (hun:un + (24 * l + 120) < cLine),
  CodeHd h₀ 908 906→AllBare s.gens→RmIn prog w news R→¬ R.own 906→(906,tabObj ps)∈news→TriplesOk ps.toList→(D,refsO as k)∈news→NeA D 906→ns.Nodup→F2 (At R.roles) as ns →
  (∀ s' ps',s'.os=s.os→AllBare s'.gens→TriplesOk ps'.toList→Fr h₀ L s'.heap m→News h₀ L s'.heap (upd 906 (tabObj ps') news)→Q (.bool (hasL R.links n2 l ns)) s') →
  wpAny (model prog w) (ktrTop dp un gd cn cs L a ccd cl outer) (call (.ref 909) [.ref R.x,.str n2 t2,.ref D,.int (l:Int) tl]) Q E s
section
variable {M:Model} {A:Around} {E:Value→Shared→Prop} {s:Shared} {h₀:Heap} {L:Addr} {m:Str→Option Value} {news:Led} {env:Env}
theorem store_cell {n:Str} {c:Addr} {oc:Obj} {v₀:Option Value} {v:Value} {Q:Unit→Shared→Prop} (F:Fr h₀ L s.heap m) (N:News h₀ L s.heap news) (hk:env.scope.kind=.function) (hl:env.kindOf n=some .cell) (hc:env.cells.lookup n=some c)
  (hm:(c,oc)∈news) (hd:oc.data=.cell v₀) (h:∀ h' o',o'.data=.cell (some v)→Fr h₀ L h' m→News h₀ L h' (upd c o' news)→Q () { s with heap:=h' }):wpAny M A (storeName env n v) Q E s:=by
 refine wpAny_storeName_cell hk hl hc ⟨oc,(N _ hm).1,hd⟩ fun h' hc' hs'=>?_
 (refine e_EA (hc') ?_;clear hc';intro o' ho' hd')
 have z:=N _ hm
 refine h h' o' hd' (F.change hs' z.2.1 z.2.2) fun p hp=>?_
 rcases of_mem_upd hp with rfl | ⟨hp,hn⟩
 ·exact ⟨ho',z.2⟩
 ·exact ⟨hs'.extBut _ _ hn (N p hp).1,(N p hp).2⟩
end
section
variable {prog:Program} {w:World} {p:Program} {loose:List Str} {mean:ExcName→Option Value} {mg mb:Str→Option Value}
 {dp un:Nat} {gd:Option (List Code)} {cn:Str} {cs:Scope} {a:Addr} {ccd:Value} {cl:List (Str×Addr)} {outer:List Env} {A₀:Around} {base h₀:Heap} {L:Addr} {m:Str→Option Value} {s:Shared} {Q E:Value→Shared→Prop} {news:Led}

theorem has_zero (n2:Str):HasAt prog w n2 0:=by
 intro p loose mean mg mb dp un gd cn cs a ccd cl outer A₀ base h₀ L m s Q E news R t2 tl D as k ns ps B F X N T hk hdp hun C G I hPo hP ht hD hDP hnd hF ret
 have hx:=I.x
 have hd:=I.d
 (refine call_res ?_;k_extra "kC")
 iterate 14 k_extra "w"
 exact ret _ ps rfl G ht (by k_asm) (news_updOf (news_sub (by k_asm) fun p hp=>.tail _ hp) hP)
theorem has_succ (n2:Str) (hn2:n2∈Names) (l:Nat) (hl:l≤5) (IH:HasAt prog w n2 l):HasAt prog w n2 (l + 1):=by
 intro p loose mean mg mb dp un gd cn cs a ccd cl outer A₀ base h₀ L m s Q E news R t2 tl D as k ns ps B F X N T hk hdp hun C G I hPo hP ht hD hDP hnd hF ret
 have hx:=I.x
 have hd:=I.d
 have hns:∀ x∈ns,x∈Names:=fun x hx=>by (refine e_EAEA2 (hF.right hx) ?_;intro b _ r hr _ e9_5;subst e9_5);exact I.names r hr
 have hlen:as.length≤6:=by refine rwl (hF.length ..) ?_;exact nodup_le hnd hns
 have hnx:∀ ks:List Str,(nextN R.links [] ks).Nodup:=fun ks=>nodup_nextN I.nodup .nil
 have hacl:∀ (acc:List Addr) (ks:List Str),ks ⊆ ns→F2 (At R.roles) acc (nextN R.links [] ks)→acc.length≤6:=fun acc ks _ h=>by
  refine rwl (h.length ..) ?_
  refine nodup_le (hnx ks) (m:=Names) fun x hx=>?_
  (refine e_EAEA2 (h.right hx) ?_;intro b _ q hq _ e9_5;subst e9_5)
  exact I.names q hq
 (refine call_res ?_;k_extra "kC")
 rename_i oc hoc
 iterate 8 k_extra "w"
 refine rwl (if_neg (show ¬ (decide (((l + 1:Nat):Int)≤0)=true) by simp only [decide_eq_true_eq];omega) ..) ?_
 iterate 8 k_extra "w"
 refine call_len_list (News.isList (by k_asm) (.tail _ hD)) (by simp;omega) ?_
 iterate 3 k_extra "w"
 by_cases h0:as=[]
 ·subst h0
  cases hF
  refine rwl (if_pos (by rfl) ..) ?_
  iterate 5 k_extra "w"
  exact ret _ ps rfl G ht (by k_asm) (news_updOf (news_sub (by k_asm) fun p hp=>.tail _ hp) hP)
 rw [if_neg (show ¬ ((((as.map Value.ref).toArray.size:Int) == 0)=true) by
  (refine rwl (propext (beq_iff_eq ..)) ?_;refine rwl (List.size_toArray ..) ?_;refine rwl (List.length_map ..) ?_)
  intro e
  exact h0 (List.eq_nil_of_length_eq_zero (by omega)))]
 iterate 8 k_extra "w"
 refine list0 (by k_asm) (by k_asm) ?_
 intro nr knr h5 F5 N5 lnr
 refine store_cell (by k_asm) (by k_asm) rfl rfl rfl (by k_mem) hoc ?_
 intro h6 oc6 hoc6 F6 N6
 have keep6:∀ p∈news,p∈upd (L' + 1) oc6 ((nr,listOf #[] knr)::(L' + 1,oc)::news):=fun p hp=>mem_upd (.tail _ (.tail _ hp)) (Nat.ne_of_lt (Nat.lt_succ_of_lt (l1 p hp)))
 have hnr6:(nr,refsO [] knr)∈upd (L' + 1) oc6 ((nr,listOf #[] knr)::(L' + 1,oc)::news):=mem_upd (.head _) (Nat.ne_of_gt (lnr _ (.head _)))
 have hc6:(L' + 1,oc6)∈upd (L' + 1) oc6 ((nr,listOf #[] knr)::(L' + 1,oc)::news):=mem_upd_self
 have hnrP:NeA nr 906:=⟨Nat.ne_of_gt (lnr _ (.tail _ hP))⟩
 generalize upd (L' + 1) oc6 ((nr,listOf #[] knr)::(L' + 1,oc)::news)=news6 at N6 keep6 hnr6 hc6
 have hDc:NeA D (L' + 1):=⟨Nat.ne_of_lt (Nat.lt_succ_of_lt (l1 _ hD))⟩
 clear lnr
 k_extra "w"
 refine for_list_x g' ?_ rfl rfl (by intro _;rfl) (by passes_own)
 k_extra "w"
 refine fun _ kM=>kM (fun i nw=>∃ ps' nr' k' acc od,TriplesOk ps'.toList∧(∀ p∈upd 906 (tabObj ps') news,p∈nw)∧od.data=.cell (some (.ref nr'))∧(L' + 1,od)∈nw∧(nr',refsO acc k')∈nw∧NeA nr' 906∧F2 (At R.roles) acc (nextN R.links [] (ns.take i))∧∀ x∈ns.take i,x≠n2) (fun s'=>Cl s s'∧AllBare s'.gens) D (as.map Value.ref) k _ _ ?_ rfl ⟨⟨rfl,id⟩,G⟩ rfl (by k_asm) (by k_asm) (keep6 _ hD) ?_ ?_ ?_
 ·exact fun s' h t hs=>⟨⟨hs.1.1,hs.1.2⟩,hs.2⟩
 ·refine i_E5A7 ps nr knr ([]) oc6 ht ?_ hoc6 hc6 hnr6 hnrP .nil (by simp)
  intro p hp
  rcases of_mem_upd hp with rfl | ⟨hp,_⟩
  ·exact keep6 _ hP
  ·exact keep6 _ hp
 ·intro i v news₁ s₂ I₂ oI hG hv e8_8 hS off F₁ N₁;(refine e_E5A7 (e8_8) ?_;clear e8_8;intro ps' nr' k' acc od ht' hsub hod hcm hnrm hnP hacc hne)
  have hv':(as.map Value.ref)[i]?=some v:=hv
  replace hv':=(List.getElem?_map ..)▸hv'
  (refine e_EA (Option.map_eq_some_iff.mp hv') ?_;intro b hb e9_2;subst e9_2)
  (refine e_EAEA2 (hF.nth hb) ?_;intro nm hnm r hr e9_4 e9_5;subst e9_4;subst e9_5)
  have I':RmIn prog w news₁ R:=(I.off hPo).sub hsub
  have hatm:∀ a n,At R.roles a n→acc.any (fun o=>a == o)=(nextN R.links [] (ns.take i)).any (· == n):=fun a n hat=>I'.at_mem (news_sub N₁ fun p hp=>.tail _ hp) hacc hat
  have Ir:=I'.roles r hr
  have hcm2:(L' + 1,od)∈(I₂,oI)::news₁:=.tail _ hcm
  have rx:=Ir.x
  have rd:=Ir.d
  have rl:=Ir.l
  iterate 9 k_extra "w"
  by_cases heq:n2=r.a.nm
  ·refine rwl (if_pos (by rw [heq];exact beq_self_eq_true _) ..) ?_
   iterate 3 k_extra "w"
   unfold ForStepX
   k_extra "w"
   have hany:ns.any (· == n2)=true:=any_mem.mpr (heq▸List.mem_of_getElem? hnm)
   have hh:hasL R.links n2 (l + 1) ns=true:=by
    (rewrite [hasL_c];refine rwl (if_neg (fun e=>by replace hnm:=(e ..)▸hnm;simp at hnm) ..) ?_;refine rwl (hany ..) ?_;refine rwl (Bool.true_or ..) ?_;with_reducible rfl)
   replace ret:=(hh ..)▸ret
   exact ret _ ps' hG.1.1 hG.2 ht' (by k_asm) (news_sub (by k_asm) fun p hp=>.tail _ (hsub p hp))
  refine rwl (if_neg (by simpa using heq) ..) ?_
  iterate 4 k_extra "w"
  refine name_cell (by k_asm) hcm2 hod rfl rfl rfl ?_ (by decide)
  (refine e_E2 (bmod_of_top T') ?_;intro bm ob M)
  have hP1:(906,tabObj ps')∈(I₂,oI)::news₁:=.tail _ (hsub _ mem_upd_self)
  have hrlP:NeA r.a.rl 906:=⟨fun e=>hPo (e▸(I.own.2.2.2.2.2 r hr).2.2.1)⟩
  have instR:InstsIn 814 r.rs ((I₂,oI)::news₁):=fun b hb=>(I'.instsR hr b hb).imp fun _ h=>.tail _ h
  have instA:InstsIn 814 acc ((I₂,oI)::news₁):=fun b hb=>by
   (refine e_EAEA2 (hacc.left hb) ?_;intro n _ q hq e9_4 _;subst e9_4)
   exact ⟨_,.tail _ (I'.roles q hq).x⟩
  have hnr1:(nr',refsO acc k')∈(I₂,oI)::news₁:=.tail _ hnrm
  have hlenR:=I'.rsLen hr
  refine comp_cell (P:=906) (fun b=>!(acc.any (fun o=>b == o))) (by k_asm) rfl ?_ (by rfl) (by rfl) (by decide) (by intro _;rfl) (by intro _;rfl) (by intro _ _;rfl) (by intro _ _;rfl) (by decide) (by intro _;rfl)
  iterate 3 k_extra "w"
  refine .mk _ r.rs r.k _ ps' rfl (by k_asm) (by k_asm) (by k_mem) (by k_extra "ar") hP1 ht' hrlP hG.2 ?_ ?_
  ·intro b2 hb2 I₃ oI₃ C₃ oC₃ d od₃ D₃ oD₃ ps₃ st E₃ hcl₃ G₃ ht₃ hod₃ nI nC nd nD F₃ N₃
   (refine e_E (instR b2 hb2) ?_;intro b2d hb2d)
   have hb2P:NeA b2 906:=newsNe N₁ hb2d hP1 (by nofun)
   have hnr3:(nr',refsO acc k')∈(I₃,oI₃)::(C₃,oC₃)::(d,od₃)::(D₃,oD₃)::upd 906 (tabObj ps₃) ((I₂,oI)::news₁):=.tail _ (.tail _ (.tail _ (.tail _ (mem_upd hnr1 hnP.out))))
   have hcm3:(L' + 1,od)∈(I₃,oI₃)::(C₃,oC₃)::(d,od₃)::(D₃,oD₃)::upd 906 (tabObj ps₃) ((I₂,oI)::news₁):=.tail _ (.tail _ (.tail _ (.tail _ (mem_upd hcm2 (Nat.ne_of_gt (Nat.lt_succ_of_lt (l1 _ hP)))))))
   iterate 7 k_extra "w"
   refine gen_refs (c:=908) (P:=906) (fun o=>b2 == o) (by k_asm) rfl M T'.nolimit rfl (C.keeps FG'.keep) (by ktr_room) ?_ rfl (by decide) (by decide) (by decide) rfl rfl (by intro _;rfl)
   refine name_cell (by k_asm) hcm3 hod rfl rfl rfl ?_ (by decide)
   refine i_E5A8 _ acc k' _ ps₃ rfl (by k_asm) (by k_asm) hnr3 G₃ (.tail _ (.tail _ (.tail _ (.tail _ mem_upd_self)))) ht₃ ?_ ?_
   ·intro code' C₄ A' E' o t m₂ hA hD' hU ho hn hm2 hkp
    (refine e_E (instA o ho) ?_;intro o2 ho2)
    have hoP:NeA o 906:=newsNe N₁ ho2 hP1 (by nofun)
    k_extra "w"
    refine wpAny_Name (wpAny_loadName_free rfl rfl rfl ⟨_,hkp _ _ nd.out (get_of_news N₃ (.tail _ (.tail _ (.head _)))),hod₃⟩ ?_) (by decide)
    refine wpAny_Name (wpAny_loadName_local rfl rfl hn hm2 ?_) (by decide)
    refine is_refs (hkp _ _ hb2P.out (get_of_news N₃ (.tail _ (.tail _ (.tail _ (.tail _ (mem_upd hb2d hb2P.out))))))) (hkp _ _ hoP.out (get_of_news N₃ (.tail _ (.tail _ (.tail _ (.tail _ (mem_upd ho2 hoP.out))))))) (by nofun) ?_
    exact i_AE2A rfl _ _ rfl (fun _ _ e=>e)
   ·intro a₅ s₅ K₅ ps5 F₅ N₅ ht5 G₅ hos5 hLK hle X₅
    k_extra "w"
    refine any_rowsK F₅ G₅ X₅ hLK (fun j=>(acc[j]?).elim false (b2 == ·)) ?_ ?_
    ·intro j v t Q' E' e8_5 hQ;(refine e_EA (e8_5) ?_;clear e8_5;intro b hb e9_2;subst e9_2)
     dsimp only at hQ
     replace hQ:=(hb ..)▸hQ
     exact wpAny_truthy_bool hQ
    ·intro s₆ F₆ G₆ hos₆ hk₆
     have hall:(List.range acc.length).any (fun j=>(acc[j]?).elim false (b2 == ·))=acc.any (fun o=>b2 == o):=by
      (refine rwl (propext (Bool.eq_iff_iff ..)) ?_;refine rwl (propext (List.any_eq_true ..)) ?_;refine rwl (propext (List.any_eq_true ..)) ?_)
      constructor
      ·intro e8_0;(refine e_EA (e8_0) ?_;clear e8_0;intro j hj e)
       replace e:=(List.getElem?_eq_getElem (List.mem_range.mp hj) ..)▸e
       exact ⟨_,List.getElem_mem _,e⟩
      ·intro e8_0;(refine e_EA (e8_0) ?_;clear e8_0;intro o ho e)
       obtain ⟨j,hj,rfl⟩:=List.getElem_of_mem ho
       exact ⟨j,List.mem_range.mpr hj,by refine rwl (List.getElem?_eq_getElem hj ..) ?_;exact e⟩
     refine rwl (hall ..) ?_
     have N₆:News g' L' s₆.heap (upd 906 (tabObj ps5) _):=fun p hp=>⟨hk₆ _ _ (by
      rcases of_mem_upd hp with rfl | ⟨h,_⟩
      ·exact hle (906,tabObj ps₃) (.tail _ (.tail _ (.tail _ (.tail _ mem_upd_self))))
      ·exact hle p h) (N₅ p hp).1,(N₅ p hp).2⟩
     k_extra "w"
     k_extra "w"
     ·rfl
     ·refine i_EA4 ps5 ⟨hos₆.trans hos5,fun _=>G₆⟩ G₆ ht5 (by k_asm) (news_sub N₆ (List.forall_mem_cons.mpr ⟨mem_upd (.head _) nI.out,List.forall_mem_cons.mpr ⟨mem_upd (.tail _ (.head _)) nC.out,List.forall_mem_cons.mpr ⟨mem_upd (.tail _ (.tail _ (.head _))) nd.out,List.forall_mem_cons.mpr ⟨mem_upd (.tail _ (.tail _ (.tail _ (.head _)))) nD.out,fun p hp=>?_⟩⟩⟩⟩))
      rcases of_mem_upd hp with rfl | ⟨hp,hn⟩
      ·exact mem_upd_self
      ·exact mem_upd (.tail _ (.tail _ (.tail _ (.tail _ (mem_upd hp hn))))) hn
  ·intro D₃ s₃ ps₃ hcl₃ G₃ ht₃ F₃ N₃ off₃
   refine add_lists2 (vs:=acc.map Value.ref) (k:=k') (by k_asm) (by k_asm) (.tail _ (mem_upd hnr1 hnP.out)) (.head _) ?_ ?_
   ·have h1:=List.length_filter_le (fun b=>!(acc.any (fun o=>b == o))) r.rs
    (refine rwl (List.length_map ..) ?_;refine rwl (List.length_map ..) ?_);have:=hacl acc _ (List.take_prefix i ns).sublist.subset hacc;k_extra "ar"
   intro nq h7 F7 N7 l7
   replace N7:=(Eq.symm (List.map_append ..))▸N7
   have hc7:(L' + 1,od)∈(nq,refsO (acc++r.rs.filter fun b=>!(acc.any (fun o=>b == o))) 0)::(D₃,lst ((r.rs.filter fun b=>!(acc.any (fun o=>b == o))).map Value.ref))::upd 906 (tabObj ps₃) ((I₂,oI)::news₁):=.tail _ (.tail _ (mem_upd hcm2 (Nat.ne_of_gt (Nat.lt_succ_of_lt (l1 _ hP)))))
   have hI7:(I₂,oI)∈(nq,refsO (acc++r.rs.filter fun b=>!(acc.any (fun o=>b == o))) 0)::(D₃,lst ((r.rs.filter fun b=>!(acc.any (fun o=>b == o))).map Value.ref))::upd 906 (tabObj ps₃) ((I₂,oI)::news₁):=.tail _ (.tail _ (mem_upd (.head _) (Ne.symm (off _ (hsub _ mem_upd_self)))))
   refine store_cell (by k_asm) (by k_asm) rfl rfl rfl hc7 hod ?_
   intro h8 od8 hod8 F8 N8
   k_extra "w"
   have eI:I₂≠L' + 1:=Ne.symm (off _ hcm)
   have eI2:I₂≠906:=Ne.symm (off _ (hsub _ mem_upd_self))
   have eP:(906:Addr)≠L' + 1:=Nat.ne_of_lt (Nat.lt_succ_of_lt (l1 _ hP))
   have enq:nq≠L' + 1:=Nat.ne_of_gt (l7 _ (.tail _ (mem_upd hcm2 (Ne.symm eP))))
   have enP:nq≠906:=Nat.ne_of_gt (l7 _ (.tail _ mem_upd_self))
   have enI:nq≠I₂:=Nat.ne_of_gt (l7 _ (.tail _ (mem_upd (.head _) eI2)))
   have ht1:ns.take (i + 1)=ns.take i++[r.a.nm]:=by (refine rwl (List.take_add_one ..) ?_;refine rwl (hnm ..) ?_);rfl
   refine i_EA5 (upd (L' + 1) od8 ((nq,refsO (acc++r.rs.filter fun b=>!(acc.any (fun o=>b == o))) 0)::upd 906 (tabObj ps₃) news₁)) ⟨⟨hcl₃.1.trans hG.1.1,fun _=>G₃⟩,G₃⟩ (by k_asm) (news_sub (by k_asm) ?_) ?_ ?_ ?_
   ·refine List.forall_mem_cons.mpr ⟨mem_upd (.tail _ (.tail _ (mem_upd (.head _) eI2))) eI,sub_upd (sub_cons (sub_skip (sub_upd (sub_skip sub_rfl))))⟩
   ·intro p hp
    rcases of_mem_upd hp with rfl | ⟨hp,_⟩
    ·exact Ne.symm eI
    ·rcases List.mem_cons.mp hp with rfl | hp
     ·exact enI
     ·rcases of_mem_upd hp with rfl | ⟨hp,_⟩
      ·exact Ne.symm eI2
      ·exact off p hp
   ·exact mem_upd (.tail _ (mem_upd hS hDP.out)) hDc.out
   ·refine i_E5A7 ps₃ nq 0 _ od8 ht₃ (fun p hp=>?_) hod8 mem_upd_self (mem_upd (.head _) enq) ⟨enP⟩ ?_ (fun x hx=>?_)
    ·rcases of_mem_upd hp with rfl | ⟨hp,hn⟩
     ·exact mem_upd (.tail _ mem_upd_self) eP
     ·exact mem_upd (.tail _ (mem_upd (hsub p (mem_upd hp hn)) hn)) (Nat.ne_of_lt (Nat.lt_succ_of_lt (l1 p hp)))
    ·(refine rwl (ht1 ..) ?_;refine rwl (nextN_snoc ..) ?_)
     refine hacc.append ((I'.rs r hr).filter _ _ fun a n hat=>?_)
     (refine rwl (hatm a n hat ..) ?_;with_reducible rfl)
    ·replace hx:=(ht1 ..)▸hx
     rcases List.mem_append.mp hx with hx | hx
     ·exact hne x hx
     ·refine rwl (List.mem_singleton.mp hx ..) ?_;exact Ne.symm heq
 ·intro s' o news₁ hG F₁ N₁ e8_6;(refine e_E5A7 (e8_6) ?_;clear e8_6;intro ps' nr' k' acc od ht' hsub hod hcm hnrm hnP hacc hne)
  have I':RmIn prog w news₁ R:=(I.off hPo).sub hsub
  have hx':=I'.x
  have hd':=I'.d
  have hlm:(as.map Value.ref).length=ns.length:=by (refine rwl (List.length_map ..) ?_;refine rwl (hF.length ..) ?_;with_reducible rfl)
  (replace hacc:=(hlm ..)▸hacc;replace hacc:=(List.take_length ..)▸hacc;replace hne:=(hlm ..)▸hne;replace hne:=(List.take_length ..)▸hne)
  have hacl':acc.length≤6:=hacl acc ns (fun _ h=>h) hacc
  have hany:ns.any (· == n2)=false:=by
   (refine rwr (Bool.not_eq_true ..) ?_;refine rwl (propext (any_mem ..)) ?_)
   exact fun h=>hne _ h rfl
  have hh:hasL R.links n2 (l + 1) ns=hasL R.links n2 l (nextN R.links [] ns):=by
   (rewrite [hasL_c];refine rwl (hany ..) ?_;refine rwl (Bool.false_or ..) ?_;rw [if_neg])
   rintro rfl
   exact h0 (List.eq_nil_of_length_eq_zero hF.length)
  replace ret:=(hh ..)▸ret
  iterate 15 k_extra "w"
  refine kup_listOf (zs:=acc.map Value.ref) (by k_asm) (by k_asm) hnrm (by simp) ?_ (by (refine rwl (List.toList_toArray ..) ?_;refine rwl (List.length_map ..) ?_;refine rwl (sizeLine_eq ..) ?_);k_extra "ar")
  intro D2 c2 h2 F2' N2 l2
  have hP2:(906,tabObj ps')∈(D2,listOf (acc.map Value.ref).toArray c2)::news₁:=.tail _ (hsub _ mem_upd_self)
  have hD2P:NeA D2 906:=⟨Nat.ne_of_gt (l2 _ (hsub _ mem_upd_self))⟩
  iterate 7 k_extra "w"
  refine rwl (show ((l + 1:Nat):Int) - 1=(l:Int) by omega) ?_
  refine IH R t2 _ D2 acc c2 (nextN R.links [] ns) ps' (by k_asm) (by k_asm) (by k_asm) (by k_asm) (by k_asm) rfl (by ktr_room) (by ktr_units) (C.keeps FG'.keep) hG.2 (I'.sub fun p hp=>.tail _ hp) hPo hP2 ht' (.head _) hD2P (hnx ns) hacc ?_
  intro s3 ps3 os3 G3 ht3 F3 N3
  k_extra "w"
  refine ret _ ps3 (os3.trans hG.1.1) G3 ht3 (by k_asm) (news_sub (by k_asm) fun p hp=>?_)
  rcases of_mem_upd hp with rfl | ⟨hp,hn⟩
  ·exact mem_upd_self
  ·exact mem_upd (.tail _ (hsub p (mem_upd hp hn))) hn
end
noncomputable def affL (D:DmA) (cov:Bool) (dm:Str):List Str:=(D.rms.map (·.1)).filter fun k=>if cov then covS k dm else k == dm
theorem f2_maps {α β γ:Type} {R:β→γ→Prop} {g:α→β} {h:α→γ}:∀ {l:List α},(∀ r∈l,R (g r) (h r))→F2 R (l.map g) (l.map h)
 | [],_=>.nil
 | r::l,k=>.cons (k r (.head _)) (f2_maps fun q hq=>k q (.tail _ hq))
theorem filter_single {a:Str}:∀ {l:List Str},l.Nodup→a∈l→l.filter (fun k=>k == a)=[a]
 | [],_,h=>nomatch h
 | b::l,hn,h=>by
  rw [List.nodup_cons] at hn
  refine rwl (List.filter_cons ..) ?_
  by_cases e:b=a
  ·subst e
   (refine rwl (beq_self_eq_true ..) ?_;refine rwl (if_pos rfl ..) ?_;refine rwl (List.filter_eq_nil_iff.mpr fun k hk e=>hn.1 (by rw [← beq_iff_eq.mp e];exact hk) ..) ?_;with_reducible rfl)
  ·refine rwl (beq_eq_false_iff_ne.mpr e ..) ?_
   rcases List.mem_cons.mp h with rfl | h
   ·exact absurd rfl e
   ·simpa using filter_single hn.2 h
section
variable {prog:Program} {w:World} {p:Program} {loose:List Str} {mean:ExcName→Option Value} {mg mb:Str→Option Value}
 {dp un:Nat} {gd:Option (List Code)} {cn:Str} {cs:Scope} {a:Addr} {ccd:Value} {cl:List (Str×Addr)} {outer:List Env} {A₀:Around} {base h₀:Heap} {L:Addr} {m:Str→Option Value} {s:Shared} {Q E:Value→Shared→Prop} {news:Led}

theorem affected {D:DmA} {x:Addr} (hxe:D.x=x) (cov:Bool) (hcov:D.fn=if cov then .ref 1177 else .none) (dm:Str) (t:Tok) (hdm:dm∈Places) (B:Below A₀ base outer h₀) (F:Fr h₀ L s.heap m) (X:(Kp w.params).In h₀) (N:News h₀ L s.heap news) (T:Top p loose mean mg mb h₀) (hk:cs.kind=.function) (hdp:dp + 20 < recursionLimit) (hun:un + 160 < cLine) (M:DmMem prog w news D)
 (ret:∀ h' tk' q k as,Fr h₀ L h' m→News h₀ L h' ((q,refsO as k)::news)→(∀ p∈news,p.1≠q)→F2 (fun a nm=>∃ r∈D.rms,r.1=nm∧r.2.x=a) as (affL D cov dm)→Q (.ref q) { s with heap:=h',toks:=tk' })
 : codeAny (model prog w) (ktrTop dp un gd cn cs L a ccd cl outer) (.call (.ref 1073) ⟨[.ref x,.str dm t],[]⟩) (kRes Q E) s:=by
 subst hxe
 have hx:=M.x
 have hd:=M.d
 (refine e_EA (M.rm) ?_;intro orm hrm drm)
 have lor:=M.lor
 k_extra "kRC"
 rename_i oP oS hoP hoS
 iterate 2 k_extra "w"
 k_extra "kS1"
 refine get_dom1 D.x dm t (by k_asm) (by k_asm) (by k_asm) (by k_asm) (by k_asm) rfl (by ktr_room) (by ktr_units) ?_
 intro h5 tk5 F5 N5
 try dsimp only
 refine store_cell (by k_asm) (by k_asm) rfl rfl rfl (.tail _ (.head _)) hoP ?_
 intro h6 oP6 hoP6 F6 N6
 have lt1:∀ p∈news,p.1 < L':=fun p hp=>l1 p (.tail _ hp)
 have lS:L' + 1≠L' + 1 + 1:=Nat.ne_of_lt (Nat.lt_succ_self _)
 obtain ⟨news6,N7,hsub6,hS6,hP6⟩:∃ nw,News g' L' h6 nw∧(∀ p∈news,p∈nw)∧(L' + 1,oS)∈nw∧(L' + 1 + 1,oP6)∈nw :=
  ⟨_,N6,fun p hp=>mem_upd (.tail _ (.tail _ (.tail _ (.tail _ hp)))) (Nat.ne_of_lt (Nat.lt_succ_of_lt (Nat.lt_succ_of_lt (lt1 p hp)))),mem_upd (.tail _ (.tail _ (.head _))) lS,mem_upd_self⟩
 clear N6
 have M6:=M.sub hsub6
 have hx6:=M6.x
 have hd6:=M6.d
 have hrm6:=hsub6 _ hrm
 unfold dmD dmDE at hd6
 cases cov with
 | true =>
  rw [show D.fn=.ref 1177 from hcov] at hd6
  iterate 7 k_extra "w"
  refine ne_fn_none ((covers_ok (prog:=prog)).ty X' (Fr.keep (by k_asm)) (by k_asm) (fun _ h=>nomatch h)) (by ktr_units) ?_
  iterate 4 k_extra "w"
  refine comp_keys (fun k=>covS k dm) (fun k=>(valueAt (D.rms.map fun q=>(q.1,Value.ref q.2.x)) k).getD .none) (by k_asm) rfl ?_ (by rfl) (by decide) (by rfl) (by decide) (by decide) (by intro _;rfl)
  iterate 4 k_extra "w"
  refine kdl_method (knd:=PySem.strKind _ _) PySem.F.slot_dict_keys PySem.F.type_dict_keys (by k_asm) (by k_mem) drm ?_
  k_extra "w"
  refine kdl_view_keys (knd:=strKind _ _) (by k_asm) (by k_asm) (by k_mem) drm lor ?_
  intro vw h10 F10 N10 l10
  have hkm:((D.rms.map fun q=>(q.1,Value.ref q.2.x)).map Prod.fst)=D.rms.map (·.1):=by refine rwl (List.map_map ..) ?_;rfl
  refine .mk vw D.rm orm _ _ rfl (by k_asm) (by k_asm) (.head _) (by k_mem) drm (by refine rwl (List.length_map ..) ?_;have:=M.fewr;k_extra "ar") ?_ ?_ ?_
  ·intro k hk I oI C oC D₂ ys m₂ h tk E' hns hb F'' N''
   (refine e_E (hb) ?_;clear hb;intro t2 hb)
   try dsimp only
   have hkl:k.length≤100:=by
    rw [hkm] at hk
    (refine e_EA (List.mem_map.mp hk) ?_;intro r hr e9_2;subst e9_2)
    exact places_short (M.rms r hr).nm
   iterate 15 k_extra "w"
   refine meh (covers_ok (prog:=prog)) k dm t2 t hkl (places_short hdm) (by k_asm) (by k_asm) (by k_asm) (by k_asm) (by k_asm) rfl (by ktr_room) (by ktr_units) (fun _ h=>nomatch h) ?_
   intro h12 tk12 F12 N12
   k_extra "w"
   exact i_AE2A2 rfl _ _ rfl F12 N12
  ·intro k hk I oI C oC D₂ ys m₂ h tk E' hns hb F'' N''
   (refine e_E (hb) ?_;clear hb;intro t2 hb)
   try dsimp only
   iterate 5 k_extra "w"
   (refine e_A (List.mem_filter.mp hk) ?_;intro hk1 hk2)
   rw [hkm] at hk1
   (refine e_EA (List.mem_map.mp hk1) ?_;intro r hr e9_2;subst e9_2)
   have hv:valueAt (D.rms.map fun q=>(q.1,Value.ref q.2.x)) r.1=some (.ref r.2.x):=valueAt_mem (mf_nd M.rmnd) (List.mem_map_of_mem (f:=fun q:Str×RmA=>(q.1,Value.ref q.2.x)) hr)
   refine kdt_tail (knd:=PySem.strKind _ _) (by k_asm) (by k_mem) drm ?_
   refine kdt_getItem (knd:=PySem.strKind _ _) (by k_asm) (by k_mem) drm (strKind_is _ _ _ _) hv ?_
   refine i_AE2A2 (by refine rwl (hv ..) ?_;rfl) _ _ rfl (by k_asm) (by k_asm)
  ·intro D₂ h tk F'' N'' hD2
   have el:(((D.rms.map fun q=>(q.1,Value.ref q.2.x)).map Prod.fst).filter fun k=>covS k dm).map (fun k=>(valueAt (D.rms.map fun q=>(q.1,Value.ref q.2.x)) k).getD .none)=((D.rms.filter fun r=>covS r.1 dm).map fun r=>r.2.x).map Value.ref:=by
    (refine rwl (hkm ..) ?_;refine rwl (List.filter_map ..) ?_;refine rwl (List.map_map ..) ?_;refine rwl (List.map_map ..) ?_)
    refine List.map_congr_left fun r hr=>?_
    have hr':=(List.mem_filter.mp hr).1
    show (valueAt _ r.1).getD .none=Value.ref r.2.x
    refine rwl (valueAt_mem (v:=.ref r.2.x) (mf_nd M.rmnd) (List.mem_map_of_mem (f:=fun q:Str×RmA=>(q.1,Value.ref q.2.x)) hr') ..) ?_
    rfl
   rw [el] at N''
   k_extra "w"
   refine ret _ _ D₂ _ _ (by k_asm) (news_sub (by k_asm) (sub_cons fun p hp=>.tail _ (hsub6 p hp))) (fun p hp=>hD2 p (.tail _ (hsub6 p hp))) ?_
   unfold affL
   simp only [if_true]
   refine rwl (List.filter_map ..) ?_
   exact f2_maps fun r hr=>⟨r,(List.mem_filter.mp hr).1,rfl,rfl⟩
 | false =>
  rw [show D.fn=.none from hcov] at hd6
  iterate 18 k_extra "w"
  by_cases hin:dm∈D.rms.map (·.1)
  ·(refine e_EA (List.mem_map.mp hin) ?_;intro r hr e9_2;subst e9_2)
   have hv:valueAt (D.rms.map fun q=>(q.1,Value.ref q.2.x)) r.1=some (.ref r.2.x):=valueAt_mem (mf_nd M.rmnd) (List.mem_map_of_mem (f:=fun q:Str×RmA=>(q.1,Value.ref q.2.x)) hr)
   refine kda_in (knd:=strKind _ _) (by k_asm) (by k_mem) drm lor (strKind_is _ _ _ _) true (by refine rwl (hv ..) ?_;rfl) ?_
   iterate 9 k_extra "w"
   refine kdt_tail (knd:=PySem.strKind _ _) (by k_asm) (by k_mem) drm ?_
   refine kdt_getItem (knd:=PySem.strKind _ _) (by k_asm) (by k_mem) drm (strKind_is _ _ _ _) hv ?_
   iterate 3 k_extra "w"
   refine ret _ _ _ 0 [r.2.x] (by k_asm) (news_sub (by k_asm) (sub_cons fun p hp=>hsub6 p hp)) ?_ ?_
   ·suffices h:∀ p∈news6,p.1 < _ from fun p hp=>Nat.ne_of_lt (h p (hsub6 p hp))
    assumption
   ·unfold affL
    simp only [Bool.false_eq_true,if_false]
    refine rwl (filter_single M.rmnd hin ..) ?_
    exact .one ⟨r,hr,rfl,rfl⟩
  ·refine kda_in (knd:=strKind _ _) (by k_asm) (by k_mem) drm lor (strKind_is _ _ _ _) false (by refine rwl (valueAt_none (mf_in hin) ..) ?_;rfl) ?_
   iterate 6 k_extra "w"
   refine ret _ _ _ _ [] (by k_asm) (news_sub (by k_asm) (sub_cons fun p hp=>hsub6 p hp)) ?_ ?_
   ·suffices h:∀ p∈news6,p.1 < _ from fun p hp=>Nat.ne_of_lt (h p (hsub6 p hp))
    assumption
   ·unfold affL
    have:(D.rms.map (·.1)).filter (fun k=>k == dm)=[]:=List.filter_eq_nil_iff.mpr fun k hk e=>hin (by refine rwr (beq_iff_eq.mp e ..) ?_;exact hk)
    simp only [Bool.false_eq_true,if_false]
    refine rwl (this ..) ?_
    exact .nil
end
theorem RmIn.namesL {prog:Program} {w:World} {news:Led} {R:RmA} (I:RmIn prog w news R):NamesL R.links:=fun l hl=>by
 (refine e_A (I.ends l hl) ?_;intro h1 h2)
 (refine e_EA (List.mem_map.mp h1) ?_;intro r hr e)
 (refine e_EA (List.mem_map.mp h2) ?_;intro q hq e')
 exact ⟨e▸I.names r hr,e'▸I.names q hq⟩
theorem stp_off {own own':Addr→Prop} {news news':Led} (S:Stp own own' news news') {a:Addr} {o:Obj} (h:(a,o)∈news) (hn:¬ own a):¬ own' a:=fun q=>(S.new a q).elim hn fun f=>f _ h rfl
theorem stp_skip {own own':Addr→Prop} {x:Addr×Obj} {news news':Led} (S:Stp own own' (x::news) news'):Stp own own' news news':=⟨fun p hp=>S.keep p (.tail _ hp),fun a ha=>(S.new a ha).imp id fun h p hp=>h p (.tail _ hp),S.more⟩
theorem table_mem {own own':Addr→Prop} {news l:Led} {P:Addr} {o:Obj} (_:Stp own own' news (upd P o l)):(P,o)∈upd P o l:=mem_upd_self
section
variable {prog:Program} {w:World} {p:Program} {loose:List Str} {mean:ExcName→Option Value} {mg mb:Str→Option Value}
 {dp un:Nat} {gd:Option (List Code)} {cn:Str} {cs:Scope} {a:Addr} {ccd:Value} {cl:List (Str×Addr)} {outer:List Env} {A₀:Around} {base h₀:Heap} {L:Addr} {m:Str→Option Value} {s:Shared} {Q E:Value→Shared→Prop} {news:Led}

set_option maxHeartbeats 2000000 in
theorem rm_delete_link {R:RmA} {os:Led} (K:FnOk prog w R.lam os eqS) (n1 n2:Str) (t1 t2:Tok) (dm:Str) (td:Tok) (ps:Array Value) (hn1:n1∈Names) (hn2:n2∈Names) (B:Below A₀ base outer h₀) (F:Fr h₀ L s.heap m) (X:(Kp w.params).In h₀) (N:News h₀ L s.heap news) (T:Top p loose mean mg mb h₀) (hk:cs.kind=.function) (hdp:dp + 30 < recursionLimit) (hun:un + 240 < cLine) (C:CodeHd h₀ 744 742) (G:AllBare s.gens)
 (I:RmIn prog w news R) (ho:∀ p∈os,p∈news) (hoff:∀ p∈os,¬ R.own p.1) (hPo:¬ R.own 742) (hos:∀ p∈os,p.1≠742) (hP:(742,tabObj ps)∈news) (ht:TriplesOk ps.toList) (hseq:R.seq=R.links) (hin:(n1,n2)∈R.links)
 (ret:∀ s' news' R' ps',s'.os=s.os→AllBare s'.gens→Fr h₀ L s'.heap m→News h₀ L s'.heap news'→RmIn prog w news' R'→Stp (fun a=>R.own a∨a=742) (fun a=>R'.own a∨a=742) news news'→(742,tabObj ps')∈news'→TriplesOk ps'.toList→¬ R'.own 742 →
  R'.x=R.x→R'.lam=R.lam→R'.lvl=R.lvl→R'.seq=R'.links→R'.links=R.links.erase (n1,n2)→Q .none s')
 : codeAny (model prog w) (ktrTop dp un gd cn cs L a ccd cl outer) (.call (.ref 897) ⟨[.ref R.x,.str n1 t1,.str n2 t2,.str dm td],[]⟩) (kRes Q E) s:=by
 have hx:=I.x
 have hd:=I.d
 have hal:=I.al
 have hlen:R.seq.length≤20:=I.few2
 have hNm:NamesL R.seq:=hseq▸I.namesL
 have htp:=I.tup
 k_extra "kR"
 iterate 9 k_extra "w"
 refine kup_newTuple (by k_asm) (by k_asm) ?_ (by exact Nat.le_of_ble_eq_true rfl)
 intro T h5 F5 N5 lT
 iterate 3 k_extra "w"
 refine pairs_notin (ls:=R.seq) (l:=(n1,n2)) (by k_asm) (by k_mem) htp (fun p hp=>.tail _ (.tail _ hp)) (pairD_in (.head _)) hNm ⟨hn1,hn2⟩ (by ktr_units) true ⟨fun _=>by refine rwl (hseq ..) ?_;exact hin,fun _=>rfl⟩ ?_
 iterate 18 k_extra "w"
 refine kup_newTuple (by k_asm) (by k_asm) ?_ (by exact Nat.le_of_ble_eq_true rfl)
 intro T2 h6 F6 N6 lT2
 k_extra "w"
 refine pairs_remove (ls:=R.seq) (l:=(n1,n2)) (by k_asm) (by k_asm) (by k_mem) htp (fun p hp=>.tail _ (.tail _ (.tail _ hp))) (pairD_in (.head _)) hNm ⟨hn1,hn2⟩ (by refine rwl (hseq ..) ?_;exact hin) (by k_extra "ar") (by ktr_units) ?_
 intro h7 j F7 N7 ht7
 have herl:(R.seq.erase (n1,n2)).length≤20:=Nat.le_trans List.length_erase_le hlen
 (refine e_A ((I.sub fun p hp=>.tail _ (.tail _ (.tail _ hp))).pop N6 (k:=R.kl + 1) (ht7.sub fun p hp=>.tail _ (.tail _ (.tail _ hp))) (fun t ht=>(List.eraseIdx_sublist _ _).subset ht) herl) ?_;intro I1 S1)
 have hx1:(R.x,instObj 929 R.d)∈_:=I1.x
 have hd1:(R.d,rmD w.params R)∈_:=I1.d
 have S1':=stp_skip (stp_skip (stp_skip S1))
 generalize hL7:upd R.al (refsO (R.tups.eraseIdx j) (R.kl + 1)) _=news7 at N7 I1 S1 hx1 hd1 S1'
 clear S1
 have ho7:∀ p∈os,p∈news7:=fun p hp=>S1'.keep p (ho p hp) (hoff p hp)
 have hP7:(742,tabObj ps)∈news7:=S1'.keep _ hP hPo
 iterate 10 k_extra "w"
 refine get_role (R:=R.pop (R.tups.eraseIdx j) (R.seq.erase (n1,n2)) (R.kl + 1)) rfl K n1 t1 hn1 (by k_asm) (by k_asm) (by k_asm) (by k_asm) (by k_asm) rfl (by ktr_room) (by ktr_units) I1 ho7 hoff ?_
 intro h8 tk8 news8 R8 u F8 N8 I8 S8 Sm8 e8 hu8 un8
 have hx8:(R.x,instObj 929 R8.d)∈news8:=by have:=I8.x;rw [Sm8.x] at this;exact this
 have hd8:=I8.d
 have S18:=S1'.trans S8
 have ho8:∀ p∈os,p∈news8:=fun p hp=>S18.keep p (ho p hp) (hoff p hp)
 have hlam8:R8.lam=R.lam:=Sm8.lam
 iterate 11 k_extra "w"
 refine get_role (R:=R8) Sm8.x (hlam8▸K) n2 t2 hn2 (by k_asm) (by k_asm) (by k_asm) (by k_asm) (by k_asm) rfl (by ktr_room) (by ktr_units) I8 ho8 (fun p hp h=>(S18.new _ h).elim (hoff p hp) fun f=>f p (ho p hp) rfl) ?_
 intro h9 tk9 news9 R9 v F9 N9 I9 S9 Sm9 e9 hv9 vn9
 have hx9:(R.x,instObj 929 R9.d)∈news9:=by have:=I9.x;rw [Sm9.x,Sm8.x] at this;exact this
 have hd9:=I9.d
 have S19:=S18.trans S9
 have hu9:=e9 u hu8
 have Ju:=I9.roles u hu9
 have Jv:=I9.roles v hv9
 have ux:=Ju.x
 have ud:=Ju.d
 have ul:=Ju.l
 have vx:=Jv.x
 have vd:=Jv.d
 have vu:=Jv.u
 have hP9:(742,tabObj ps)∈news9:=S19.keep _ hP hPo
 have hPo9:¬ R9.own 742:=stp_off S19 hP hPo
 have hinj9:∀ a∈R9.roles,∀ b∈R9.roles,a.a.x=b.a.x→a=b:=fun a ha b hb e=>I9.x_inj N9 ha hb e
 have hdinj9:∀ a∈R9.roles,∀ b∈R9.roles,a.a.d=b.a.d→a=b:=fun a ha b hb e=>I9.d_inj N9 ha hb e
 have lk9:=fun (q q2:Addr) (k k2:Nat) (fq:∀ p∈news9,p.1≠q) (fq2:∀ p∈news9,p.1≠q2) (hqq:q≠q2)=>I9.unlinked N9 hu9 hv9 (k:=k) (k2:=k2) fq fq2 hqq rfl
 have hmem9:v.a.x∈u.rs:=by
  (refine e_EA ((I9.rs u hu9).right (mem_outs.mpr (show (u.a.nm,n2)∈R9.links by (refine rwl (un8 ..) ?_;refine rwl (Sm9.links ..) ?_;refine rwl (Sm8.links ..) ?_);exact hin))) ?_;intro b hb hat)
  rw [← vn9] at hat
  refine rwr (I9.at_nm hv9 hat ..) ?_;exact hb
 have eP1:NeA 742 v.a.d:=(newsNe N9 hP9 vd (by nofun))
 have eP2:NeA 742 u.a.d:=(newsNe N9 hP9 ud (by nofun))
 iterate 11 k_extra "w"
 refine remove_role u.a v.a (fun e=>by (refine rwl (hinj9 v hv9 u hu9 e ..) ?_;with_reducible rfl)) u.rs v.us u.k v.k2 ps (by k_asm) (by k_asm) (by k_asm) (by k_asm) (by k_asm) rfl (by ktr_room) (by ktr_units) (C.keeps FG'.keep) G ux ud ul (by have:=I9.rsLen hu9;k_extra "ar") (I9.instsR hu9) vx vd vu (by have:=I9.usLen hv9;k_extra "ar") (I9.instsU hv9) (fun e=>by (refine rwl (hdinj9 v hv9 u hu9 e ..) ?_;with_reducible rfl)) hP9 ht hmem9 ?_
 intro s10 q q2 k10 k11 ps10 os10 G10 ht10 F10 fq fq2 hqq N10
 (refine e_A (lk9 q q2 k10 k11 fq fq2 hqq) ?_;intro I10 S10)
 have N11:=news_sub N10 (table_sub eP1.out eP2.out)
 have hPm:(742,tabObj ps)∈_:=S10.keep _ hP9 hPo9
 have S111:=((S19.trans S10).wider (·=742)).trans (Stp.table (o':=tabObj ps10) hPm)
 have I11:=I10.off (P:=742) (o:=tabObj ps10) (stp_off S10 hP9 hPo9)
 have hP11:=table_mem S111
 have hPo11:=stp_off S10 hP9 hPo9
 obtain ⟨u9,hu9',eux,eud,eun⟩:∃ z∈(R9.two u.a.x v.a.x q q2 (fun l=>l.filter fun b=>b != v.a.x) (fun l=>l.filter fun b=>b != u.a.x) k10 k11 (R9.links.filter fun l=>l != (u.a.nm,v.a.nm))).roles,z.a.x=u.a.x∧z.a.d=u.a.d∧z.a.nm=n1:=⟨_,List.mem_map_of_mem hu9,(two_x u).1,(two_x u).2.1,(two_x u).2.2.trans un8⟩
 obtain ⟨v9,hv9',evx,evd,evn⟩:∃ z∈(R9.two u.a.x v.a.x q q2 (fun l=>l.filter fun b=>b != v.a.x) (fun l=>l.filter fun b=>b != u.a.x) k10 k11 (R9.links.filter fun l=>l != (u.a.nm,v.a.nm))).roles,z.a.x=v.a.x∧z.a.d=v.a.d∧z.a.nm=n2:=⟨_,List.mem_map_of_mem hv9,(two_x v).1,(two_x v).2.1,(two_x v).2.2.trans vn9⟩
 have hl11:(R9.two u.a.x v.a.x q q2 (fun l=>l.filter fun b=>b != v.a.x) (fun l=>l.filter fun b=>b != u.a.x) k10 k11 (R9.links.filter fun l=>l != (u.a.nm,v.a.nm))).links=R.links.erase (n1,n2):=by
  show (R9.links.filter _)=_
  (refine rwl (un8 ..) ?_;refine rwl (vn9 ..) ?_;refine rwl (Sm9.links ..) ?_;refine rwl (Sm8.links ..) ?_;refine rwl (I.nodup.erase_eq_filter ..) ?_)
  rfl
 have hs11:(R9.two u.a.x v.a.x q q2 (fun l=>l.filter fun b=>b != v.a.x) (fun l=>l.filter fun b=>b != u.a.x) k10 k11 (R9.links.filter fun l=>l != (u.a.nm,v.a.nm))).seq=R.links.erase (n1,n2):=by show R9.seq=_;(refine rwl (Sm9.seq ..) ?_;refine rwl (Sm8.seq ..) ?_);show R.seq.erase _=_;(refine rwl (hseq ..) ?_;with_reducible rfl)
 have e11x:(R9.two u.a.x v.a.x q q2 (fun l=>l.filter fun b=>b != v.a.x) (fun l=>l.filter fun b=>b != u.a.x) k10 k11 (R9.links.filter fun l=>l != (u.a.nm,v.a.nm))).x=R.x:=by show R9.x=_;(refine rwl (Sm9.x ..) ?_;refine rwl (Sm8.x ..) ?_);rfl
 have e11d:(R9.two u.a.x v.a.x q q2 (fun l=>l.filter fun b=>b != v.a.x) (fun l=>l.filter fun b=>b != u.a.x) k10 k11 (R9.links.filter fun l=>l != (u.a.nm,v.a.nm))).d=R9.d:=rfl
 have e11m:(R9.two u.a.x v.a.x q q2 (fun l=>l.filter fun b=>b != v.a.x) (fun l=>l.filter fun b=>b != u.a.x) k10 k11 (R9.links.filter fun l=>l != (u.a.nm,v.a.nm))).lam=R.lam:=by show R9.lam=_;(refine rwl (Sm9.lam ..) ?_;refine rwl (Sm8.lam ..) ?_);rfl
 have e11v:(R9.two u.a.x v.a.x q q2 (fun l=>l.filter fun b=>b != v.a.x) (fun l=>l.filter fun b=>b != u.a.x) k10 k11 (R9.links.filter fun l=>l != (u.a.nm,v.a.nm))).lvl=R.lvl:=by show R9.lvl=_;(refine rwl (Sm9.lvl ..) ?_;refine rwl (Sm8.lvl ..) ?_);rfl
 have e11a:(R9.two u.a.x v.a.x q q2 (fun l=>l.filter fun b=>b != v.a.x) (fun l=>l.filter fun b=>b != u.a.x) k10 k11 (R9.links.filter fun l=>l != (u.a.nm,v.a.nm))).ar=R9.ar:=rfl
 have hd11:(R9.d,rmD w.params R9)∈_:=I11.d
 generalize (R9.two u.a.x v.a.x q q2 (fun l=>l.filter fun b=>b != v.a.x) (fun l=>l.filter fun b=>b != u.a.x) k10 k11 (R9.links.filter fun l=>l != (u.a.nm,v.a.nm)))=R11 at I11 S111 hPo11 hu9' hv9' hl11 hs11 e11x e11d e11m e11v e11a
 generalize upd 742 (tabObj ps10) _=news11 at N11 I11 S111 hP11 hd11
 have hx11:(R.x,instObj 929 R9.d)∈news11:=by have:=I11.x;rw [e11x,e11d] at this;exact this
 have u9x:=(I11.roles u9 hu9').x
 have u9d:=(I11.roles u9 hu9').d
 have v9x:=(I11.roles v9 hv9').x
 have v9d:=(I11.roles v9 hv9').d
 rw [eux,eud] at u9x
 rw [eud] at u9d
 rw [evx,evd] at v9x
 rw [evd] at v9d
 have hnms11:=I11.names
 have hroles11:=I11.roles
 have ho11:∀ p∈os,p∈news11:=fun p hp=>S111.keep p (ho p hp) fun h=>h.elim (hoff p hp) (hos p hp)
 (refine e_EA (I11.ar) ?_;intro oar11 har11 hod11)
 have hlo11:=I11.lo
 rw [e11a] at har11 hlo11
 clear N10 lk9
 k_extra "w"
 refine for_values_pure g' ?_ rfl rfl (by intro _;rfl) (by passes_own)
 iterate 4 k_extra "w"
 refine kdl_method (knd:=PySem.strKind _ _) PySem.F.slot_dict_values PySem.F.type_dict_values (by k_asm) har11 hod11 ?_
 k_extra "w"
 refine kdl_view_values (knd:=strKind _ _) (by k_asm) (by k_asm) har11 hod11 hlo11 ?_
 intro vw h10 F10 N10 l10
 refine fun _ kM=>kM vw _ _ _ _ _ rfl rfl (by k_asm) (by k_asm) (by k_mem) (.tail _ har11) hod11 ?_ ?_
 ·intro k vv I₁ oI hh tkh hkv Fh Nh
  (refine e_EA (List.mem_map.mp hkv) ?_;intro r hr e)
  cases e
  have rx:=(hroles11 r hr).x
  have rd:=(hroles11 r hr).d
  have rnm:=hnms11 r hr
  refine execs_pure Fh Nh ?_ ?_
  ·iterate 11 k_extra "w"
   refine ite_both (fun hne=>?_) (fun hne=>?_)
   ·iterate 20 k_extra "w"
    refine mfn_ps e11x (e11m▸K) u9.a.nm r.a.nm u9.a.tn r.a.tn (by refine rwl (eun ..) ?_;exact names_short hn1) (names_short rnm) (by k_asm) (by k_asm) (by k_asm) (by k_asm) (by k_asm) rfl (by ktr_room) (by ktr_units) (.tail _ (.tail _ I11.x)) (.tail _ (.tail _ I11.d)) (fun p hp=>.tail _ (.tail _ (ho11 p hp))) ?_
    intro h12 tk12 F12 N12
    refine rwl (show (r.a.nm == u9.a.nm)=false from by simpa using hne) ?_
    k_steps
    all_goals first | k_asm | rfl
   ·k_steps
    all_goals first | k_asm | rfl
  intro h13 tk13 F13 N13
  iterate 12 k_extra "w"
  refine ite_both (fun hne=>?_) (fun hne=>?_)
  ·iterate 20 k_extra "w"
   refine mfn_ps e11x (e11m▸K) v9.a.nm r.a.nm v9.a.tn r.a.tn (by refine rwl (evn ..) ?_;exact names_short hn2) (names_short rnm) (by k_asm) (by k_asm) (by k_asm) (by k_asm) (by k_asm) rfl (by ktr_room) (by ktr_units) (.tail _ (.tail _ I11.x)) (.tail _ (.tail _ I11.d)) (fun p hp=>.tail _ (.tail _ (ho11 p hp))) ?_
   intro h12 tk12 F12 N12
   refine rwl (show (r.a.nm == v9.a.nm)=false from by simpa using hne) ?_
   k_steps
   all_goals first | k_asm | rfl
  ·k_steps
   all_goals first | k_asm | rfl
 ·intro hh tkh o Fh Nh
  (k_extra "w";(try (k_unfold;(try dsimp only)));k_extra "w")
  exact ret _ news11 R11 ps10 os10 G10 (by k_asm) (news_sub (by k_asm) fun p hp=>.tail _ hp) I11 S111 hP11 ht10 hPo11 e11x e11m e11v (hs11.trans hl11.symm) hl11
end
structure DmKeep (D D':DmA):Prop where
 x:D'.x=D.x
 fn:D'.fn=D.fn
 lam:D'.lam=D.lam
 lvl:D'.lvl=D.lvl
 os:D'.os=D.os
 rms:D'.rms=D.rms
theorem lsOf_app {p:Str} {q:PlS}:∀ {pls:List PlS},q.ls=[]→lsOf (pls++[q]) p=lsOf pls p
 | [],h=>by
  unfold lsOf
  (refine rwl (List.nil_append ..) ?_;refine rwl (List.find?_cons ..) ?_)
  split
  ·rename_i e
   split at e
   ·refine rwr (Option.some.inj e ..) ?_;exact h
   ·nomatch e
  ·rfl
 | r::l,h=>by
  have ih:=lsOf_app (p:=p) (q:=q) (pls:=l) h
  unfold lsOf at ih ⊢
  (refine rwl (List.cons_append ..) ?_;refine rwl (List.find?_cons ..) ?_;refine rwl (List.find?_cons ..) ?_)
  by_cases e:r.nm=p
  ·(refine rwl (beq_iff_eq.mpr e ..) ?_;with_reducible rfl)
  ·refine rwl (beq_eq_false_iff_ne.mpr e ..) ?_;exact ih
theorem lsOf_set {p:Str} {r':PlS}:∀ {pls:List PlS},r'.nm∈pls.map (·.nm)→lsOf (pls.map fun q=>if q.nm=r'.nm then r' else q) p=if p=r'.nm then r'.ls else lsOf pls p
 | [],h=>nomatch h
 | q::l,h=>by
  unfold lsOf
  (refine rwl (List.map_cons ..) ?_;refine rwl (List.find?_cons ..) ?_;refine rwl (List.find?_cons ..) ?_)
  by_cases e:q.nm=r'.nm
  ·refine rwl (if_pos e ..) ?_
   by_cases ep:p=r'.nm
   ·(refine rwl (if_pos ep ..) ?_;refine rwl (ep ..) ?_;refine rwl (beq_self_eq_true ..) ?_;with_reducible rfl)
   ·have e1:(r'.nm == p)=false:=beq_eq_false_iff_ne.mpr (Ne.symm ep)
    have e2:(q.nm == p)=false:=by refine rwl (e ..) ?_;exact e1
    (refine rwl (if_neg ep ..) ?_;refine rwl (e1 ..) ?_;refine rwl (e2 ..) ?_)
    by_cases h':r'.nm∈l.map (·.nm)
    ·have:=lsOf_set (p:=p) h'
     unfold lsOf at this
     rw [if_neg ep] at this
     exact this
    ·rw [List.map_congr_left (g:=id) fun q hq=>by
      have:q.nm≠r'.nm:=fun e=>h' (by refine rwr (e ..) ?_;exact List.mem_map_of_mem (f:=fun q:PlS=>q.nm) hq)
      refine rwl (if_neg this ..) ?_;rfl,List.map_id]
  ·refine rwl (if_neg e ..) ?_
   have h':r'.nm∈l.map (·.nm):=by
    rw [List.map_cons,List.mem_cons] at h
    exact h.resolve_left fun x=>e x.symm
   have:=lsOf_set (p:=p) h'
   unfold lsOf at this
   by_cases eq:q.nm=p
   ·refine rwl (beq_iff_eq.mpr eq ..) ?_
    have ep:p≠r'.nm:=fun x=>e (eq.trans x)
    (refine rwl (if_neg ep ..) ?_;with_reducible rfl)
   ·refine rwl (beq_eq_false_iff_ne.mpr eq ..) ?_;exact this
section
variable {prog:Program} {w:World} {p:Program} {loose:List Str} {mean:ExcName→Option Value} {mg mb:Str→Option Value}
 {dp un:Nat} {gd:Option (List Code)} {cn:Str} {cs:Scope} {a:Addr} {ccd:Value} {cl:List (Str×Addr)} {outer:List Env} {A₀:Around} {base h₀:Heap} {L:Addr} {m:Str→Option Value} {s:Shared} {Q E:Value→Shared→Prop} {news:Led}

theorem dmb_add {D:DmA} {x:Addr} (hxe:D.x=x) (n1 n2 dm:Str) (s1 s2 t:Tok) (hn1:n1∈Names) (hn2:n2∈Names) (hdm:dm∈Places) (B:Below A₀ base outer h₀) (F:Fr h₀ L s.heap m) (X:(Kp w.params).In h₀) (N:News h₀ L s.heap news) (T:Top p loose mean mg mb h₀) (hk:cs.kind=.function) (hdp:dp + 10 < recursionLimit) (hun:un + 80 < cLine) (M:DmMem prog w news D) (hfew:(lsOf D.pls dm).length≤10)
 (ret:∀ h' tk' news' D',Fr h₀ L h' m→News h₀ L h' news'→DmMem prog w news' D'→Stp D.own D'.own news news'→DmKeep D D'→(∀ p,lsOf D'.pls p=if p=dm then lsOf D.pls dm++[(n1,n2)] else lsOf D.pls p)→Q .none { s with heap:=h',toks:=tk' })
 : codeAny (model prog w) (ktrTop dp un gd cn cs L a ccd cl outer) (.call (.ref 996) ⟨[.ref x,.str n1 s1,.str n2 s2,.str dm t],[]⟩) (kRes Q E) s:=by
 subst hxe
 have hx:=M.x
 have hd:=M.d
 k_extra "kR"
 iterate 2 k_extra "w"
 k_extra "kS1"
 refine get_links1 (D:=D) rfl dm t hdm (by k_asm) (by k_asm) (by k_asm) (by k_asm) (by k_asm) rfl (by ktr_room) (by ktr_units) (M.sub fun p hp=>by k_mem) ?_
 intro h5 tk5 news5 D5 r F5 N5 M5 S5 hD5 hr hrn
 have Pr:=M5.pls r hr
 have hra:=Pr.a
 have hls5:∀ p,lsOf D5.pls p=lsOf D.pls p:=by
  rcases hD5 with rfl | ⟨q,k,hno,rfl⟩
  ·exact fun _=>rfl
  ·exact fun p=>lsOf_app rfl
 have hkeep5:DmKeep D D5:=by
  rcases hD5 with rfl | ⟨q,k,hno,rfl⟩
  ·exact ⟨rfl,rfl,rfl,rfl,rfl,rfl⟩
  ·exact ⟨rfl,rfl,rfl,rfl,rfl,rfl⟩
 have hrl:r.ls=lsOf D.pls dm:=by (refine rwr (hls5 ..) ?_;refine rwl (lsOf_mem M5.plnd hr hrn ..) ?_;with_reducible rfl)
 iterate 14 k_extra "w"

 refine kup_newTuple (by k_asm) (by k_asm) ?_ (by exact Nat.le_of_ble_eq_true rfl)
 intro T h6 F6 N6 lT
 k_extra "w"

 refine append_upd (its:=(r.tups.map Value.ref).toArray) (n:=r.k) (by k_asm) (by k_asm) (by k_mem) ?_ (by (refine rwl (List.size_toArray ..) ?_;refine rwl (List.length_map ..) ?_;refine rwl (Pr.tup.length ..) ?_;refine rwl (hrl ..) ?_;refine rwl (sizeLine_eq ..) ?_);k_extra "ar")
 intro h7 F7 N7
 rw [refs_push] at N7
 (refine e_A (M5.setPl N6 (fun p hp=>.tail _ hp) hr (r':=⟨r.nm,r.a,r.k + 1,r.tups++[T],r.ls++[(n1,n2)]⟩) rfl rfl ((Pr.tup.sub fun p hp=>.tail _ hp).append (.one ⟨s1,s2,0,.head _⟩)) (fun l hl=>(List.mem_append.mp hl).elim (Pr.nms l) fun h=>by refine rwl (List.mem_singleton.mp h ..) ?_;exact ⟨hn1,hn2⟩) (by (refine rwl (List.length_append ..) ?_;refine rwl (hrl ..) ?_);show _ + 1≤20;omega) (fun t ht=>(List.mem_append.mp ht).imp id fun h p hp=>by refine rwl (List.mem_singleton.mp h ..) ?_;exact Nat.ne_of_lt (lT p hp))) ?_;intro M7 S7)
 k_steps
 refine ret _ _ _ _ (by k_asm) (by k_asm) M7 (stp_skip (stp_skip (S5.trans S7))) ⟨hkeep5.x,hkeep5.fn,hkeep5.lam,hkeep5.lvl,hkeep5.os,hkeep5.rms⟩ fun p=>?_
 show lsOf (D5.pls.map _) p=_
 have:=lsOf_set (p:=p) (r':=⟨r.nm,r.a,r.k + 1,r.tups++[T],r.ls++[(n1,n2)]⟩) (pls:=D5.pls) (List.mem_map.mpr ⟨r,hr,rfl⟩)
 (refine rwl (this ..) ?_;refine rwl (hls5 ..) ?_;refine rwl (hrl ..) ?_;refine rwl (hrn ..) ?_;with_reducible rfl)
end
theorem affL_nodup {prog:Program} {w:World} {news:Led} {D:DmA} (M:DmMem prog w news D) (cov:Bool) (dm:Str):(affL D cov dm).Nodup:=M.rmnd.sublist List.filter_sublist
noncomputable def RmsRel (f:List (Str×Str)→List (Str×Str)) (done:List Str) (p q:Str×RmA):Prop:=q.1=p.1∧q.2.x=p.2.x∧q.2.links=if p.1∈done then f p.2.links else p.2.links
theorem RmsRel.set {f:List (Str×Str)→List (Str×Str)} {done:List Str} {nm:Str} {R':RmA} {rms:List (Str×RmA)}:∀ {rms2:List (Str×RmA)},F2 (RmsRel f done) rms rms2→(rms.map (·.1)).Nodup→nm ∉ done →
  (∀ p∈rms,p.1=nm→R'.x=p.2.x∧R'.links=f p.2.links)→F2 (RmsRel f (done++[nm])) rms (rms2.map fun p=>if p.1=nm then (p.1,R') else p):=by
 intro rms2 h
 induction h with
 | nil=>intro _ _ _;exact .nil
 | @cons p q ps qs hpq h ih =>
  intro hn hd hR
  rw [List.map_cons,List.nodup_cons] at hn
  refine rwl (List.map_cons ..) ?_
  refine .cons ?_ (ih hn.2 hd fun p hp=>hR p (.tail _ hp))
  (refine e_A2 (hpq) ?_;clear hpq;intro e1 e2 e3)
  by_cases e:q.1=nm
  ·refine rwl (if_pos e ..) ?_
   have ep:p.1=nm:=e1▸e
   (refine e_A (hR p (.head _) ep) ?_;intro r1 r2)
   exact ⟨e1,r1,by refine rwl (if_pos (by rw [ep];simp) ..) ?_;exact r2⟩
  ·refine rwl (if_neg e ..) ?_
   have ep:p.1≠nm:=fun x=>e (e1.trans x)
   refine ⟨e1,e2,?_⟩
   refine rwl (e3 ..) ?_
   by_cases hp:p.1∈done
   ·(refine rwl (if_pos hp ..) ?_;refine rwl (if_pos (List.mem_append_left _ hp) ..) ?_;with_reducible rfl)
   ·(refine rwl (if_neg hp ..) ?_;rw [if_neg])
    intro h
    rcases List.mem_append.mp h with h | h
    ·exact hp h
    ·exact ep (List.mem_singleton.mp h)
theorem RmsRel.refl {f:List (Str×Str)→List (Str×Str)}:∀ (rms:List (Str×RmA)),F2 (RmsRel f []) rms rms
 | []=>.nil
 | p::r=>.cons ⟨rfl,rfl,by (refine rwl (if_neg List.not_mem_nil ..) ?_;with_reducible rfl)⟩ (RmsRel.refl r)
structure DmKeepR (D D':DmA):Prop where
 x:D'.x=D.x
 fn:D'.fn=D.fn
 lam:D'.lam=D.lam
 lvl:D'.lvl=D.lvl
 os:D'.os=D.os
 pls:D'.pls=D.pls
theorem drop_it {own own':Addr→Prop} {I:Addr} {oI:Obj} {nw nw':Led} (S:Stp own own' ((I,oI)::nw) nw') (hI:¬ own I) (off:∀ p∈nw,p.1≠I) :
  ∃ nw2,(∀ p∈nw2,p.1≠I)∧(∀ p∈(I,oI)::nw2,p∈nw')∧(∀ p∈nw',own' p.1→p∈nw2)∧Stp own own' nw nw2:=by
 refine ⟨nw'.filter fun p=>p.1 != I,fun p hp=>by simpa using (List.mem_filter.mp hp).2,List.forall_mem_cons.mpr ⟨S.keep _ (.head _) hI,fun p hp=>(List.mem_filter.mp hp).1⟩,fun p hp h=>List.mem_filter.mpr ⟨hp,?_⟩,fun p hp h=>List.mem_filter.mpr ⟨S.keep p (.tail _ hp) h,by simpa using off p hp⟩,fun a ha=>(S.new a ha).imp id fun h p hp=>h p (.tail _ hp),S.more⟩
 have:p.1≠I:=fun e=>by
  rcases S.new _ h with h | h
  ·exact hI (e▸h)
  ·exact h _ (.head _) e.symm
 simpa using this
section
variable {prog:Program} {w:World} {p:Program} {loose:List Str} {mean:ExcName→Option Value} {mg mb:Str→Option Value}
 {dp un:Nat} {gd:Option (List Code)} {cn:Str} {cs:Scope} {a:Addr} {ccd:Value} {cl:List (Str×Addr)} {outer:List Env} {A₀:Around} {base h₀:Heap} {L:Addr} {m:Str→Option Value} {s:Shared} {Q E:Value→Shared→Prop} {news:Led}

theorem dm_add {D:DmA} {x:Addr} (hxe:D.x=x) (cov:Bool) (hcov:D.fn=if cov then .ref 1177 else .none) (n1 n2 dm:Str) (s1 s2 t:Tok) (hn1:n1∈Names) (hn2:n2∈Names) (hdm:dm∈Places) (B:Below A₀ base outer h₀) (F:Fr h₀ L s.heap m) (X:(Kp w.params).In h₀) (N:News h₀ L s.heap news) (T:Top p loose mean mg mb h₀) (hk:cs.kind=.function) (hdp:dp + 40 < recursionLimit) (hun:un + 320 < cLine) (M:DmMem prog w news D) (hfew:(lsOf D.pls dm).length≤10)
 (hno:∀ q∈D.rms,(n1,n2) ∉ q.2.links∧q.2.links.length≤10)
 (ret:∀ h' tk' news' D',Fr h₀ L h' m→News h₀ L h' news'→DmMem prog w news' D'→Stp D.own D'.own news news'→D'.x=D.x→D'.fn=D.fn→D'.lvl=D.lvl→(∀ p,lsOf D'.pls p=if p=dm then lsOf D.pls dm++[(n1,n2)] else lsOf D.pls p)→F2 (RmsRel (·++[(n1,n2)]) (affL D cov dm)) D.rms D'.rms→Q .none { s with heap:=h',toks:=tk' })
 : wpAny (model prog w) (ktrTop dp un gd cn cs L a ccd cl outer) (call (.ref 1105) [.ref x,.str n1 s1,.str n2 s2,.str dm t]) Q E s:=by
 subst hxe
 have hx:=M.x
 have hd:=M.d
 refine call_res ?_
 k_extra "kT"
 refine ks_wpAt_execs_cons (ks_wpAt_Expr_any (at_star ?_))
 k_extra "kN"
 refine callWith_SM2 (K:=Kp w.params) (by k_asm) (.head _) (by k_is) ?_
 iterate 9 k_extra "w"
 refine call_meth (by k_asm) (.head _) ?_
 refine dmb_add (D:=D) rfl n1 n2 dm s1 s2 t hn1 hn2 hdm (by k_asm) (by k_asm) (by k_asm) (by k_asm) (by k_asm) rfl (by ktr_room) (by ktr_units) (M.sub fun p hp=>by k_mem) hfew ?_
 intro h5 tk5 news5 D5 F5 N5 M5 S5 K5 hls5
 have hx5:=M5.x
 have hd5:=M5.d
 rw [K5.x] at hx5
 have hD5:=S5.keep _ (show (D',_)∈_ by k_mem) fun h=>by
  (refine e_E (M.there _ h) ?_;intro o ho)
  exact Nat.lt_irrefl _ (l1 _ ho)
 have hDo:¬ D5.own D':=fun h=>by
  rcases S5.new _ h with h | h
  ·(refine e_E (M.there _ h) ?_;intro o ho)
   exact Nat.lt_irrefl _ (l1 _ ho)
  ·exact h _ (show (D',_)∈_ by k_mem) rfl
 have haff:affL D5 cov dm=affL D cov dm:=by unfold affL;(refine rwl (K5.rms ..) ?_;with_reducible rfl)
 refine _root_.PySem.wpAt_of_wpAny ?_
 refine (let A1:=_;let qk:=_;let ek:=_;(?_:wpAny _ A1 _ qk ek _))
 k_extra "w"
 refine for_list_x g' ?_ rfl rfl (by intro _;rfl) (by passes_own)
 k_extra "kS1"
 refine affected (D:=D5) (K5.x) cov (by refine rwl (K5.fn ..) ?_;exact hcov) dm t hdm (by k_asm) (by k_asm) (by k_asm) (by k_asm) (by k_asm) rfl (by ktr_room) (by ktr_units) (M5.sub fun p hp=>by k_mem) ?_
 intro h6 tk6 q6 k6 as F6 N6 fq6 has
 replace N6:News g' L' h6 ((q6,refsO as k6)::news5):=news_sub N6 (sub_cons fun p hp=>by k_mem)
 replace fq6:∀ p∈news5,p.1≠q6:=fun p hp=>fq6 p (by k_mem)
 rw [haff] at has
 have hks:D5.rms.map (·.1)=D.rms.map (·.1):=by (refine rwl (K5.rms ..) ?_;with_reducible rfl)
 refine fun _ kM=>kM (fun i nw=>∃ D2,DmMem prog w nw D2∧DmKeepR D5 D2∧F2 (RmsRel (·++[(n1,n2)]) ((affL D cov dm).take i)) D.rms D2.rms∧Stp D5.own D2.own ((q6,refsO as k6)::news5) nw) (fun s'=>Only s s') q6 (as.map Value.ref) k6 _ _ (Only.closed s) rfl ⟨_,_,rfl⟩ rfl (by k_asm) (by k_asm) (.head _) ⟨D5,M5.sub fun p hp=>.tail _ hp,⟨rfl,rfl,rfl,rfl,rfl,rfl⟩,?_,Stp.refl _ _⟩ ?_ ?_
 ·(refine rwl (List.take_zero ..) ?_;refine rwl (K5.rms ..) ?_);exact RmsRel.refl _
 ·intro i v nw s₂ I₂ oI e8_6 hv e8_8 hS off F12 N12;(refine e_E2 (e8_6) ?_;clear e8_6;intro h12 tk12 e9_2;subst e9_2);(refine e_EA3 (e8_8) ?_;clear e8_8;intro D2 M2 K2 hF2 S2)
  have hv':(as.map Value.ref)[i]?=some v:=hv
  rw [List.getElem?_map] at hv'
  (refine e_EA (Option.map_eq_some_iff.mp hv') ?_;intro ra hra e9_2;subst e9_2)
  have hfit:F2 (fun a nm=>∃ r∈D.rms,r.1=nm∧r.2.x=a) as (affL D cov dm):=by refine rwr (K5.rms ..) ?_;exact has
  (refine e_EAEA2 (hfit.nth hra) ?_;intro nm hnm r0 hr0 e9_4 e9_5;subst e9_4;subst e9_5)
  (refine e_EA3 (hF2.left hr0) ?_;intro q2 hq2 en ex2 el2)
  have R2:=M2.rms q2 hq2
  have I2:=R2.i
  have hx2:=I2.x
  rw [ex2] at hx2
  have hni:r0.1 ∉ (affL D cov dm).take i:=fun h=>by
   obtain ⟨j,hj,e⟩:=List.getElem_of_mem h
   rw [List.length_take] at hj
   rw [List.getElem_take] at e
   obtain ⟨hi,e'⟩:=List.getElem?_eq_some_iff.mp hnm
   have:=(List.getElem_inj (affL_nodup M cov dm)).mp (e.trans e'.symm)
   k_extra "ar"
  rw [if_neg hni] at el2
  have hDw:=S2.keep _ (.tail _ hD5) hDo
  have hd2:=I2.d
  iterate 2 k_extra "w"
  refine meth_star ?_
  iterate 2 k_extra "w"
  refine callWith_SM2 (K:=Kp w.params) (by k_asm) (.head _) (by k_is) ?_
  iterate 9 k_extra "w"
  refine call_meth (by k_asm) (.head _) ?_
  refine rwr (ex2 ..) ?_
  have Dof:∀ a,D2.own a→∀ p∈news5,¬ D5.own p.1→p.1≠a:=fun a ha p hp hn e=>by
   rcases S2.new a ha with h | h
   ·exact hn (e▸h)
   ·exact h _ (.tail _ hp) e
  have hq6:¬ D2.own q6:=fun h=>by
   rcases S2.new _ h with h | h
   ·(refine e_E (M5.there _ h) ?_;intro o ho)
    exact fq6 _ ho rfl
   ·exact h _ (.head _) rfl
  have hI2:¬ D2.own I₂:=fun h=>by
   (refine e_E (M2.there _ h) ?_;intro o ho)
   exact off _ ho rfl
  have hno2:=hno r0 hr0
  rw [← el2] at hno2
  refine rm_add_link1 (R:=q2.2) (os:=D2.os) (by refine rwl (R2.lam ..) ?_;exact M2.K) n1 n2 s1 s2 dm t hn1 hn2 (by k_asm) (by k_asm) (by k_asm) (by k_asm) (by k_asm) rfl (by ktr_room) (by ktr_units) (I2.sub fun p hp=>by k_mem) (fun p hp=>have:=M2.os p hp;by k_mem) (fun p hp=>M2.off q2 hq2 _ (base_os hp)) R2.seq hno2.1 (by have:=hno2.2;k_extra "ar") ?_
  intro h13 tk13 nw13 R' F13 N13 I13 S13 x13 l13 v13 s13 k13
  rw [← ex2] at F13
  have S13':Stp q2.2.own R'.own ((I₂,oI)::nw) nw13:=stp_skip S13
  have hn742:¬ R'.own 742:=stp_off S13' (.tail _ M2.t1.choose_spec.1) (M2.off q2 hq2 _ base_t1)
  have hn906:¬ R'.own 906:=stp_off S13' (.tail _ M2.t2.choose_spec.1) (M2.off q2 hq2 _ base_t2)
  (refine e_A ((M2.sub (news':=(I₂,oI)::nw) fun p hp=>.tail _ hp).setRm hq2 (R:=R') (S13'.wider fun a=>a=742∨a=906) ⟨I13,l13.trans R2.lam,v13.trans R2.lvl,s13,R2.nm⟩ x13 hn742 hn906 (M2.t1.keep fun p hp e=>S13'.keep p (.tail _ hp) (by refine rwl (e ..) ?_;exact M2.off q2 hq2 _ base_t1)) (M2.t2.keep fun p hp e=>S13'.keep p (.tail _ hp) (by refine rwl (e ..) ?_;exact M2.off q2 hq2 _ base_t2))) ?_;intro M13 T13)
  (refine e_EA3 (drop_it T13 hI2 off) ?_;intro nw2 d1 d2 d3 d4)
  k_extra "w"
  refine i_EA5EA3 nw2 ⟨_,_,rfl⟩ (by k_asm) (news_sub (by k_asm) d2) d1 (d4.keep _ hS hq6) (D2.setRm q2.1 R') (M13.keep d3) ⟨K2.x,K2.fn,K2.lam,K2.lvl,K2.os,K2.pls⟩ ?_ (S2.trans d4)
  have htk:(affL D cov dm).take (i + 1)=(affL D cov dm).take i++[r0.1]:=by (refine rwl (List.take_add_one ..) ?_;refine rwl (hnm ..) ?_);rfl
  (refine rwl (htk ..) ?_;refine rwl (en ..) ?_)
  refine RmsRel.set hF2 M.rmnd hni fun p hp e=>?_
  have:p=r0:=inj_of_nodup_map M.rmnd hp hr0 e
  refine rwl (this ..) ?_
  exact ⟨x13.trans ex2,by (refine rwl (k13 ..) ?_;refine rwl (el2 ..) ?_;with_reducible rfl)⟩
 ·intro s' o nw e8_3 F12 N12 e8_6;(refine e_E2 (e8_3) ?_;clear e8_3;intro h12 tk12 e9_2;subst e9_2);(refine e_EA3 (e8_6) ?_;clear e8_6;intro D2 M2 K2 hF2 S2)
  iterate 2 k_extra "w"
  have haf:F2 (fun a nm=>∃ r∈D.rms,r.1=nm∧r.2.x=a) as (affL D cov dm):=by refine rwr (K5.rms ..) ?_;exact has
  rw [List.length_map,haf.length,List.take_length] at hF2
  have hsub:∀ p∈news5,p∈(q6,refsO as k6)::news5:=fun p hp=>.tail _ hp
  exact ret _ _ _ D2 (by k_asm) (by k_asm) M2 (stp_skip (stp_skip (stp_skip (S5.trans (stp_skip S2))))) (K2.x.trans K5.x) (K2.fn.trans K5.fn) (K2.lvl.trans K5.lvl) (fun p=>by refine rwl (K2.pls ..) ?_;exact hls5 p) hF2
end
theorem len_app {x y:Str} {n n':Nat} (hx:x.length≤n) (hy:y.length≤n'):(x++y).length≤n + n':=by refine rwl (strLen_append ..) ?_;k_extra "ar"
theorem len_fit {x:Str} {n:Nat} (hx:x.length≤n) (h:n≤1000):x.length≤sizeLine:=by refine rwl (sizeLine_eq ..) ?_;k_extra "ar"
section
variable {prog:Program} {w:World} {p:Program} {loose:List Str} {mean:ExcName→Option Value} {mg mb:Str→Option Value}
 {dp un:Nat} {gd:Option (List Code)} {cn:Str} {cs:Scope} {a:Addr} {ccd:Value} {cl:List (Str×Addr)} {outer:List Env} {A₀:Around} {base h₀:Heap} {L:Addr} {m:Str→Option Value} {s:Shared} {Q E:Value→Shared→Prop} {news:Led}

set_option maxHeartbeats 2000000 in
theorem dmb_del {D:DmA} {x:Addr} (hxe:D.x=x) (n1 n2 dm:Str) (s1 s2 t:Tok) (hn1:n1∈Names) (hn2:n2∈Names) (hdm:dm∈Places) (B:Below A₀ base outer h₀) (F:Fr h₀ L s.heap m) (X:(Kp w.params).In h₀) (N:News h₀ L s.heap news) (T:Top p loose mean mg mb h₀) (hk:cs.kind=.function) (hdp:dp + 20 < recursionLimit) (hun:un + 160 < cLine) (M:DmMem prog w news D) (hfew:(lsOf D.pls dm).length≤10)
 (ret:(n1,n2)∈lsOf D.pls dm→∀ h' tk' news' D',Fr h₀ L h' m→News h₀ L h' news'→DmMem prog w news' D'→Stp D.own D'.own news news'→DmKeep D D'→(∀ p,lsOf D'.pls p=if p=dm then (lsOf D.pls dm).erase (n1,n2) else lsOf D.pls p)→Q .none { s with heap:=h',toks:=tk' })
 (exc:(n1,n2) ∉ lsOf D.pls dm→∀ g h' tk' e news' D',Fr h₀ L g m→RaisedSN base g (envX cn cs L a ccd cl::outer) e (.type "RuntimeError") news' h'→g.UpToSlots h'→DmMem prog w news' D'→Stp D.own D'.own news news'→DmKeep D D'→(∀ p,lsOf D'.pls p=lsOf D.pls p)→E (.ref e) { s with heap:=h',toks:=tk' })
 : codeAny (model prog w) (ktrTop dp un gd cn cs L a ccd cl outer) (.call (.ref 1003) ⟨[.ref x,.str n1 s1,.str n2 s2,.str dm t],[]⟩) (kRes Q E) s:=by
 have lvMark:True:=trivial
 subst hxe
 have hx:=M.x
 have hd:=M.d
 k_extra "kR"
 iterate 2 k_extra "w"
 k_extra "kS1"
 refine get_links1 (D:=D) rfl dm t hdm (by k_asm) (by k_asm) (by k_asm) (by k_asm) (by k_asm) rfl (by ktr_room) (by ktr_units) (M.sub fun p hp=>by k_mem) ?_
 intro h5 tk5 news5 D5 r F5 N5 M5 S5 hD5 hr hrn
 try dsimp only
 have Pr:=M5.pls r hr
 have hra:=Pr.a
 have hls5:∀ p,lsOf D5.pls p=lsOf D.pls p:=by
  rcases hD5 with rfl | ⟨q,k,hno,rfl⟩
  ·exact fun _=>rfl
  ·exact fun p=>lsOf_app rfl
 have hkeep5:DmKeep D D5:=by
  rcases hD5 with rfl | ⟨q,k,hno,rfl⟩
  ·exact ⟨rfl,rfl,rfl,rfl,rfl,rfl⟩
  ·exact ⟨rfl,rfl,rfl,rfl,rfl,rfl⟩
 have hrl:r.ls=lsOf D.pls dm:=by (refine rwr (hls5 ..) ?_;refine rwl (lsOf_mem M5.plnd hr hrn ..) ?_;with_reducible rfl)
 iterate 10 k_extra "w"
 refine kup_newTuple (by k_asm) (by k_asm) ?_ (by exact Nat.le_of_ble_eq_true rfl)
 intro T h6 F6 N6 lT
 k_extra "w"
 by_cases hin:(n1,n2)∈lsOf D.pls dm
 ·refine pairs_notin (ls:=r.ls) (l:=(n1,n2)) (by k_asm) (by k_mem) Pr.tup (fun p hp=>.tail _ hp) (pairD_in (.head _)) Pr.nms ⟨hn1,hn2⟩ (by ktr_units) true ⟨fun _=>hrl▸hin,fun _=>rfl⟩ ?_
  iterate 16 k_extra "w"
  refine kup_newTuple (by k_asm) (by k_asm) ?_ (by exact Nat.le_of_ble_eq_true rfl)
  intro T2 h7 F7 N7 lT2
  k_extra "w"
  refine pairs_remove (ls:=r.ls) (l:=(n1,n2)) (by k_asm) (by k_asm) (by k_mem) Pr.tup (fun p hp=>.tail _ (.tail _ hp)) (pairD_in (.head _)) Pr.nms ⟨hn1,hn2⟩ (hrl▸hin) (Nat.le_trans Pr.few (by decide)) (by ktr_units) ?_
  intro h8 j F8 N8 ht8
  (refine e_A (M5.setPl N7 (fun p hp=>.tail _ (.tail _ hp)) hr (r':=⟨r.nm,r.a,r.k + 1,r.tups.eraseIdx j,r.ls.erase (n1,n2)⟩) rfl rfl (ht8.sub fun p hp=>.tail _ (.tail _ hp)) (fun l hl=>Pr.nms l (List.mem_of_mem_erase hl)) (Nat.le_trans List.length_erase_le Pr.few) (fun t ht=>.inl ((List.eraseIdx_sublist _ _).subset ht))) ?_;intro M8 S8)
  k_steps
  refine ret hin _ _ _ _ (by k_asm) (by k_asm) M8 (stp_skip (stp_skip (S5.trans S8))) ⟨hkeep5.x,hkeep5.fn,hkeep5.lam,hkeep5.lvl,hkeep5.os,hkeep5.rms⟩ fun p=>?_
  show lsOf (D5.pls.map _) p=_
  have:=lsOf_set (p:=p) (r':=⟨r.nm,r.a,r.k + 1,r.tups.eraseIdx j,r.ls.erase (n1,n2)⟩) (pls:=D5.pls) (List.mem_map.mpr ⟨r,hr,rfl⟩)
  (refine rwl (this ..) ?_;refine rwl (hls5 ..) ?_;refine rwl (hrl ..) ?_;refine rwl (hrn ..) ?_;with_reducible rfl)
 ·refine pairs_notin (ls:=r.ls) (l:=(n1,n2)) (by k_asm) (by k_mem) Pr.tup (fun p hp=>.tail _ hp) (pairD_in (.head _)) Pr.nms ⟨hn1,hn2⟩ (by ktr_units) false ⟨nofun,fun h=>absurd (hrl▸h) hin⟩ ?_
  have hl1:=names_short hn1
  have hl2:=names_short hn2
  have c0:Str.empty.length≤50:=by decide +kernel
  have c1:(Str.ofString "error: link between ").length≤50:=by decide +kernel
  have c2:(Str.ofString " and ").length≤50:=by decide +kernel
  have c3:(Str.ofString " does not exist").length≤50:=by decide +kernel
  iterate 19 k_extra "w"
  refine ⟨?_,?_⟩
  ·exact len_fit (len_app (len_app (len_app c0 c1) hl1) c2) (Nat.le_of_ble_eq_true rfl)
  iterate 4 k_extra "w"
  refine ⟨?_,?_⟩
  ·exact len_fit (len_app (len_app (len_app (len_app c0 c1) hl1) c2) hl2) (Nat.le_of_ble_eq_true rfl)
  iterate 2 k_extra "w"
  refine ⟨?_,?_⟩
  ·exact len_fit (len_app (len_app (len_app (len_app (len_app c0 c1) hl1) c2) hl2) c3) (Nat.le_of_ble_eq_true rfl)
  try dsimp only
  have hz:(Str.empty++Str.ofString "error: link between "++n1++Str.ofString " and "++n2++Str.ofString " does not exist").length≤sizeLine:=len_fit (len_app (len_app (len_app (len_app (len_app c0 c1) hl1) c2) hl2) c3) (Nat.le_of_ble_eq_true rfl)
  generalize (Str.empty++Str.ofString "error: link between "++n1++Str.ofString " and "++n2++Str.ofString " does not exist")=txt at hz
  refine joinParts_nilE ?_
  refine joinParts_nil ?_ hz
  k_steps
  exact exc hin _ _ _ _ _ _ FG' (RaisedSN.sub S' fun p hp=>.tail _ hp) U' M5 (stp_skip (stp_skip S5)) hkeep5 hls5
end
section
variable {prog:Program} {w:World} {p:Program} {loose:List Str} {mean:ExcName→Option Value} {mg mb:Str→Option Value}
 {dp un:Nat} {gd:Option (List Code)} {cn:Str} {cs:Scope} {a:Addr} {ccd:Value} {cl:List (Str×Addr)} {outer:List Env} {A₀:Around} {base h₀:Heap} {L:Addr} {m:Str→Option Value} {s:Shared} {Q E:Value→Shared→Prop} {news:Led}

theorem dm_del {D:DmA} {x:Addr} (hxe:D.x=x) (cov:Bool) (hcov:D.fn=if cov then .ref 1177 else .none) (n1 n2 dm:Str) (s1 s2 t:Tok) (hn1:n1∈Names) (hn2:n2∈Names) (hdm:dm∈Places) (B:Below A₀ base outer h₀) (F:Fr h₀ L s.heap m) (X:(Kp w.params).In h₀) (N:News h₀ L s.heap news) (T:Top p loose mean mg mb h₀) (hk:cs.kind=.function) (hdp:dp + 60 < recursionLimit) (hun:un + 480 < cLine) (C:CodeHd h₀ 744 742) (G:AllBare s.gens) (M:DmMem prog w news D) (hfew:(lsOf D.pls dm).length≤10)
 (hno:(n1,n2)∈lsOf D.pls dm→∀ q∈D.rms,q.1∈affL D cov dm→(n1,n2)∈q.2.links)
 (ret:(n1,n2)∈lsOf D.pls dm→∀ s' news' D',s'.os=s.os→AllBare s'.gens→Fr h₀ L s'.heap m→News h₀ L s'.heap news'→DmMem prog w news' D'→Stp D.own D'.own news news'→D'.x=D.x→D'.fn=D.fn→D'.lvl=D.lvl→(∀ p,lsOf D'.pls p=if p=dm then (lsOf D.pls dm).erase (n1,n2) else lsOf D.pls p)→F2 (RmsRel (·.erase (n1,n2)) (affL D cov dm)) D.rms D'.rms→Q .none s')
 (exc:(n1,n2) ∉ lsOf D.pls dm→∀ g h' tk' e news' D',Fr h₀ L g m→RaisedSN base g (envX cn cs L a ccd cl::outer) e (.type "RuntimeError") news' h'→g.UpToSlots h'→DmMem prog w news' D'→Stp D.own D'.own news news'→DmKeep D D'→(∀ p,lsOf D'.pls p=lsOf D.pls p)→E (.ref e) { s with heap:=h',toks:=tk' })
 : wpAny (model prog w) (ktrTop dp un gd cn cs L a ccd cl outer) (call (.ref 1113) [.ref x,.str n1 s1,.str n2 s2,.str dm t]) Q E s:=by
 subst hxe
 have hx:=M.x
 have hd:=M.d
 refine call_res ?_
 k_extra "kT"
 refine ks_wpAt_execs_cons (ks_wpAt_Expr_any (at_star ?_))
 k_extra "kN"
 refine callWith_SM2 (K:=Kp w.params) (by k_asm) (.head _) (by k_is) ?_
 iterate 9 k_extra "w"
 refine call_meth (by k_asm) (.head _) ?_
 refine dmb_del (D:=D) rfl n1 n2 dm s1 s2 t hn1 hn2 hdm (by k_asm) (by k_asm) (by k_asm) (by k_asm) (by k_asm) rfl (by ktr_room) (by ktr_units) (M.sub fun p hp=>by k_mem) hfew ?_ ?exc
 case exc =>
  intro hnin g5 h5 tk5 e5 news5 D5 F5 R5 U5 M5 S5 K5 hls5
  refine leave_onX (by k_asm) F5 rfl R5 U5 ?_
  intro h6 R6 U6
  exact exc hnin _ _ _ _ _ _ FG' R6 U6 M5 (stp_skip (stp_skip (stp_skip S5))) K5 hls5
 intro hin h5 tk5 news5 D5 F5 N5 M5 S5 K5 hls5
 have hx5:=M5.x
 have hd5:=M5.d
 rw [K5.x] at hx5
 have hD5:=S5.keep _ (show (D',_)∈_ by k_mem) fun h=>by
  (refine e_E (M.there _ h) ?_;intro o ho)
  exact Nat.lt_irrefl _ (l1 _ ho)
 have hDo:¬ D5.own D':=fun h=>by
  rcases S5.new _ h with h | h
  ·(refine e_E (M.there _ h) ?_;intro o ho)
   exact Nat.lt_irrefl _ (l1 _ ho)
  ·exact h _ (show (D',_)∈_ by k_mem) rfl
 have haff:affL D5 cov dm=affL D cov dm:=by unfold affL;(refine rwl (K5.rms ..) ?_;with_reducible rfl)
 refine _root_.PySem.wpAt_of_wpAny ?_
 refine (let A1:=_;let qk:=_;let ek:=_;(?_:wpAny _ A1 _ qk ek _))
 k_extra "w"
 refine for_list_x g' ?_ rfl rfl (by intro _;rfl) (by passes_own)
 k_extra "kS1"
 refine affected (D:=D5) (K5.x) cov (by refine rwl (K5.fn ..) ?_;exact hcov) dm t hdm (by k_asm) (by k_asm) (by k_asm) (by k_asm) (by k_asm) rfl (by ktr_room) (by ktr_units) (M5.sub fun p hp=>by k_mem) ?_
 intro h6 tk6 q6 k6 as F6 N6 fq6 has
 replace N6:News g' L' h6 ((q6,refsO as k6)::news5):=news_sub N6 (sub_cons fun p hp=>by k_mem)
 replace fq6:∀ p∈news5,p.1≠q6:=fun p hp=>fq6 p (by k_mem)
 rw [haff] at has
 have hks:D5.rms.map (·.1)=D.rms.map (·.1):=by (refine rwl (K5.rms ..) ?_;with_reducible rfl)
 refine fun _ kM=>kM (fun i nw=>∃ D2,DmMem prog w nw D2∧DmKeepR D5 D2∧F2 (RmsRel (·.erase (n1,n2)) ((affL D cov dm).take i)) D.rms D2.rms∧Stp D5.own D2.own ((q6,refsO as k6)::news5) nw) (fun s'=>s'.os=s.os∧AllBare s'.gens) q6 (as.map Value.ref) k6 _ _ (fun _ _ _ h=>h) rfl ⟨rfl,G⟩ rfl (by k_asm) (by k_asm) (.head _) ⟨D5,M5.sub fun p hp=>.tail _ hp,⟨rfl,rfl,rfl,rfl,rfl,rfl⟩,?_,Stp.refl _ _⟩ ?_ ?_
 ·(refine rwl (List.take_zero ..) ?_;refine rwl (K5.rms ..) ?_);exact RmsRel.refl _
 ·intro i v nw s₂ I₂ oI e8_6 hv e8_8 hS off F12 N12;(refine e_A (e8_6) ?_;clear e8_6;intro os12 G12);(refine e_EA3 (e8_8) ?_;clear e8_8;intro D2 M2 K2 hF2 S2)
  have hv':(as.map Value.ref)[i]?=some v:=hv
  rw [List.getElem?_map] at hv'
  (refine e_EA (Option.map_eq_some_iff.mp hv') ?_;intro ra hra e9_2;subst e9_2)
  have hfit:F2 (fun a nm=>∃ r∈D.rms,r.1=nm∧r.2.x=a) as (affL D cov dm):=by refine rwr (K5.rms ..) ?_;exact has
  (refine e_EAEA2 (hfit.nth hra) ?_;intro nm hnm r0 hr0 e9_4 e9_5;subst e9_4;subst e9_5)
  (refine e_EA3 (hF2.left hr0) ?_;intro q2 hq2 en ex2 el2)
  have R2:=M2.rms q2 hq2
  have I2:=R2.i
  have hx2:=I2.x
  rw [ex2] at hx2
  have hni:r0.1 ∉ (affL D cov dm).take i:=fun h=>by
   obtain ⟨j,hj,e⟩:=List.getElem_of_mem h
   rw [List.length_take] at hj
   rw [List.getElem_take] at e
   obtain ⟨hi,e'⟩:=List.getElem?_eq_some_iff.mp hnm
   have:=(List.getElem_inj (affL_nodup M cov dm)).mp (e.trans e'.symm)
   k_extra "ar"
  rw [if_neg hni] at el2
  have hDw:=S2.keep _ (.tail _ hD5) hDo
  have hd2:=I2.d
  iterate 2 k_extra "w"
  refine meth_star ?_
  iterate 2 k_extra "w"
  refine callWith_SM2 (K:=Kp w.params) (by k_asm) (.head _) (by k_is) ?_
  iterate 9 k_extra "w"
  refine call_meth (by k_asm) (.head _) ?_
  refine rwr (ex2 ..) ?_
  have Dof:∀ a,D2.own a→∀ p∈news5,¬ D5.own p.1→p.1≠a:=fun a ha p hp hn e=>by
   rcases S2.new a ha with h | h
   ·exact hn (e▸h)
   ·exact h _ (.tail _ hp) e
  have hq6:¬ D2.own q6:=fun h=>by
   rcases S2.new _ h with h | h
   ·(refine e_E (M5.there _ h) ?_;intro o ho)
    exact fq6 _ ho rfl
   ·exact h _ (.head _) rfl
  have hI2:¬ D2.own I₂:=fun h=>by
   (refine e_E (M2.there _ h) ?_;intro o ho)
   exact off _ ho rfl
  have hmem:r0.1∈affL D cov dm:=List.mem_of_getElem? hnm
  have hno2:=hno hin r0 hr0 hmem
  rw [← el2] at hno2
  (refine e_EA (M2.t1) ?_;intro ps hps hpt)
  refine rm_delete_link (R:=q2.2) (os:=D2.os) (by refine rwl (R2.lam ..) ?_;exact M2.K) n1 n2 s1 s2 dm t ps hn1 hn2 (by k_asm) (by k_asm) (by k_asm) (by k_asm) (by k_asm) rfl (by ktr_room) (by ktr_units) (C.keeps FG'.keep) G12 (I2.sub fun p hp=>by k_mem) (fun p hp=>have:=M2.os p hp;by k_mem) (fun p hp=>M2.off q2 hq2 _ (base_os hp)) (M2.off q2 hq2 _ base_t1) (fun p hp=>(M2.osn p hp).2.2.2.1) (by k_mem) hpt R2.seq hno2 ?_
  intro s13 nw13 R' ps13 os13 G13 F13 N13 I13 S13 hP13 ht13 hPo13 x13 l13 v13 s13' k13
  rw [← ex2] at F13
  have S13':Stp (fun a=>q2.2.own a∨a=742) (fun a=>R'.own a∨a=742) ((I₂,oI)::nw) nw13:=stp_skip S13
  have n906:¬ (q2.2.own 906∨(906:Addr)=742):=fun h=>h.elim (M2.off q2 hq2 _ base_t2) (by decide)
  have hn906:¬ R'.own 906:=fun h=>stp_off S13' (.tail _ M2.t2.choose_spec.1) n906 (.inl h)
  have hw:∀ (X:Addr→Prop) a,(X a∨a=742)∨(a=742∨a=906)↔X a∨(a=742∨a=906):=fun X a=>⟨fun h=>h.elim (fun h=>h.imp id .inl) .inr,fun h=>h.elim (fun h=>.inl (.inl h)) .inr⟩
  have S13'':Stp (fun a=>q2.2.own a∨(a=742∨a=906)) (fun a=>R'.own a∨(a=742∨a=906)) ((I₂,oI)::nw) nw13:=by
   have:=S13'.wider fun a=>a=742∨a=906
   simpa only [hw] using this
  (refine e_A ((M2.sub (news':=(I₂,oI)::nw) fun p hp=>.tail _ hp).setRm hq2 (R:=R') S13'' ⟨I13,l13.trans R2.lam,v13.trans R2.lvl,s13',R2.nm⟩ x13 hPo13 hn906 ⟨_,hP13,ht13⟩ (M2.t2.keep fun p hp e=>S13'.keep p (.tail _ hp) (by refine rwl (e ..) ?_;exact n906))) ?_;intro M13 T13)
  (refine e_EA3 (drop_it T13 hI2 off) ?_;intro nw2 d1 d2 d3 d4)
  k_extra "w"
  refine i_EA5EA3 nw2 ⟨os13.trans os12,G13⟩ (by k_asm) (news_sub (by k_asm) d2) d1 (d4.keep _ hS hq6) (D2.setRm q2.1 R') (M13.keep d3) ⟨K2.x,K2.fn,K2.lam,K2.lvl,K2.os,K2.pls⟩ ?_ (S2.trans d4)
  have htk:(affL D cov dm).take (i + 1)=(affL D cov dm).take i++[r0.1]:=by (refine rwl (List.take_add_one ..) ?_;refine rwl (hnm ..) ?_);rfl
  (refine rwl (htk ..) ?_;refine rwl (en ..) ?_)
  refine RmsRel.set hF2 M.rmnd hni fun p hp e=>?_
  have:p=r0:=inj_of_nodup_map M.rmnd hp hr0 e
  refine rwl (this ..) ?_
  exact ⟨x13.trans ex2,by (refine rwl (k13 ..) ?_;refine rwl (el2 ..) ?_;with_reducible rfl)⟩
 ·intro s' o nw e8_3 F12 N12 e8_6;(refine e_A (e8_3) ?_;clear e8_3;intro os12 G12);(refine e_EA3 (e8_6) ?_;clear e8_6;intro D2 M2 K2 hF2 S2)
  iterate 2 k_extra "w"
  have haf:F2 (fun a nm=>∃ r∈D.rms,r.1=nm∧r.2.x=a) as (affL D cov dm):=by refine rwr (K5.rms ..) ?_;exact has
  rw [List.length_map,haf.length,List.take_length] at hF2
  have hsub:∀ p∈news5,p∈(q6,refsO as k6)::news5:=fun p hp=>.tail _ hp
  exact ret hin _ _ D2 os12 G12 (by k_asm) (by k_asm) M2 (stp_skip (stp_skip (stp_skip (S5.trans (stp_skip S2))))) (K2.x.trans K5.x) (K2.fn.trans K5.fn) (K2.lvl.trans K5.lvl) (fun p=>by refine rwl (K2.pls ..) ?_;exact hls5 p) hF2
end
structure DmRel (D:DmA) (links:List Lk) (cov:Bool):Prop where
 fn:D.fn=if cov then .ref 1177 else .none
 ls:∀ p,lsOf D.pls p=atP links p
 rms:∀ q∈D.rms,∀ l,l∈q.2.links↔l∈ways links cov q.1
 lnk:(links.map pr).Nodup
 nms:∀ l∈links,l.1∈Names∧l.2.1∈Names∧l.2.2∈Places
 few:links.length≤5
theorem mem_atP {links:List Lk} {p:Str} {l:Str×Str}:l∈atP links p↔(l.1,l.2,p)∈links:=by
 unfold atP
 constructor
 ·intro h
  (refine e_EA (List.mem_map.mp h) ?_;intro k hk e9_2;subst e9_2)
  (refine e_A (List.mem_filter.mp hk) ?_;intro h1 h2)
  have:=beq_iff_eq.mp h2
  refine rwr (this ..) ?_;exact h1
 ·exact fun h=>List.mem_map.mpr ⟨(l.1,l.2,p),List.mem_filter.mpr ⟨h,by simp⟩,rfl⟩
theorem mem_ways {links:List Lk} {cov:Bool} {p:Str} {l:Str×Str}:l∈ways links cov p↔∃ q,(l.1,l.2,q)∈links∧(q=p∨(cov=true∧covS p q=true)):=by
 unfold ways
 constructor
 ·intro h
  (refine e_EA (List.mem_map.mp h) ?_;intro k hk e9_2;subst e9_2)
  (refine e_A (List.mem_filter.mp hk) ?_;intro h1 h2)
  refine ⟨k.2.2,h1,?_⟩
  simpa using h2
 ·intro e8_0;(refine e_EA (e8_0) ?_;clear e8_0;intro q h h')
  refine List.mem_map.mpr ⟨(l.1,l.2,q),List.mem_filter.mpr ⟨h,?_⟩,rfl⟩
  simpa using h'
theorem covS_refl (k:Str):covS k k=true:=by unfold covS;simp
theorem lnk_inj {links:List Lk} (hn:(links.map pr).Nodup) {a b p q:Str} (h1:(a,b,p)∈links) (h2:(a,b,q)∈links):p=q:=by
 have:=inj_of_nodup_map hn h1 h2 rfl
 simpa using this
theorem lsOf_nm {pls:List PlS} {p:Str} {l:Str×Str} (h:l∈lsOf pls p):∃ q∈pls,q.nm=p∧lsOf pls p=q.ls:=by
 unfold lsOf at h ⊢
 cases hf:pls.find? (·.nm == p) with
 | none=>rw [hf] at h;nomatch h
 | some q=>exact i_EA2 q (List.mem_of_find?_eq_some hf) (by simpa using List.find?_some hf) rfl
theorem mem_exts {cov:Bool} {dm:Str} {l:Str×Str}:∀ {pls:List PlS},l∈exts cov dm pls↔∃ q∈pls,l∈q.ls∧dm≠q.nm∧cov=true∧covS dm q.nm=true
 | []=>by simp [exts_n,exts_c]
 | q::r=>by
  ((first | rewrite [exts_c] | rewrite [exts_n]);refine rwl (propext (List.mem_append ..)) ?_;refine rwl (propext (mem_exts ..)) ?_)
  by_cases h:(dm != q.nm && (cov && covS dm q.nm))=true
  ·refine rwl (if_pos h ..) ?_
   simp only [Bool.and_eq_true,bne_iff_ne] at h
   constructor
   ·rintro (h' | ⟨q',a,b⟩)
    ·exact i_EA4 q (.head _) h' h.1 h.2.1 h.2.2
    ·exact ⟨q',.tail _ a,b⟩
   ·intro e8_0;(refine e_EA (e8_0) ?_;clear e8_0;intro q' a b)
    rcases List.mem_cons.mp a with rfl | a
    ·exact .inl b.1
    ·exact .inr ⟨q',a,b⟩
  ·refine rwl (if_neg h ..) ?_
   constructor
   ·rintro (h' | ⟨q',a,b⟩)
    ·nomatch h'
    ·exact ⟨q',.tail _ a,b⟩
   ·intro e8_0;(refine e_EA (e8_0) ?_;clear e8_0;intro q' a b)
    rcases List.mem_cons.mp a with rfl | a
    ·exact absurd (by simp [b.2.1,b.2.2.1,b.2.2.2]) h
    ·exact .inr ⟨q',a,b⟩
section
variable {prog:Program} {w:World} {news:Led} {D:DmA} {links:List Lk} {cov:Bool}
theorem DmRel.lsq (Rl:DmRel D links cov) (M:DmMem prog w news D) {q:PlS} (hq:q∈D.pls):q.ls=atP links q.nm:=by (refine rwr (Rl.ls ..) ?_;refine rwl (lsOf_mem M.plnd hq rfl ..) ?_;with_reducible rfl)
theorem atP_nodup (hn:(links.map pr).Nodup) (p:Str):(atP links p).Nodup:=hn.sublist (List.Sublist.map _ List.filter_sublist)
theorem DmRel.mem_col (Rl:DmRel D links cov) (M:DmMem prog w news D) (dm:Str) (l:Str×Str):l∈colL D cov dm↔l∈ways links cov dm:=by
 unfold colL
 (refine rwl (propext (List.mem_append ..)) ?_;refine rwl (Rl.ls ..) ?_;refine rwl (propext (mem_atP ..)) ?_;refine rwl (propext (mem_exts ..)) ?_;refine rwl (propext (mem_ways ..)) ?_)
 constructor
 ·rintro (h | ⟨q,hq,h,hne,hc,hcv⟩)
  ·exact ⟨dm,h,.inl rfl⟩
  ·rw [Rl.lsq M hq,mem_atP] at h
   exact ⟨q.nm,h,.inr ⟨hc,hcv⟩⟩
 ·intro e8_0;(refine e_EA (e8_0) ?_;clear e8_0;intro p h h')
  by_cases e:p=dm
  ·exact .inl (e▸h)
  ·have hp:l∈lsOf D.pls p:=by (refine rwl (Rl.ls ..) ?_;refine rwl (propext (mem_atP ..)) ?_);exact h
   (refine e_EA2 (lsOf_nm hp) ?_;intro q hq e9_2 hl;subst e9_2)
   (refine e_A (h'.resolve_left e) ?_;intro hc hcv)
   exact .inr ⟨q,hq,hl▸hp,Ne.symm e,hc,hcv⟩
theorem exts_nodup (Rl:DmRel D links cov) (dm:Str):∀ {pls:List PlS},(∀ q∈pls,q.ls=atP links q.nm)→(pls.map (·.nm)).Nodup→(exts cov dm pls).Nodup
 | [],_,_=>List.nodup_nil
 | q::r,hl,hn=>by
  rw [List.map_cons,List.nodup_cons] at hn
  ((first | rewrite [exts_c] | rewrite [exts_n]);refine rwl (propext (List.nodup_append ..)) ?_)
  refine ⟨?_,exts_nodup Rl dm (fun q hq=>hl q (.tail _ hq)) hn.2,?_⟩
  ·split
   ·refine rwl (hl q (.head _) ..) ?_;exact atP_nodup Rl.lnk _
   ·exact List.nodup_nil
  ·intro x hx y hy e
   subst e
   have hx':x∈q.ls:=by
    split at hx
    ·exact hx
    ·nomatch hx
   rw [hl q (.head _),mem_atP] at hx'
   (refine e_EA2 (mem_exts.mp hy) ?_;intro q' h1 h2 _)
   rw [hl q' (.tail _ h1),mem_atP] at h2
   exact hn.1 (by refine rwl (lnk_inj Rl.lnk hx' h2 ..) ?_;exact List.mem_map_of_mem (f:=fun q:PlS=>q.nm) h1)
theorem DmRel.col_nodup (Rl:DmRel D links cov) (M:DmMem prog w news D) (dm:Str):(colL D cov dm).Nodup:=by
 unfold colL
 (refine rwl (propext (List.nodup_append ..)) ?_;refine rwl (Rl.ls ..) ?_)
 refine ⟨atP_nodup Rl.lnk _,exts_nodup Rl dm (fun q hq=>Rl.lsq M hq) M.plnd,?_⟩
 intro x hx y hy e
 subst e
 rw [mem_atP] at hx
 (refine e_EA3 (mem_exts.mp hy) ?_;intro q' h1 h2 hne _)
 rw [Rl.lsq M h1,mem_atP] at h2
 exact hne (lnk_inj Rl.lnk hx h2)
theorem ways_len (hf:links.length≤5) (p:Str):(ways links cov p).length≤5:=by
 unfold ways
 refine rwl (List.length_map ..) ?_
 exact Nat.le_trans (List.length_filter_le _ _) hf
theorem DmRel.col_len (Rl:DmRel D links cov) (M:DmMem prog w news D) (dm:Str):(colL D cov dm).length≤10:=by
 have:=nodup_le (Rl.col_nodup M dm) fun x hx=>(Rl.mem_col M dm x).mp hx
 have:=ways_len (cov:=cov) Rl.few dm
 k_extra "ar"
theorem DmRel.newRm (Rl:DmRel D links cov) (M:DmMem prog w news D) {dm:Str} {R:RmA} (hR:R.links=colL D cov dm):DmRel (D.newRm dm R) links cov where
 fn:=Rl.fn
 ls:=Rl.ls
 rms:=fun q hq l=>by
  rcases List.mem_append.mp hq with hq | hq
  ·exact Rl.rms q hq l
  ·refine rwl (List.mem_singleton.mp hq ..) ?_
   show l∈R.links↔_
   refine rwl (hR ..) ?_;exact Rl.mem_col M dm l
 lnk:=Rl.lnk
 nms:=Rl.nms
 few:=Rl.few
theorem DmRel.rm_len (Rl:DmRel D links cov) (M:DmMem prog w news D) {q:Str×RmA} (hq:q∈D.rms):q.2.links.length≤5:=by
 have:=nodup_le (M.rms q hq).i.nodup fun x hx=>(Rl.rms q hq x).mp hx
 have:=ways_len (cov:=cov) Rl.few q.1
 k_extra "ar"
theorem atP_len (hf:links.length≤5) (p:Str):(atP links p).length≤5:=by
 unfold atP
 refine rwl (List.length_map ..) ?_
 exact Nat.le_trans (List.length_filter_le _ _) hf
theorem mem_affL {dm k:Str} (hk:k∈D.rms.map (·.1)):k∈affL D cov dm↔(dm=k∨(cov=true∧covS k dm=true)):=by
 unfold affL
 refine rwl (propext (List.mem_filter ..)) ?_
 cases cov with
 | true =>
  refine rwl (if_pos rfl ..) ?_
  constructor
  ·exact fun h=>.inr ⟨rfl,h.2⟩
  ·rintro (rfl | h)
   ·exact ⟨hk,covS_refl _⟩
   ·exact ⟨hk,h.2⟩
 | false =>
  refine rwl (if_neg (by decide) ..) ?_
  constructor
  ·exact fun h=>.inl (beq_iff_eq.mp h.2).symm
  ·rintro (rfl | h)
   ·exact ⟨hk,beq_self_eq_true _⟩
   ·nomatch h.1
theorem DmRel.add (Rl:DmRel D links cov) {D':DmA} {n1 n2 dm:Str} (hn1:n1∈Names) (hn2:n2∈Names) (hdm:dm∈Places) (hno:(n1,n2) ∉ links.map pr) (hlen:links.length≤4) (hfn:D'.fn=D.fn)
  (hls:∀ p,lsOf D'.pls p=if p=dm then lsOf D.pls dm++[(n1,n2)] else lsOf D.pls p) (hrm:F2 (RmsRel (·++[(n1,n2)]) (affL D cov dm)) D.rms D'.rms):DmRel D' (links++[(n1,n2,dm)]) cov where
 fn:=hfn.trans Rl.fn
 ls:=fun p=>by
  refine rwl (hls ..) ?_
  unfold atP
  (refine rwl (List.filter_append ..) ?_;refine rwl (List.map_append ..) ?_)
  by_cases e:p=dm
  ·subst e
   (refine rwl (if_pos rfl ..) ?_;refine rwl (Rl.ls ..) ?_)
   unfold atP
   simp [pr]
  ·(refine rwl (if_neg e ..) ?_;refine rwl (Rl.ls ..) ?_)
   have:((n1,n2,dm).2.2 == p)=false:=beq_eq_false_iff_ne.mpr (Ne.symm e)
   unfold atP
   simp [Ne.symm e]
 rms:=fun q hq l=>by
  (refine e_EA3 (hrm.right hq) ?_;intro p hp e1 e2 e3)
  have hk:p.1∈D.rms.map (·.1):=List.mem_map_of_mem (f:=fun q:Str×RmA=>q.1) hp
  (refine rwl (e3 ..) ?_;refine rwl (e1 ..) ?_;refine rwl (propext (mem_ways ..)) ?_)
  have old:=Rl.rms p hp l
  rw [mem_ways] at old
  have key:(∃ q,(l.1,l.2,q)∈links++[(n1,n2,dm)]∧(q=p.1∨(cov=true∧covS p.1 q=true)))↔l∈p.2.links∨(l=(n1,n2)∧(dm=p.1∨(cov=true∧covS p.1 dm=true))):=by
   refine rwl (propext (old ..)) ?_
   constructor
   ·intro e8_0;(refine e_EA (e8_0) ?_;clear e8_0;intro q h h')
    rcases List.mem_append.mp h with h | h
    ·exact .inl ⟨q,h,h'⟩
    ·have:=List.mem_singleton.mp h
     simp only [Prod.mk.injEq] at this
     (refine e_A2 (this) ?_;clear this;intro a b e9_2;subst e9_2)
     exact .inr ⟨Prod.ext a b,h'⟩
   ·rintro (⟨q,h,h'⟩ | ⟨rfl,h'⟩)
    ·exact ⟨q,List.mem_append_left _ h,h'⟩
    ·exact ⟨dm,List.mem_append_right _ (.head _),h'⟩
  (refine rwl (propext (key ..)) ?_;refine rwr (propext (mem_affL hk ..)) ?_)
  by_cases ha:p.1∈affL D cov dm
  ·(refine rwl (if_pos ha ..) ?_;refine rwl (propext (List.mem_append ..)) ?_;refine rwl (propext (List.mem_singleton ..)) ?_)
   simp [ha]
  ·refine rwl (if_neg ha ..) ?_
   simp [ha]
 lnk:=by
  (refine rwl (List.map_append ..) ?_;refine rwl (propext (List.nodup_append ..)) ?_)
  refine ⟨Rl.lnk,by simp,?_⟩
  intro x hx y hy e
  rw [List.map_singleton,List.mem_singleton] at hy
  subst e;subst hy
  exact hno hx
 nms:=fun l hl=>by
  rcases List.mem_append.mp hl with h | h
  ·exact Rl.nms l h
  ·refine rwl (List.mem_singleton.mp h ..) ?_;exact ⟨hn1,hn2,hdm⟩
 few:=by (refine rwl (List.length_append ..) ?_;refine rwl (List.length_singleton ..) ?_);omega
theorem DmRel.del (Rl:DmRel D links cov) (M:DmMem prog w news D) {D':DmA} {n1 n2 dm:Str} (hin:(n1,n2,dm)∈links) (hfn:D'.fn=D.fn)
  (hls:∀ p,lsOf D'.pls p=if p=dm then (lsOf D.pls dm).erase (n1,n2) else lsOf D.pls p) (hrm:F2 (RmsRel (·.erase (n1,n2)) (affL D cov dm)) D.rms D'.rms):DmRel D' (links.filter (· != (n1,n2,dm))) cov where
 fn:=hfn.trans Rl.fn
 ls:=fun p=>by
  refine rwl (hls ..) ?_
  have same:∀ q,q≠dm→atP (links.filter (· != (n1,n2,dm))) q=atP links q:=fun q hq=>by
   unfold atP
   refine rwl (List.filter_filter ..) ?_
   congr 1
   refine List.filter_congr fun l _=>?_
   by_cases e:l.2.2=q
   ·have:l≠(n1,n2,dm):=fun x=>hq (by (refine rwr (e ..) ?_;refine rwl (x ..) ?_;with_reducible rfl))
    simp [e,this]
   ·simp [e]
  by_cases e:p=dm
  ·subst e
   (refine rwl (if_pos rfl ..) ?_;refine rwl (Rl.ls ..) ?_;refine rwl ((atP_nodup Rl.lnk p).erase_eq_filter ..) ?_)
   unfold atP
   (refine rwl (List.filter_filter ..) ?_;refine rwl (List.filter_map ..) ?_;refine rwl (List.filter_filter ..) ?_)
   congr 1
   refine List.filter_congr fun l _=>?_
   rcases l with ⟨a,b,c⟩
   show (((a,b) != (n1,n2)) && (c == p))=((c == p) && ((a,b,c) != (n1,n2,p)))
   by_cases hc:c=p
   ·subst hc
    (refine rwl (beq_self_eq_true ..) ?_;refine rwl (Bool.and_true ..) ?_;refine rwl (Bool.true_and ..) ?_;refine rwl (propext (Bool.eq_iff_iff ..)) ?_;refine rwl (propext (bne_iff_ne ..)) ?_;refine rwl (propext (bne_iff_ne ..)) ?_)
    simp
   ·(refine rwl (beq_eq_false_iff_ne.mpr hc ..) ?_;refine rwl (Bool.and_false ..) ?_;refine rwl (Bool.false_and ..) ?_;with_reducible rfl)
  ·(refine rwl (if_neg e ..) ?_;refine rwl (Rl.ls ..) ?_;refine rwl (same p e ..) ?_;with_reducible rfl)
 rms:=fun q hq l=>by
  (refine e_EA3 (hrm.right hq) ?_;intro p hp e1 e2 e3)
  have hk:p.1∈D.rms.map (·.1):=List.mem_map_of_mem (f:=fun q:Str×RmA=>q.1) hp
  (refine rwl (e3 ..) ?_;refine rwl (e1 ..) ?_;refine rwl (propext (mem_ways ..)) ?_)
  have old:=Rl.rms p hp l
  have hnd:=(M.rms p hp).i.nodup
  by_cases ha:p.1∈affL D cov dm
  ·(refine rwl (if_pos ha ..) ?_;refine rwl (propext (hnd.mem_erase_iff ..)) ?_;refine rwl (propext (old ..)) ?_;refine rwl (propext (mem_ways ..)) ?_)
   constructor
   ·intro e8_0;(refine e_AEA (e8_0) ?_;clear e8_0;intro hne q h h')
    exact ⟨q,List.mem_filter.mpr ⟨h,by simp only [bne_iff_ne];exact fun e=>hne (by simp only [Prod.mk.injEq] at e;exact Prod.ext e.1 e.2.1)⟩,h'⟩
   ·intro e8_0;(refine e_EA (e8_0) ?_;clear e8_0;intro q h h')
    (refine e_A (List.mem_filter.mp h) ?_;intro h1 h2)
    refine i_AEA (fun e=>?_) q h1 h'
    subst e
    have:=lnk_inj Rl.lnk h1 hin
    subst this
    simp at h2
  ·(refine rwl (if_neg ha ..) ?_;refine rwl (propext (old ..)) ?_;refine rwl (propext (mem_ways ..)) ?_)
   constructor
   ·intro e8_0;(refine e_EA (e8_0) ?_;clear e8_0;intro q h h')
    refine ⟨q,List.mem_filter.mpr ⟨h,?_⟩,h'⟩
    simp only [bne_iff_ne]
    intro e
    simp only [Prod.mk.injEq] at e
    exact ha ((mem_affL hk).mpr (e.2.2▸h'))
   ·intro e8_0;(refine e_EA (e8_0) ?_;clear e8_0;intro q h h')
    exact ⟨q,(List.mem_filter.mp h).1,h'⟩
 lnk:=Rl.lnk.sublist (List.Sublist.map _ List.filter_sublist)
 nms:=fun l hl=>Rl.nms l (List.mem_filter.mp hl).1
 few:=Nat.le_trans (List.length_filter_le _ _) Rl.few
end
theorem has_all {prog:Program} {w:World} (n2:Str) (hn2:n2∈Names):∀ l,l≤6→HasAt prog w n2 l
 | 0,_=>has_zero n2
 | l + 1,h=>has_succ n2 hn2 l (Nat.le_of_succ_le_succ h) (has_all n2 hn2 l (Nat.le_of_succ_le h))
section
variable {prog:Program} {w:World} {p:Program} {loose:List Str} {mean:ExcName→Option Value} {mg mb:Str→Option Value}
 {dp un:Nat} {gd:Option (List Code)} {cn:Str} {cs:Scope} {a:Addr} {ccd:Value} {cl:List (Str×Addr)} {outer:List Env} {A₀:Around} {base h₀:Heap} {L:Addr} {m:Str→Option Value} {s:Shared} {Q E:Value→Shared→Prop} {news:Led}

theorem rm_has_link {R:RmA} {os:Led} (K:FnOk prog w R.lam os eqS) (n1 n2:Str) (t1 t2:Tok) (l:Nat) (ps:Array Value) (hl:R.lvl=l) (hl5:l≤5) (hn1:n1∈Names) (hn2:n2∈Names) (B:Below A₀ base outer h₀) (F:Fr h₀ L s.heap m) (X:(Kp w.params).In h₀) (N:News h₀ L s.heap news) (T:Top p loose mean mg mb h₀) (hk:cs.kind=.function) (hdp:dp + 60 < recursionLimit) (hun:un + 480 < cLine) (C:CodeHd h₀ 908 906) (G:AllBare s.gens)
 (I:RmIn prog w news R) (ho:∀ p∈os,p∈news) (hoff:∀ p∈os,¬ R.own p.1) (hPo:¬ R.own 906) (hP:(906,tabObj ps)∈news) (ht:TriplesOk ps.toList)
 (ret:∀ s' news' R' ps',s'.os=s.os→AllBare s'.gens→Fr h₀ L s'.heap m→News h₀ L s'.heap news'→RmIn prog w news' R'→Stp (fun a=>R.own a∨a=906) (fun a=>R'.own a∨a=906) news news'→(906,tabObj ps')∈news'→TriplesOk ps'.toList→¬ R'.own 906 →
  RmSame R R'→Q (.bool (hasL R.links n2 l [n1])) s')
 : wpAny (model prog w) (ktrTop dp un gd cn cs L a ccd cl outer) (call (.ref 904) [.ref R.x,.str n1 t1,.str n2 t2]) Q E s:=by
 have hx:=I.x
 have hd:=I.d
 (refine call_res ?_;k_extra "kR")
 iterate 10 k_extra "w"
 refine get_role rfl K n1 t1 hn1 (by k_asm) (by k_asm) (by k_asm) (by k_asm) (by k_asm) rfl (by ktr_room) (by ktr_units) (I.sub fun p hp=>.tail _ hp) (fun p hp=>.tail _ (ho p hp)) hoff ?_
 intro h5 tk5 news5 R5 u F5 N5 I5 S5 Sm5 e5 hu5 un5
 have hx5:(R.x,instObj 929 R5.d)∈news5:=by have:=I5.x;rw [Sm5.x] at this;exact this
 have hd5:=I5.d
 have ho5:∀ p∈os,p∈news5:=fun p hp=>S5.keep p (.tail _ (ho p hp)) (hoff p hp)
 iterate 11 k_extra "w"
 refine get_role (R:=R5) Sm5.x (Sm5.lam▸K) n2 t2 hn2 (by k_asm) (by k_asm) (by k_asm) (by k_asm) (by k_asm) rfl (by ktr_room) (by ktr_units) I5 ho5 (fun p hp h=>(S5.new _ h).elim (hoff p hp) fun f=>f p (.tail _ (ho p hp)) rfl) ?_
 intro h6 tk6 news6 R6 v F6 N6 I6 S6 Sm6 e6 hv6 vn6
 have hx6:(R.x,instObj 929 R6.d)∈news6:=by have:=I6.x;rw [Sm6.x,Sm5.x] at this;exact this
 have hd6:=I6.d
 have S56:=stp_skip (S5.trans S6)
 have hP6:(906,tabObj ps)∈news6:=S56.keep _ hP hPo
 have hPo6:¬ R6.own 906:=stp_off S56 hP hPo
 have hu6:=e6 u hu5
 have hlv6:R6.lvl=l:=by (refine rwl (Sm6.lvl ..) ?_;refine rwl (Sm5.lvl ..) ?_);exact hl
 have hxe:R6.x=R.x:=Sm6.x.trans Sm5.x
 iterate 21 k_extra "w"
 rename_i D8 h8 F8 N8 l8
 (refine rwl (hlv6 ..) ?_;refine rwr (hxe ..) ?_)
 have hD8:(D8,refsO [u.a.x] 0)∈(D8,listOf #[.ref u.a.x] 0)::news6:=.head _
 refine has_all n2 hn2 l (by k_extra "ar") R6 t2 _ D8 [u.a.x] 0 [n1] ps (by k_asm) (by k_asm) (by k_asm) (by k_asm) (by k_asm) rfl (by ktr_room) (by ktr_units) (C.keeps FG'.keep) G (I6.sub fun p hp=>.tail _ hp) hPo6 (.tail _ hP6) ht hD8 ⟨Nat.ne_of_gt (l8 _ hP6)⟩ (by simp) (.one ⟨u,hu6,rfl,un5⟩) ?_
 intro s9 ps9 os9 G9 ht9 F9 N9
 refine rwl (show R6.links=R.links by rw [Sm6.links,Sm5.links]) ?_
 have hup:∀ p∈upd 906 (tabObj ps9) news6,p∈upd 906 (tabObj ps9) ((D8,listOf #[.ref u.a.x] 0)::news6):=sub_upd (sub_skip sub_rfl)
 have I9:=I6.off (P:=906) (o:=tabObj ps9) hPo6
 have S9:=(S56.wider (·=906)).trans (Stp.table (o':=tabObj ps9) hP6)
 k_extra "w"
 exact ret _ _ R6 ps9 os9 G9 (by k_asm) (news_sub (by k_asm) hup) I9 S9 mem_upd_self ht9 hPo6 (Sm5.trans Sm6)
end
section
variable {prog:Program} {w:World} {news news':Led} {D:DmA} {links:List Lk} {cov:Bool}
theorem DmRel.setSame (Rl:DmRel D links cov) {q:Str×RmA} (hq:q∈D.rms) {R:RmA} (hl:R.links=q.2.links):DmRel (D.setRm q.1 R) links cov where
 fn:=Rl.fn
 ls:=Rl.ls
 rms:=fun r hr l=>by
  (refine e_EA (List.mem_map.mp hr) ?_;intro p hp e9_2;subst e9_2)
  by_cases e:p.1=q.1
  ·refine rwl (if_pos e ..) ?_
   show l∈R.links↔_
   (refine rwl (hl ..) ?_;refine rwl (propext (Rl.rms q hq l ..)) ?_;refine rwl (e ..) ?_;with_reducible rfl)
  ·refine rwl (if_neg e ..) ?_;exact Rl.rms p hp l
 lnk:=Rl.lnk
 nms:=Rl.nms
 few:=Rl.few
theorem DmMem.turn (M:DmMem prog w news D) {q:Str×RmA} (hq:q∈D.rms) {R:RmA} (hP:TabIn 906 news') (S:Stp (fun a=>q.2.own a∨a=906) (fun a=>R.own a∨a=906) news news') (I:RmIn prog w news' R) (Sm:RmSame q.2 R) (h2:¬ R.own 906) :
  DmMem prog w news' (D.setRm q.1 R)∧Stp D.own (D.setRm q.1 R).own news news':=by
 have R2:=M.rms q hq
 have n742:¬ (q.2.own 742∨(742:Addr)=906):=fun h=>h.elim (M.off q hq _ base_t1) (by decide)
 have hn742:¬ R.own 742:=fun h=>stp_off S M.t1.choose_spec.1 n742 (.inl h)
 have hw:∀ (X:Addr→Prop) a,(X a∨a=906)∨(a=742∨a=906)↔X a∨(a=742∨a=906):=fun X a=>⟨fun h=>h.elim (fun h=>h.imp id .inr) .inr,fun h=>h.elim (fun h=>.inl (.inl h)) .inr⟩
 have S':Stp (fun a=>q.2.own a∨(a=742∨a=906)) (fun a=>R.own a∨(a=742∨a=906)) news news':=by
  have:=S.wider fun a=>a=742∨a=906
  simpa only [hw] using this
 exact M.setRm hq (R:=R) S' ⟨I,Sm.lam.trans R2.lam,Sm.lvl.trans R2.lvl,by (refine rwl (Sm.seq ..) ?_;refine rwl (Sm.links ..) ?_);exact R2.seq,R2.nm⟩ Sm.x hn742 h2 (M.t1.keep fun p hp e=>S.keep p hp (by refine rwl (e ..) ?_;exact n742)) hP
theorem DmMem.turn0 (M:DmMem prog w news D) {q:Str×RmA} (hq:q∈D.rms) {R:RmA} (S:Stp q.2.own R.own news news') (I:RmIn prog w news' R) (Sm:RmSame q.2 R) :
  DmMem prog w news' (D.setRm q.1 R)∧Stp D.own (D.setRm q.1 R).own news news':=by
 have n906:=M.off q hq _ base_t2
 have h2:¬ R.own 906:=stp_off S M.t2.choose_spec.1 n906
 exact M.turn hq (M.t2.keep fun p hp e=>S.keep p hp (by refine rwl (e ..) ?_;exact n906)) (S.wider (·=906)) I Sm h2
theorem DmRel.got (Rl:DmRel D links cov) (M:DmMem prog w news D) {D':DmA} (dm:Str) (h:D'=D∨∃ R,dm ∉ D.rms.map (·.1)∧D'=D.newRm dm R∧R.links=colL D cov dm):DmRel D' links cov∧D'.x=D.x∧D'.lvl=D.lvl:=by
 rcases h with rfl | ⟨R,_,rfl,hl⟩
 ·exact ⟨Rl,rfl,rfl⟩
 ·exact ⟨Rl.newRm M hl,rfl,rfl⟩
end
section
variable {prog:Program} {w:World} {p:Program} {loose:List Str} {mean:ExcName→Option Value} {mg mb:Str→Option Value}
 {dp un:Nat} {gd:Option (List Code)} {cn:Str} {cs:Scope} {a:Addr} {ccd:Value} {cl:List (Str×Addr)} {outer:List Env} {A₀:Around} {base h₀:Heap} {L:Addr} {m:Str→Option Value} {s:Shared} {Q E:Value→Shared→Prop} {news:Led}

theorem dmb_has {D:DmA} {x:Addr} (hxe:D.x=x) {links:List Lk} (cov:Bool) (Rl:DmRel D links cov) (n1 n2 dm:Str) (s1 s2 t:Tok) (hn1:n1∈Names) (hn2:n2∈Names) (hdm:dm∈Places) (B:Below A₀ base outer h₀) (F:Fr h₀ L s.heap m) (X:(Kp w.params).In h₀) (N:News h₀ L s.heap news) (T:Top p loose mean mg mb h₀) (hk:cs.kind=.function) (hdp:dp + 110 < recursionLimit) (hun:un + 880 < cLine) (C:CodeHd h₀ 908 906) (G:AllBare s.gens) (M:DmMem prog w news D)
 (ret:∀ s' news' D' Ls,s'.os=s.os→AllBare s'.gens→Fr h₀ L s'.heap m→News h₀ L s'.heap news'→DmMem prog w news' D'→Stp D.own D'.own news news'→D'.x=D.x→D'.lvl=D.lvl→DmRel D' links cov→(∀ l,l∈Ls↔l∈ways links cov dm)→Ls.Nodup→Q (.bool (hasL Ls n2 D.lvl [n1])) s')
 : codeAny (model prog w) (ktrTop dp un gd cn cs L a ccd cl outer) (.call (.ref 1010) ⟨[.ref x,.str n1 s1,.str n2 s2,.str dm t],[]⟩) (kRes Q E) s:=by
 subst hxe
 have hx:=M.x
 have hd:=M.d
 k_extra "kR"
 iterate 2 k_extra "w"
 k_extra "kS1"
 refine get_rm1 (D:=D) rfl cov Rl.fn dm t hdm (by k_asm) (by k_asm) (by k_asm) (by k_asm) (by k_asm) rfl (by ktr_room) (by ktr_units) (M.sub fun p hp=>by k_mem) (Rl.col_nodup M dm) (Rl.col_len M dm) ?_
 intro h5 tk5 news5 D5 q F5 N5 M5 S5 hD5 hq hqn
 try dsimp only
 (refine e_A2 (Rl.got M dm hD5) ?_;intro Rl5 x5 v5)
 have R5:=M5.rms q hq
 have hqx:=R5.i.x
 have hqd:=R5.i.d
 (refine e_EA (M5.t2) ?_;intro ps hps hpt)
 iterate 13 k_extra "w"
 refine rm_has_link (R:=q.2) (os:=D5.os) (by refine rwl (R5.lam ..) ?_;exact M5.K) n1 n2 s1 s2 D5.lvl ps R5.lvl M5.lvl.1.2 hn1 hn2 (by k_asm) (by k_asm) (by k_asm) (by k_asm) (by k_asm) rfl (by ktr_room) (by ktr_units) (C.keeps FG'.keep) G R5.i M5.os (fun p hp=>M5.off q hq _ (base_os hp)) (M5.off q hq _ base_t2) hps hpt ?_
 intro s6 nw6 R6 ps6 os6 G6 F6 N6 I6 S6 hP6 ht6 hPo6 Sm6
 (try dsimp only)
 (refine e_A (M5.turn hq ⟨_,hP6,ht6⟩ S6 I6 Sm6 hPo6) ?_;intro M6 S6')
 ((try (k_unfold;(try dsimp only)));k_extra "w")
 refine rwl (v5 ..) ?_
 exact ret _ nw6 (D5.setRm q.1 R6) q.2.links os6 G6 (by k_asm) (by k_asm) M6 (stp_skip (stp_skip (S5.trans S6'))) x5 v5 (Rl5.setSame hq Sm6.links) (fun l=>by refine rwr (hqn ..) ?_;exact Rl5.rms q hq l) R5.i.nodup
theorem dm_has {D:DmA} {x:Addr} (hxe:D.x=x) {links:List Lk} (cov:Bool) (Rl:DmRel D links cov) (n1 n2 dm:Str) (s1 s2 t:Tok) (hn1:n1∈Names) (hn2:n2∈Names) (hdm:dm∈Places) (B:Below A₀ base outer h₀) (F:Fr h₀ L s.heap m) (X:(Kp w.params).In h₀) (N:News h₀ L s.heap news) (T:Top p loose mean mg mb h₀) (hk:cs.kind=.function) (hdp:dp + 120 < recursionLimit) (hun:un + 960 < cLine) (C:CodeHd h₀ 908 906) (G:AllBare s.gens) (M:DmMem prog w news D)
 (ret:∀ s' news' D' Ls,s'.os=s.os→AllBare s'.gens→Fr h₀ L s'.heap m→News h₀ L s'.heap news'→DmMem prog w news' D'→Stp D.own D'.own news news'→D'.x=D.x→D'.lvl=D.lvl→DmRel D' links cov→(∀ l,l∈Ls↔l∈ways links cov dm)→Ls.Nodup→Q (.bool (hasL Ls n2 D.lvl [n1])) s')
 : wpAny (model prog w) (ktrTop dp un gd cn cs L a ccd cl outer) (call (.ref 1121) [.ref x,.str n1 s1,.str n2 s2,.str dm t]) Q E s:=by
 subst hxe
 have hx:=M.x
 have hd:=M.d
 refine call_res ?_
 k_extra "kT"
 refine ks_wpAt_execs_cons (ks_wpAt_Return_some (at_star ?_))
 k_extra "kN"
 refine callWith_SM2 (K:=Kp w.params) (by k_asm) (.head _) (by k_is) ?_
 iterate 9 k_extra "w"
 refine call_meth (by k_asm) (.head _) ?_
 refine dmb_has (D:=D) rfl cov Rl n1 n2 dm s1 s2 t hn1 hn2 hdm (by k_asm) (by k_asm) (by k_asm) (by k_asm) (by k_asm) rfl (by ktr_room) (by ktr_units) (C.keeps FG'.keep) G (M.sub fun p hp=>by k_mem) ?_
 intro s5 news5 D5 Ls os5 G5 F5 N5 M5 S5 x5 v5 Rl5 hL hnd
 k_extra "w"
 exact ret _ news5 D5 Ls os5 G5 (by k_asm) (by k_asm) M5 (stp_skip (stp_skip (stp_skip S5))) x5 v5 Rl5 hL hnd
end
section
variable {prog:Program} {w:World} {p:Program} {loose:List Str} {mean:ExcName→Option Value} {mg mb:Str→Option Value}
 {dp un:Nat} {gd:Option (List Code)} {cn:Str} {cs:Scope} {a:Addr} {ccd:Value} {cl:List (Str×Addr)} {outer:List Env} {A₀:Around} {base h₀:Heap} {L:Addr} {m:Str→Option Value} {s:Shared} {Q E:Value→Shared→Prop} {news:Led}

theorem dmb_roles {D:DmA} {x:Addr} (hxe:D.x=x) {links:List Lk} (cov:Bool) (Rl:DmRel D links cov) (nm dm:Str) (s1 t:Tok) (hnm:nm∈Names) (hdm:dm∈Places) (B:Below A₀ base outer h₀) (F:Fr h₀ L s.heap m) (X:(Kp w.params).In h₀) (N:News h₀ L s.heap news) (T:Top p loose mean mg mb h₀) (hk:cs.kind=.function) (hdp:dp + 50 < recursionLimit) (hun:un + 400 < cLine) (M:DmMem prog w news D)
 (ret:∀ h' tk' news' D' Ls q k vs,Fr h₀ L h' m→News h₀ L h' ((q,listOf vs.toArray k)::news')→DmMem prog w news' D'→Stp D.own D'.own news news'→D'.x=D.x→D'.lvl=D.lvl→DmRel D' links cov→(∀ l,l∈Ls↔l∈ways links cov dm)→Ls.Nodup→(∀ p∈news',p.1≠q)→F2 StrIs vs (outs Ls nm)→Q (.ref q) { s with heap:=h',toks:=tk' })
 : codeAny (model prog w) (ktrTop dp un gd cn cs L a ccd cl outer) (.call (.ref 1017) ⟨[.ref x,.str nm s1,.str dm t],[]⟩) (kRes Q E) s:=by
 subst hxe
 have hx:=M.x
 have hd:=M.d
 k_extra "kR"
 iterate 2 k_extra "w"
 k_extra "kS1"
 refine get_rm1 (D:=D) rfl cov Rl.fn dm t hdm (by k_asm) (by k_asm) (by k_asm) (by k_asm) (by k_asm) rfl (by ktr_room) (by ktr_units) (M.sub fun p hp=>by k_mem) (Rl.col_nodup M dm) (Rl.col_len M dm) ?_
 intro h5 tk5 news5 D5 q F5 N5 M5 S5 hD5 hq hqn
 (refine e_A2 (Rl.got M dm hD5) ?_;intro Rl5 x5 v5)
 have R5:=M5.rms q hq
 have hqx:=R5.i.x
 have hqd:=R5.i.d
 iterate 11 k_extra "w"
 refine get_roles (R:=q.2) (os:=D5.os) (by refine rwl (R5.lam ..) ?_;exact M5.K) nm s1 hnm (by k_asm) (by k_asm) (by k_asm) (by k_asm) (by k_asm) rfl (by ktr_room) (by ktr_units) R5.i M5.os (fun p hp=>M5.off q hq _ (base_os hp)) ?_
 intro h6 tk6 nw6 R6 r6 k6 vs F6 N6 I6 S6 Sm6 fr6 hF6
 (refine e_A (M5.turn0 hq S6 I6 Sm6) ?_;intro M6 S6')
 ((try (k_unfold;(try dsimp only)));k_extra "w")
 exact ret _ _ nw6 (D5.setRm q.1 R6) q.2.links r6 k6 vs (by k_asm) (by k_asm) M6 (stp_skip (stp_skip (S5.trans S6'))) x5 v5 (Rl5.setSame hq Sm6.links) (fun l=>by refine rwr (hqn ..) ?_;exact Rl5.rms q hq l) R5.i.nodup fr6 hF6
theorem dm_roles {D:DmA} {x:Addr} (hxe:D.x=x) {links:List Lk} (cov:Bool) (Rl:DmRel D links cov) (nm dm:Str) (s1 t:Tok) (hnm:nm∈Names) (hdm:dm∈Places) (B:Below A₀ base outer h₀) (F:Fr h₀ L s.heap m) (X:(Kp w.params).In h₀) (N:News h₀ L s.heap news) (T:Top p loose mean mg mb h₀) (hk:cs.kind=.function) (hdp:dp + 60 < recursionLimit) (hun:un + 480 < cLine) (M:DmMem prog w news D)
 (ret:∀ h' tk' news' D' Ls q k vs,Fr h₀ L h' m→News h₀ L h' ((q,listOf vs.toArray k)::news')→DmMem prog w news' D'→Stp D.own D'.own news news'→D'.x=D.x→D'.lvl=D.lvl→DmRel D' links cov→(∀ l,l∈Ls↔l∈ways links cov dm)→Ls.Nodup→(∀ p∈news',p.1≠q)→F2 StrIs vs (outs Ls nm)→Q (.ref q) { s with heap:=h',toks:=tk' })
 : wpAny (model prog w) (ktrTop dp un gd cn cs L a ccd cl outer) (call (.ref 1129) [.ref x,.str nm s1,.str dm t]) Q E s:=by
 subst hxe
 have hx:=M.x
 have hd:=M.d
 refine call_res ?_
 k_extra "kT"
 refine ks_wpAt_execs_cons (ks_wpAt_Return_some (at_star ?_))
 k_extra "kN"
 refine callWith_SM2 (K:=Kp w.params) (by k_asm) (.head _) (by k_is) ?_
 iterate 7 k_extra "w"
 refine call_meth (by k_asm) (.head _) ?_
 refine dmb_roles (D:=D) rfl cov Rl nm dm s1 t hnm hdm (by k_asm) (by k_asm) (by k_asm) (by k_asm) (by k_asm) rfl (by ktr_room) (by ktr_units) (M.sub fun p hp=>by k_mem) ?_
 intro h5 tk5 news5 D5 Ls r6 k6 vs F5 N5 M5 S5 x5 v5 Rl5 hL hnd fr6 hF6
 k_extra "w"
 exact ret _ _ news5 D5 Ls r6 k6 vs (by k_asm) (by k_asm) M5 (stp_skip (stp_skip (stp_skip S5))) x5 v5 Rl5 hL hnd fr6 hF6
theorem dmb_users {D:DmA} {x:Addr} (hxe:D.x=x) {links:List Lk} (cov:Bool) (Rl:DmRel D links cov) (nm dm:Str) (s1 t:Tok) (hnm:nm∈Names) (hdm:dm∈Places) (B:Below A₀ base outer h₀) (F:Fr h₀ L s.heap m) (X:(Kp w.params).In h₀) (N:News h₀ L s.heap news) (T:Top p loose mean mg mb h₀) (hk:cs.kind=.function) (hdp:dp + 50 < recursionLimit) (hun:un + 400 < cLine) (M:DmMem prog w news D)
 (ret:∀ h' tk' news' D' Ls q k vs,Fr h₀ L h' m→News h₀ L h' ((q,listOf vs.toArray k)::news')→DmMem prog w news' D'→Stp D.own D'.own news news'→D'.x=D.x→D'.lvl=D.lvl→DmRel D' links cov→(∀ l,l∈Ls↔l∈ways links cov dm)→Ls.Nodup→(∀ p∈news',p.1≠q)→F2 StrIs vs (ins Ls nm)→Q (.ref q) { s with heap:=h',toks:=tk' })
 : codeAny (model prog w) (ktrTop dp un gd cn cs L a ccd cl outer) (.call (.ref 1024) ⟨[.ref x,.str nm s1,.str dm t],[]⟩) (kRes Q E) s:=by
 subst hxe
 have hx:=M.x
 have hd:=M.d
 k_extra "kR"
 iterate 2 k_extra "w"
 k_extra "kS1"
 refine get_rm1 (D:=D) rfl cov Rl.fn dm t hdm (by k_asm) (by k_asm) (by k_asm) (by k_asm) (by k_asm) rfl (by ktr_room) (by ktr_units) (M.sub fun p hp=>by k_mem) (Rl.col_nodup M dm) (Rl.col_len M dm) ?_
 intro h5 tk5 news5 D5 q F5 N5 M5 S5 hD5 hq hqn
 (refine e_A2 (Rl.got M dm hD5) ?_;intro Rl5 x5 v5)
 have R5:=M5.rms q hq
 have hqx:=R5.i.x
 have hqd:=R5.i.d
 iterate 11 k_extra "w"
 refine get_users (R:=q.2) (os:=D5.os) (by refine rwl (R5.lam ..) ?_;exact M5.K) nm s1 hnm (by k_asm) (by k_asm) (by k_asm) (by k_asm) (by k_asm) rfl (by ktr_room) (by ktr_units) R5.i M5.os (fun p hp=>M5.off q hq _ (base_os hp)) ?_
 intro h6 tk6 nw6 R6 r6 k6 vs F6 N6 I6 S6 Sm6 fr6 hF6
 (refine e_A (M5.turn0 hq S6 I6 Sm6) ?_;intro M6 S6')
 ((try (k_unfold;(try dsimp only)));k_extra "w")
 exact ret _ _ nw6 (D5.setRm q.1 R6) q.2.links r6 k6 vs (by k_asm) (by k_asm) M6 (stp_skip (stp_skip (S5.trans S6'))) x5 v5 (Rl5.setSame hq Sm6.links) (fun l=>by refine rwr (hqn ..) ?_;exact Rl5.rms q hq l) R5.i.nodup fr6 hF6
theorem dm_users {D:DmA} {x:Addr} (hxe:D.x=x) {links:List Lk} (cov:Bool) (Rl:DmRel D links cov) (nm dm:Str) (s1 t:Tok) (hnm:nm∈Names) (hdm:dm∈Places) (B:Below A₀ base outer h₀) (F:Fr h₀ L s.heap m) (X:(Kp w.params).In h₀) (N:News h₀ L s.heap news) (T:Top p loose mean mg mb h₀) (hk:cs.kind=.function) (hdp:dp + 60 < recursionLimit) (hun:un + 480 < cLine) (M:DmMem prog w news D)
 (ret:∀ h' tk' news' D' Ls q k vs,Fr h₀ L h' m→News h₀ L h' ((q,listOf vs.toArray k)::news')→DmMem prog w news' D'→Stp D.own D'.own news news'→D'.x=D.x→D'.lvl=D.lvl→DmRel D' links cov→(∀ l,l∈Ls↔l∈ways links cov dm)→Ls.Nodup→(∀ p∈news',p.1≠q)→F2 StrIs vs (ins Ls nm)→Q (.ref q) { s with heap:=h',toks:=tk' })
 : wpAny (model prog w) (ktrTop dp un gd cn cs L a ccd cl outer) (call (.ref 1137) [.ref x,.str nm s1,.str dm t]) Q E s:=by
 subst hxe
 have hx:=M.x
 have hd:=M.d
 refine call_res ?_
 k_extra "kT"
 refine ks_wpAt_execs_cons (ks_wpAt_Return_some (at_star ?_))
 k_extra "kN"
 refine callWith_SM2 (K:=Kp w.params) (by k_asm) (.head _) (by k_is) ?_
 iterate 7 k_extra "w"
 refine call_meth (by k_asm) (.head _) ?_
 refine dmb_users (D:=D) rfl cov Rl nm dm s1 t hnm hdm (by k_asm) (by k_asm) (by k_asm) (by k_asm) (by k_asm) rfl (by ktr_room) (by ktr_units) (M.sub fun p hp=>by k_mem) ?_
 intro h5 tk5 news5 D5 Ls r6 k6 vs F5 N5 M5 S5 x5 v5 Rl5 hL hnd fr6 hF6
 k_extra "w"
 exact ret _ _ news5 D5 Ls r6 k6 vs (by k_asm) (by k_asm) M5 (stp_skip (stp_skip (stp_skip S5))) x5 v5 Rl5 hL hnd fr6 hF6
end
section
variable {prog:Program} {w:World} {news news':Led} {D:DmA} {links:List Lk} {cov:Bool}
theorem DmRel.cleared (Rl:DmRel D links cov) {D':DmA} (hf:D'.fn=D.fn) (hp:D'.pls=[]) (hr:D'.rms=[]):DmRel D' [] cov where
 fn:=hf.trans Rl.fn
 ls:=fun p=>by refine rwl (hp ..) ?_;rfl
 rms:=fun q hq=>by rw [hr] at hq;nomatch hq
 lnk:=List.nodup_nil
 nms:=fun l hl=>nomatch hl
 few:=Nat.zero_le _
theorem DmRel.recov (Rl:DmRel D links cov) {D':DmA} (c:Bool) (hf:D'.fn=if c then .ref 1177 else .none) (hp:D'.pls=D.pls) (hr:D'.rms=[]):DmRel D' links c where
 fn:=hf
 ls:=fun p=>by refine rwl (hp ..) ?_;exact Rl.ls p
 rms:=fun q hq=>by rw [hr] at hq;nomatch hq
 lnk:=Rl.lnk
 nms:=Rl.nms
 few:=Rl.few
end
section
variable {prog:Program} {w:World} {p:Program} {loose:List Str} {mean:ExcName→Option Value} {mg mb:Str→Option Value}
 {dp un:Nat} {gd:Option (List Code)} {cn:Str} {cs:Scope} {a:Addr} {ccd:Value} {cl:List (Str×Addr)} {outer:List Env} {A₀:Around} {base h₀:Heap} {L:Addr} {m:Str→Option Value} {s:Shared} {Q E:Value→Shared→Prop} {news:Led}

theorem dmb_clear {D:DmA} {x:Addr} (hxe:D.x=x) (B:Below A₀ base outer h₀) (F:Fr h₀ L s.heap m) (X:(Kp w.params).In h₀) (N:News h₀ L s.heap news) (T:Top p loose mean mg mb h₀) (hk:cs.kind=.function) (hdp:dp + 4 < recursionLimit) (hun:un + 32 < cLine) (M:DmMem prog w news D)
 (ret:∀ h' tk' news' D',Fr h₀ L h' m→News h₀ L h' news'→DmMem prog w news' D'→Stp D.own D'.own news news'→D'.x=D.x→D'.lvl=D.lvl→D'.fn=D.fn→D'.pls=[]→D'.rms=D.rms→Q .none { s with heap:=h',toks:=tk' })
 : codeAny (model prog w) (ktrTop dp un gd cn cs L a ccd cl outer) (.call (.ref 989) ⟨[.ref x],[]⟩) (kRes Q E) s:=by
 subst hxe
 have hx:=M.x
 have hd:=M.d
 unfold dmD dmDE at hd
 have hxd:NeA D.x D.d:=newsNe N hx hd ne_rt
 k_extra "kE"
 iterate 5 k_extra "w"
 refine dict0L X' (by k_asm) (by k_asm) ?_
 intro al' h3 F3 N3 l3 lo3
 iterate 1 k_extra "w"
 refine set_upd (by k_asm) (by k_asm) (by k_asm) (by k_mem) (by k_mem) (by k_is) (by k_is) (by k_is) (by k_is) (by k_get) (by k_put) (Nat.le_of_ble_eq_true rfl) ?_
 intro h4 F4 N4
 (refine e_A (M.reAl N (q:=al') (fun p hp=>Nat.ne_of_lt (l3 p hp)) lo3) ?_;intro M4 S4)
 (k_extra "w";(try (k_unfold;(try dsimp only)));k_extra "w")
 exact ret _ _ _ (D.reAl al') (by k_asm) (by k_asm) M4 S4 rfl rfl rfl rfl rfl
theorem dm_clear {D:DmA} {x:Addr} (hxe:D.x=x) {links:List Lk} (cov:Bool) (Rl:DmRel D links cov) (B:Below A₀ base outer h₀) (F:Fr h₀ L s.heap m) (X:(Kp w.params).In h₀) (N:News h₀ L s.heap news) (T:Top p loose mean mg mb h₀) (hk:cs.kind=.function) (hdp:dp + 8 < recursionLimit) (hun:un + 64 < cLine) (M:DmMem prog w news D)
 (ret:∀ h' tk' news' D',Fr h₀ L h' m→News h₀ L h' news'→DmMem prog w news' D'→Stp D.own D'.own news news'→D'.x=D.x→D'.lvl=D.lvl→DmRel D' [] cov→Q .none { s with heap:=h',toks:=tk' })
 : wpAny (model prog w) (ktrTop dp un gd cn cs L a ccd cl outer) (call (.ref 1097) [.ref x]) Q E s:=by
 subst hxe
 have hx:=M.x
 have hd:=M.d
 refine call_res ?_
 k_extra "kT0"
 refine ks_wpAt_execs_cons (ks_wpAt_Expr_any (ks_wpAt_MethodCall ?_))
 k_extra "kN0"
 k_extra "w"
 refine call_meth (by k_asm) (.head _) ?_
 refine dmb_clear (D:=D) rfl (by k_asm) (by k_asm) (by k_asm) (by k_asm) (by k_asm) rfl (by ktr_room) (by ktr_units) (M.sub fun p hp=>by k_mem) ?_
 intro h5 tk5 news5 D5 F5 N5 M5 S5 x5 v5 f5 p5 r5
 have hx5:=M5.x
 have hd5:=M5.d
 rw [x5] at hx5
 unfold dmD dmDE at hd5
 have hxd:NeA D.x D5.d:=newsNe N5 hx5 hd5 ne_rt
 iterate 6 k_extra "w"
 refine dict0L X' (by k_asm) (by k_asm) ?_
 intro rm' h3 F3 N3 l3 lo3
 iterate 1 k_extra "w"
 refine set_upd (by k_asm) (by k_asm) (by k_asm) (by k_mem) (by k_mem) (by k_is) (by k_is) (by k_is) (by k_is) (by k_get) (by k_put) (Nat.le_of_ble_eq_true rfl) ?_
 intro h4 F4 N4
 (refine e_A (M5.reRm N5 (q:=rm') (fun p hp=>Nat.ne_of_lt (l3 p hp)) lo3) ?_;intro M4 S4)
 iterate 3 k_extra "w"
 exact ret _ _ _ (D5.reRm rm') (by k_asm) (by k_asm) M4 (stp_skip (stp_skip (S5.trans S4))) x5 v5 (Rl.cleared f5 p5 rfl)
end
theorem F2.ofMap {α β γ:Type} {R:α→β→Prop} {T:α→γ→Prop} {g:β→γ} {as:List α} {bs:List β} (h:F2 R as bs):(∀ a,∀ b∈bs,R a b→T a (g b))→F2 T as (bs.map g):=by
 induction h with
 | nil=>exact fun _=>.nil
 | cons h _ ih=>exact fun k=>.cons (k _ _ (.head _) h) (ih fun a b hb=>k a b (.tail _ hb))
section
variable {prog:Program} {w:World} {A:Around} {E:Value→Shared→Prop} {s:Shared} {env:Env}
def ForValsX (prog:Program) (w:World) (A:Around) (h₀:Heap) (env:Env) (x:Str) (body:List Stmt) (Q:Flow→Shared→Prop) (E:Value→Shared→Prop) (xv:Value) (s₁:Shared):Prop:=∀ Zp:Prop,(∀ (J:Nat→Led→Prop) (G:Shared→Prop) (vw d:Addr) (od:Obj) (kvs:List (Str×Value)) (m₀:Str→Option Value) (news₀:Led),(Closed G)→(xv=.ref vw)→(G s₁)→(A.handled=none)→(Fr h₀ env.locals s₁.heap m₀)→(News h₀ env.locals s₁.heap news₀)→((vw,({ cls:=.type "dict_values",data:=.fields #[.ref d] }:Obj))∈news₀)→((d,od)∈news₀)→(od.IsDictOf (strKind prog w) kvs)→(J 0 news₀)→((∀ i k v news₁ s₂ I oI,G s₂→kvs[i]?=some (k,v)→J i news₁→(d,od)∈news₁→(∀ p∈news₁,p.1≠I)→Fr h₀ env.locals s₂.heap (fun y=>if y=x then some v else m₀ y)→News h₀ env.locals s₂.heap ((I,oI)::news₁)→wpAny (model prog w) A (execs body env) (ForStepX h₀ env.locals (fun nw=>(d,od)∈nw) J G Q I oI i (fun y=>if y=x then some v else m₀ y)) E s₂))→(∀ s' o news',G s'→Fr h₀ env.locals s'.heap (fun y=>if y=x then o else m₀ y)→News h₀ env.locals s'.heap news'→J kvs.length news'→Q .next s')→Zp)→Zp
theorem for_values_x {Q:Flow→Shared→Prop} {x:Str} {px pos:Pos} {iter:Expr} {body:List Stmt} (h₀:Heap)
  (h:wpAny (model prog w) A (eval iter env) (ForValsX prog w A h₀ env x body Q E) E s)
  (hx:env.kindOf x=some .local) (hp:(env.scope.kind == .class || (env.scope.kind == .module && env.locals != env.globals))=false)
  (hs:∀ x,foldedSetIterable iter env x=pure x)
  (hE:PassesOwn (model prog w) A env E) :
  wpAny (model prog w) A (exec (.For (.Name x px) iter body [] pos) env) Q E s:=by
 refine for_values h₀ (wpAny_mono h (fun xv s₁ h₁=>?_) fun _ _ e=>e) hx hp hs hE
 (refine h₁ _ ?_;clear h₁;intro J G vw d od kvs m₀ news₀ hG e9_9 hg hh F N hv hm hd hJ step fin;subst e9_9)
 refine fun _ kM=>kM (fun i m' nw=>J i nw∧∃ o,m'=fun y=>if y=x then o else m₀ y) G vw d od kvs m₀ news₀ hG rfl hg hh F N hv hm hd ⟨hJ,m₀ x,ite_eta⟩ ?_ ?_
 ·intro i k v m₁ news₁ s₂ I oI hg hv e8_10 hS off F' N';(refine e_AE (e8_10) ?_;clear e8_10;intro hJ o e9_2;subst e9_2)
  rw [ite_self] at F'
  refine wpAny_mono (step i k v news₁ s₂ I oI hg hv hJ hS off F' N') (fun f s₃ r=>?_) fun _ _ e=>e
  cases f with
  | ret v=>exact r
  | brk=>exact r
  | cont=>(refine e_EA5 (r) ?_;clear r;intro nw a b c d e f);exact i_E2A6E _ nw a b c d e f (some v) rfl
  | next=>(refine e_EA5 (r) ?_;clear r;intro nw a b c d e f);exact i_E2A6E _ nw a b c d e f (some v) rfl
 ·intro s' m' news' hg F' N' e8_6;(refine e_AE (e8_6) ?_;clear e8_6;intro hJ o e9_2;subst e9_2)
  exact fin s' o news' hg F' N' hJ
end
section
variable {prog:Program} {w:World} {p:Program} {loose:List Str} {mean:ExcName→Option Value} {mg mb:Str→Option Value}
 {dp un:Nat} {gd:Option (List Code)} {cn:Str} {cs:Scope} {a:Addr} {ccd:Value} {cl:List (Str×Addr)} {outer:List Env} {A₀:Around} {base h₀:Heap} {L:Addr} {m:Str→Option Value} {s:Shared} {Q E:Value→Shared→Prop} {news:Led}

theorem dmb_set {D:DmA} {x:Addr} (hxe:D.x=x) (v:Value) (hv:v=.none∨v=.ref 1177) (B:Below A₀ base outer h₀) (F:Fr h₀ L s.heap m) (X:(Kp w.params).In h₀) (N:News h₀ L s.heap news) (T:Top p loose mean mg mb h₀) (hk:cs.kind=.function) (hdp:dp + 4 < recursionLimit) (hun:un + 32 < cLine) (M:DmMem prog w news D)
 (ret:∀ h' tk' news' D',Fr h₀ L h' m→News h₀ L h' news'→DmMem prog w news' D'→Stp D.own D'.own news news'→D'.x=D.x→D'.lvl=D.lvl→D'.fn=v→D'.pls=D.pls→Q .none { s with heap:=h',toks:=tk' })
 : codeAny (model prog w) (ktrTop dp un gd cn cs L a ccd cl outer) (.call (.ref 961) ⟨[.ref x,v],[]⟩) (kRes Q E) s:=by
 subst hxe
 have hx:=M.x
 have hd:=M.d
 unfold dmD dmDE at hd
 have hxd:NeA D.x D.d:=newsNe N hx hd ne_rt
 k_extra "kE"
 iterate 4 k_extra "w"
 refine set_upd (by k_asm) (by k_asm) (by k_asm) (by k_mem) (by k_mem) (by k_is) (by k_is) (by k_is) (by k_is) (by k_get) (by k_put) (Nat.le_of_ble_eq_true rfl) ?_
 intro h4 F4 N4
 (refine e_A (M.setFn N hv) ?_;intro M4 S4)
 (k_extra "w";(try (k_unfold;(try dsimp only)));k_extra "w")
 exact ret _ _ _ (D.setFn v) (by k_asm) (by k_asm) M4 S4 rfl rfl rfl rfl
theorem dm_rebuild {D:DmA} {x:Addr} (hxe:D.x=x) (B:Below A₀ base outer h₀) (F:Fr h₀ L s.heap m) (X:(Kp w.params).In h₀) (N:News h₀ L s.heap news) (T:Top p loose mean mg mb h₀) (hk:cs.kind=.function) (hdp:dp + 4 < recursionLimit) (hun:un + 32 < cLine) (M:DmMem prog w news D)
 (ret:∀ h' tk' news' D',Fr h₀ L h' m→News h₀ L h' news'→DmMem prog w news' D'→Stp D.own D'.own news news'→D'.x=D.x→D'.lvl=D.lvl→D'.fn=D.fn→D'.pls=D.pls→D'.rms=[]→Q .none { s with heap:=h',toks:=tk' })
 : wpAny (model prog w) (ktrTop dp un gd cn cs L a ccd cl outer) (call (.ref 1060) [.ref x]) Q E s:=by
 subst hxe
 have hx:=M.x
 have hd:=M.d
 unfold dmD dmDE at hd
 have hxd:NeA D.x D.d:=newsNe N hx hd ne_rt
 (refine call_res ?_;k_extra "kE")
 iterate 5 k_extra "w"
 refine dict0L X' (by k_asm) (by k_asm) ?_
 intro rm' h3 F3 N3 l3 lo3
 iterate 1 k_extra "w"
 refine set_upd (by k_asm) (by k_asm) (by k_asm) (by k_mem) (by k_mem) (by k_is) (by k_is) (by k_is) (by k_is) (by k_get) (by k_put) (Nat.le_of_ble_eq_true rfl) ?_
 intro h4 F4 N4
 (refine e_A (M.reRm N (q:=rm') (fun p hp=>Nat.ne_of_lt (l3 p hp)) lo3) ?_;intro M4 S4)
 (k_extra "w";(try (k_unfold;(try dsimp only)));k_extra "w")
 exact ret _ _ _ (D.reRm rm') (by k_asm) (by k_asm) M4 S4 rfl rfl rfl rfl rfl
theorem dm_set {D:DmA} {x:Addr} (hxe:D.x=x) {links:List Lk} (cov:Bool) (Rl:DmRel D links cov) (c:Bool) (v:Value) (hv:v=if c then .ref 1177 else .none) (B:Below A₀ base outer h₀) (F:Fr h₀ L s.heap m) (X:(Kp w.params).In h₀) (N:News h₀ L s.heap news) (T:Top p loose mean mg mb h₀) (hk:cs.kind=.function) (hdp:dp + 10 < recursionLimit) (hun:un + 80 < cLine) (M:DmMem prog w news D)
 (ret:∀ h' tk' news' D',Fr h₀ L h' m→News h₀ L h' news'→DmMem prog w news' D'→Stp D.own D'.own news news'→D'.x=D.x→D'.lvl=D.lvl→DmRel D' links c→Q .none { s with heap:=h',toks:=tk' })
 : wpAny (model prog w) (ktrTop dp un gd cn cs L a ccd cl outer) (call (.ref 1089) [.ref x,v]) Q E s:=by
 subst hxe
 have hx:=M.x
 have hd:=M.d
 refine call_res ?_
 k_extra "kT0"
 refine ks_wpAt_execs_cons (ks_wpAt_Expr_any (ks_wpAt_MethodCall ?_))
 k_extra "kN0"
 iterate 5 k_extra "w"
 refine call_meth (by k_asm) (.head _) ?_
 refine dmb_set (D:=D) rfl v (by refine rwl (hv ..) ?_;cases c;exact .inl rfl;exact .inr rfl) (by k_asm) (by k_asm) (by k_asm) (by k_asm) (by k_asm) rfl (by ktr_room) (by ktr_units) (M.sub fun p hp=>by k_mem) ?_
 intro h5 tk5 news5 D5 F5 N5 M5 S5 x5 v5 f5 p5
 have hx5:=M5.x
 have hd5:=M5.d
 rw [x5] at hx5
 unfold dmD dmDE at hd5
 (refine e_EA (M5.rm) ?_;intro orm hrm drm)
 have lor:=M5.lor
 refine _root_.PySem.wpAt_of_wpAny ?_
 refine (let A1:=_;let qk:=_;let ek:=_;(?_:wpAny _ A1 _ qk ek _))
 k_extra "w"
 refine for_values_x g' ?_ rfl rfl (by intro _;rfl) (by passes_own)
 iterate 4 k_extra "w"
 refine kdl_method (knd:=PySem.strKind _ _) PySem.F.slot_dict_values PySem.F.type_dict_values (by k_asm) hrm drm ?_
 k_extra "w"
 refine kdl_view_values (knd:=strKind _ _) (by k_asm) (by k_asm) hrm drm lor ?_
 intro vw h10 F10 N10 l10
 refine fun _ kM=>kM (fun i nw=>∃ D2,DmMem prog w nw D2∧DmKeepR D5 D2∧D2.rm=D5.rm∧F2 (fun p q=>q.1=p.1∧q.2.x=p.2.x) D5.rms D2.rms∧Stp D5.own D2.own news5 nw) (fun s'=>Only s s') vw D5.rm orm _ _ _ (Only.closed s) rfl ⟨_,_,rfl⟩ rfl (by k_asm) (by k_asm) (.head _) (.tail _ hrm) drm ⟨D5,M5.sub fun p hp=>.tail _ hp,⟨rfl,rfl,rfl,rfl,rfl,rfl⟩,rfl,?_,?_⟩ ?_ ?_
 ·induction D5.rms with
  | nil=>exact .nil
  | cons p l ih=>exact .cons ⟨rfl,rfl⟩ ih
 ·exact ⟨fun p hp _=>.tail _ hp,fun a h=>.inl h,fun a h=>h⟩
 ·intro i k v' nw s₂ I₂ oI e8_7 hkv e8_9 hS off F12 N12;(refine e_E2 (e8_7) ?_;clear e8_7;intro h12 tk12 e9_2;subst e9_2);(refine e_EA4 (e8_9) ?_;clear e8_9;intro D2 M2 K2 er2 hF2 S2)
  rw [List.getElem?_map] at hkv
  (refine e_EA (Option.map_eq_some_iff.mp hkv) ?_;intro r0 hr0 e)
  cases e
  (refine e_EA2 (hF2.left (List.mem_of_getElem? hr0)) ?_;intro q2 hq2 en ex2)
  have R2:=M2.rms q2 hq2
  have hx2:=R2.i.x
  rw [ex2] at hx2
  have hd2:=R2.i.d
  have hI2:¬ D2.own I₂:=fun h=>by
   (refine e_E (M2.there _ h) ?_;intro o ho)
   exact off _ ho rfl
  iterate 10 k_extra "w"
  refine rm_set_dm (R:=q2.2) ex2 v (by k_asm) (by k_asm) (by k_asm) (by k_asm) (by k_asm) rfl (by ktr_room) (by ktr_units) (R2.i.sub fun p hp=>.tail _ hp) ?_
  intro h13 tk13 nw13 R' F13 N13 I13 S13 x13 l13 v13 s13 k13
  have hn742:¬ R'.own 742:=stp_off S13 (.tail _ M2.t1.choose_spec.1) (M2.off q2 hq2 _ base_t1)
  have hn906:¬ R'.own 906:=stp_off S13 (.tail _ M2.t2.choose_spec.1) (M2.off q2 hq2 _ base_t2)
  (refine e_A ((M2.sub (news':=(I₂,oI)::nw) fun p hp=>.tail _ hp).setRm hq2 (R:=R') (S13.wider fun a=>a=742∨a=906) ⟨I13,l13.trans R2.lam,v13.trans R2.lvl,by (refine rwl (s13 ..) ?_;refine rwl (k13 ..) ?_);exact R2.seq,R2.nm⟩ (x13.trans ex2.symm) hn742 hn906 (M2.t1.keep fun p hp e=>S13.keep p (.tail _ hp) (by refine rwl (e ..) ?_;exact M2.off q2 hq2 _ base_t1)) (M2.t2.keep fun p hp e=>S13.keep p (.tail _ hp) (by refine rwl (e ..) ?_;exact M2.off q2 hq2 _ base_t2))) ?_;intro M13 T13)
  (refine e_EA3 (drop_it T13 hI2 off) ?_;intro nw2 d1 d2 d3 d4)
  have hS2:(D5.rm,orm)∈nw2:=by
   have hb:D2.base D5.rm:=er2▸base_rm
   refine d3 _ (S13.keep _ (.tail _ hS) (M2.off q2 hq2 _ hb)) (T13.more _ (M2.ownb _ hb))
  k_extra "w"
  refine i_EA5EA4 nw2 ⟨_,_,rfl⟩ (by k_asm) (news_sub (by k_asm) d2) d1 hS2 (D2.setRm q2.1 R') (M13.keep d3) ⟨K2.x,K2.fn,K2.lam,K2.lvl,K2.os,K2.pls⟩ er2 ?_ (S2.trans d4)
  refine F2.ofMap hF2 fun p q hq hpq=>?_
  by_cases e:q.1=q2.1
  ·have:q=q2:=inj_of_nodup_map M2.rmnd hq hq2 e
   subst this
   refine rwl (if_pos rfl ..) ?_
   exact ⟨hpq.1,x13.trans (ex2.symm.trans hpq.2)⟩
  ·refine rwl (if_neg e ..) ?_;exact hpq
 ·intro s' o nw e8_3 F12 N12 e8_6;(refine e_E2 (e8_3) ?_;clear e8_3;intro h12 tk12 e9_2;subst e9_2);(refine e_EA4 (e8_6) ?_;clear e8_6;intro D2 M2 K2 er2 hF2 S2)
  have hx2:=M2.x
  have hd2:=M2.d
  rw [K2.x,x5] at hx2
  iterate 6 k_extra "w"
  refine dm_rebuild (D:=D2) (K2.x.trans x5) (by k_asm) (by k_asm) (by k_asm) (by k_asm) (by k_asm) rfl (by ktr_room) (by ktr_units) M2 ?_
  intro h6 tk6 news6 D6 F6 N6 M6 S6 x6 v6 f6 p6 r6
  iterate 2 k_extra "w"
  exact ret _ _ news6 D6 (by k_asm) (by k_asm) M6 (stp_skip (stp_skip (S5.trans (S2.trans S6)))) (x6.trans (K2.x.trans x5)) (v6.trans (K2.lvl.trans v5)) (Rl.recov c ((f6.trans (K2.fn.trans f5)).trans hv) (p6.trans (K2.pls.trans p5)) r6)
end
noncomputable abbrev lamPs (p1 p2:Pos):Arguments:={ posonlyargs:=[],args:=[{ arg:="name1",annotation:=none,pos:=p1 },{ arg:="name2",annotation:=none,pos:=p2 }],vararg:=none,kwonlyargs:=[],kw_defaults:=[],kwarg:=none,defaults:=[] }
noncomputable abbrev lamB (p3 p4 p5:Pos):Expr:=.Compare (.Name "name1" p3) [.Eq] [.Name "name2" p4] p5
noncomputable abbrev lamS (more:List (Str×Const)):Scope:={ kind:=.function,names:=[("name1",.local),("name2",.local)],isGenerator:=false,isCoroutine:=false,more:=more }
section
variable {prog:Program} {w:World} {p:Program} {loose:List Str} {mean:ExcName→Option Value} {mg mb:Str→Option Value}
 {dp un:Nat} {gd:Option (List Code)} {cn:Str} {cs:Scope} {a:Addr} {ccd:Value} {cl:List (Str×Addr)} {outer:List Env} {A₀:Around} {base h₀:Heap} {L:Addr} {m:Str→Option Value} {s:Shared} {Q E:Value→Shared→Prop} {news:Led}

theorem lam_call {f c':Addr} {pm ctv:Value} {name qual:Str} {p1 p2 p3 p4 p5:Pos} {more:List (Str×Const)} {oc:Obj} {vs:Array Value} {t:Tok} (hd:oc.data=.fields vs) (hv:vs[1]?=some (.str qual t)) (k1 k2:Str) (t1 t2:Tok) (hk1:k1.length≤100) (hk2:k2.length≤100) (B:Below A₀ base outer h₀) (F:Fr h₀ L s.heap m) (X:(Kp w.params).In h₀) (N:News h₀ L s.heap news) (T:Top p loose mean mg mb h₀) (hk:cs.kind=.function) (hdp:dp + 1 < recursionLimit) (hun:un + 8 < cLine)
 (ho:(f,kla_obj name qual (lamPs p1 p2) (lamB p3 p4 p5) (lamS more) [] pm c' ctv)∈news) (hc:(c',oc)∈news)
 (ret:∀ h' tk' ,Fr h₀ L h' m→News h₀ L h' news→Q (.bool (eqS k1 k2)) { s with heap:=h',toks:=tk' })
 : wpAny (model prog w) (ktrTop dp un gd cn cs L a ccd cl outer) (call (.ref f) [.str k1 t1,.str k2 t2]) Q E s:=by
 refine call_res ?_
 k_dflt (refine' kla_code ?k1 ?k2 ?k3 ?k4 ?k5 ?kA ?kF ?kK ?k6 ?k7 ?k8 ?k9 ?kB ?_ ?c2 ?c3 ?c4 ?c5;(case kA=>exact rfl);(case kF=>exact rfl);(case kK=>first | exact rfl | assumption);(case k1=>k_asm);(case k2=>k_asm);(case k3=>k_asm);(case k4=>k_asm);(case k5=>k_asm);(case k6=>k_mem);(case k7=>exact codeRec_news (by k_asm) (by k_mem) (by assumption) (by assumption));(case k8=>ktr_room);(case k9=>exact rfl);(case c5=>exact List.forall_mem_cons.mpr ⟨by decide,List.forall_mem_cons.mpr ⟨by decide,fun _ h=>nomatch h⟩⟩);(case kB=>exact locs rfl);(case c2=>exact rfl);(case c3=>exact rfl);(case c4=>exact rfl);k_whole)
 intro g' L' h' FG' F' N' B' X' T'
 (try k_fold)
 k_steps
 exact ret _ _ (by k_asm) (by k_asm)
theorem lam_ok {f c':Addr} {pm ctv:Value} {name qual:Str} {p1 p2 p3 p4 p5:Pos} {more:List (Str×Const)} {oc:Obj} {vs:Array Value} {t:Tok} (hd:oc.data=.fields vs) (hv:vs[1]?=some (.str qual t)) :
  FnOk prog w f [(f,kla_obj name qual (lamPs p1 p2) (lamB p3 p4 p5) (lamS more) [] pm c' ctv),(c',oc)] eqS where
 fn:=fun _ _ N ho=>⟨_,_,_,_,(N _ (ho _ (.head _))).1⟩
 ty:=fun _ _ N ho=>⟨_,(N _ (ho _ (.head _))).1,rfl⟩
 call:=fun k1 k2 t1 t2 h1 h2 B F X N T hk hdp hun ho ret=>lam_call hd hv k1 k2 t1 t2 h1 h2 B F X N T hk hdp hun (ho _ (.head _)) (ho _ (.tail _ (.head _))) ret
end
theorem updF_of {P:Addr} {o:Obj} {l:Led}:UpdF P o (upd P o l) (fun o'=>(P,o')::l.filter fun p=>p.1 != P):=by
 unfold upd
 exact .head upd_off
noncomputable abbrev dm4DE (P:Params) (lv:Int) (al f:Addr) (tl t1 t2 t3 t4:Tok):List DictEntry:=[⟨PyData.keyHash P "all_links",.str "all_links" t1,.ref al⟩,⟨PyData.keyHash P "max_hierarchy_level",.str "max_hierarchy_level" t2,.int lv tl⟩,⟨PyData.keyHash P "matching_func",.str "matching_func" t3,.ref f⟩,
 ⟨PyData.keyHash P "domain_matching_func",.str "domain_matching_func" t4,.none⟩]
noncomputable abbrev dm4D (P:Params) (lv:Int) (al f:Addr) (tl t1 t2 t3 t4:Tok):Obj:=dictOf (dm4DE P lv al f tl t1 t2 t3 t4) 4
section
variable {prog:Program} {w:World} {p:Program} {loose:List Str} {mean:ExcName→Option Value} {mg mb:Str→Option Value}
 {dp un:Nat} {gd:Option (List Code)} {cn:Str} {cs:Scope} {a:Addr} {ccd:Value} {cl:List (Str×Addr)} {outer:List Env} {A₀:Around} {base h₀:Heap} {L:Addr} {m:Str→Option Value} {s:Shared} {Q E:Value→Shared→Prop} {news:Led}

theorem dmb_init (x d:Addr) (lv:Int) (tl:Tok) (B:Below A₀ base outer h₀) (F:Fr h₀ L s.heap m) (X:(Kp w.params).In h₀) (N:News h₀ L s.heap news) (T:Top p loose mean mg mb h₀) (hk:cs.kind=.function) (hdp:dp + 3 < recursionLimit) (hun:un + 24 < cLine) (C:CodeHd h₀ 945 941) (hx:(x,instObj 1140 d)∈news) (hd:(d,dictOf [] 0)∈news) (hP:(941,tabObj #[])∈news)
 (ret:∀ h' tk' (al f c':Addr) oc vs t pm ctv (name qual:Str) p1 p2 p3 p4 p5 more t1 t2 t3 t4 nw',Fr h₀ L h' m→News h₀ L h' nw'→(∀ p∈news,p.1≠d→p.1≠941→p∈nw')→(d,dm4D w.params lv al f tl t1 t2 t3 t4)∈nw'→(al,dictOf [] 0)∈nw' →
  (f,kla_obj name qual (lamPs p1 p2) (lamB p3 p4 p5) (lamS more) [] pm c' ctv)∈nw'→(c',oc)∈nw'→oc.data=.fields vs→vs[1]?=some (.str qual t)→(∀ p∈news,p.1 < al)→@LT.lt Nat _ al c'→@LT.lt Nat _ c' f→(al == sysModules)=false→(∃ ps,(941,tabObj ps)∈nw')→Q .none { s with heap:=h',toks:=tk' })
 : codeAny (model prog w) (ktrTop dp un gd cn cs L a ccd cl outer) (.call (.ref 946) ⟨[.ref x,.int lv tl],[]⟩) (kRes Q E) s:=by
 have hxd:NeA x d:=newsNe N hx hd ne_rt
 k_extra "kE"
 iterate 5 k_extra "w"
 refine dict0L X' (by k_asm) (by k_asm) ?_
 intro al h3 F3 N3 l3 lo3
 have y1:@LT.lt Nat _ x al:=l3 (x,_) (by k_mem)
 have y2:@LT.lt Nat _ d al:=l3 (d,_) (by k_mem)
 have y3:@LT.lt Nat _ 941 al:=l3 (941,_) (by k_mem)
 have hdP:NeA d 941:=newsNe N hd hP (by nofun)
 have hxP:NeA x 941:=newsNe N hx hP (by nofun)
 have haP:NeA al 941:=⟨Nat.ne_of_gt y3⟩
 have hald:NeA al d:=⟨Nat.ne_of_gt y2⟩
 have hC':=C.keeps FG'.keep
 iterate 1 k_extra "w"
 refine set_upd (by k_asm) (by k_asm) (by k_asm) (by k_mem) (by k_mem) (by k_is) (by k_is) (by k_is) (by k_is) (by k_get) (by k_put) (Nat.le_of_ble_eq_true rfl) ?_
 intro h4 F4 N4
 iterate 4 k_extra "w"
 refine set_upd (by k_asm) (by k_asm) (by k_asm) (by k_mem) (by k_mem) (by k_is) (by k_is) (by k_is) (by k_is) (by k_get) (by k_put) (Nat.le_of_ble_eq_true rfl) ?_
 intro h5 F5 N5
 iterate 4 k_extra "w"
 refine set_upd (by k_asm) (by k_asm) (by k_asm) (by k_mem) (by k_mem) (by k_is) (by k_is) (by k_is) (by k_is) (by k_get) (by k_put) (Nat.le_of_ble_eq_true rfl) ?_
 intro h6 F6 N6
 iterate 4 k_extra "w"
 refine set_upd (by k_asm) (by k_asm) (by k_asm) (by k_mem) (by k_mem) (by k_is) (by k_is) (by k_is) (by k_is) (by k_get) (by k_put) (Nat.le_of_ble_eq_true rfl) ?_
 intro h7 F7 N7
 iterate 2 k_extra "w"
 have hPd:NeA 941 d:=⟨hdP.out.symm⟩
 refine kla_eval (by rfl) ?_
 refine kla_nest (ps:=#[]) F7 (news_updOf N7 (show (941,tabObj #[])∈_ by k_mem)) T' hC' rfl updF_of trivial rfl rfl ?_
 intro f c' oc vs t ctv h8 tk8 F8 N8 hoc hvs lc8 lf8
 replace N8:=news_sub N8 (l':=(f,_)::(c',oc)::upd 941 (tabObj _) _) (sub_cons (sub_cons fun p hp=>by unfold upd at hp;exact hp))
 have yc:@LT.lt Nat _ al c':=lc8 (al,_) (by k_mem)
 have hcd:NeA c' d:=⟨Nat.ne_of_gt (Nat.lt_trans y2 yc)⟩
 have hfd:NeA f d:=⟨Nat.ne_of_gt (Nat.lt_trans (Nat.lt_trans y2 yc) lf8)⟩
 k_extra "w"
 refine set_upd (by k_asm) (by k_asm) (by k_asm) (by k_mem) (by k_mem) (by k_is) (by k_is) (by k_is) (by k_is) (by k_get) (by k_put) (Nat.le_of_ble_eq_true rfl) ?_
 intro h9 F9 N9
 (k_extra "w";(try (k_unfold;(try dsimp only)));k_extra "w")
 refine ret _ _ al f c' oc vs t _ _ _ _ _ _ _ _ _ _ _ _ _ _ _ (by k_asm) (by k_asm) (fun p hp h1 h2=>?_) mem_upd_self (by k_mem) (by k_mem) (by k_mem) hoc hvs l3 yc lf8 lo3 ⟨_,mem_upd (.tail _ (.tail _ mem_upd_self)) hPd.out⟩
 refine mem_upd (.tail _ (.tail _ (mem_upd (mem_upd (mem_upd (mem_upd (mem_upd (.tail _ hp) h1) h1) h1) h1) h2))) h1
end
theorem units_make {A:Around} {args:Args}:(A.under (.builtin "type.__call__" args)).units≤A.units + 10:=by
 show A.units + Code.cUnits _≤_
 have:Code.cUnits (.builtin "type.__call__" args)≤10:=by exact Nat.le_of_ble_eq_true rfl
 k_extra "ar"
noncomputable def dmNew (x d al rm f c':Addr) (lv:Nat) (tl t1 t2 t3 t4 t5:Tok) (fo oc:Obj):DmA:=⟨x,d,al,rm,f,lv,tl,t1,t2,t3,t4,t5,.none,[],[],[(f,fo),(c',oc)],fun a=>a=x∨a=d∨a=al∨a=rm∨a=f∨a=c'∨a=742∨a=906⟩
theorem DmMem.made {prog:Program} {w:World} {news nw5:Led} {x d al rm f c':Addr} {lv:Nat} {tl t1 t2 t3 t4 t5:Tok} {fo oc:Obj} (hk:∀ p∈news,p.1≠941→p∈nw5) (hx5:(x,instObj 1140 d)∈nw5) (hal5:(al,dictOf [] 0)∈nw5) (hf5:(f,fo)∈nw5) (hc5:(c',oc)∈nw5)
  (hT1:TabIn 742 news) (hT2:TabIn 906 news) (hl:1≤lv∧lv≤5) (hpg:ProgOk prog) (K:FnOk prog w f [(f,fo),(c',oc)] eqS) (y1:∀ p∈news,@LT.lt Nat _ p.1 d) (y2:@LT.lt Nat _ d x) (y3:@LT.lt Nat _ x al) (y4:@LT.lt Nat _ al c') (y5:@LT.lt Nat _ c' f) (y6:@LT.lt Nat _ f rm)
  (lo:(al == sysModules)=false) (lo6:(rm == sysModules)=false) :
  DmMem prog w (upd d (dmD w.params (dmNew x d al rm f c' lv tl t1 t2 t3 t4 t5 fo oc)) ((rm,dictOf [] 0)::nw5)) (dmNew x d al rm f c' lv tl t1 t2 t3 t4 t5 fo oc):=by
 have w1:@LT.lt Nat _ d al:=Nat.lt_trans y2 y3
 have w3:@LT.lt Nat _ al f:=Nat.lt_trans y4 y5
 have w4:@LT.lt Nat _ al rm:=Nat.lt_trans w3 y6
 have w2:@LT.lt Nat _ d rm:=Nat.lt_trans w1 w4
 have w5:@LT.lt Nat _ d c':=Nat.lt_trans w1 y4
 have w6:@LT.lt Nat _ d f:=Nat.lt_trans w5 y5
 have z1:@LT.lt Nat _ 742 d:=let ⟨_,h,_⟩:=hT1;y1 _ h
 have z2:@LT.lt Nat _ 906 d:=let ⟨_,h,_⟩:=hT2;y1 _ h
 have up:∀ {a o},(a,o)∈nw5→a≠d→(a,o)∈upd d (dmD w.params (dmNew x d al rm f c' lv tl t1 t2 t3 t4 t5 fo oc)) ((rm,dictOf [] 0)::nw5):=fun h hn=>mem_upd (.tail _ h) hn
 have T1:TabIn 742 (upd d (dmD w.params (dmNew x d al rm f c' lv tl t1 t2 t3 t4 t5 fo oc)) ((rm,dictOf [] 0)::nw5)):=hT1.keep fun p hp e=>up (hk p hp (by refine rwl (e ..) ?_;decide)) (by refine rwl (e ..) ?_;exact Nat.ne_of_lt z1)
 have T2:TabIn 906 (upd d (dmD w.params (dmNew x d al rm f c' lv tl t1 t2 t3 t4 t5 fo oc)) ((rm,dictOf [] 0)::nw5)):=hT2.keep fun p hp e=>up (hk p hp (by refine rwl (e ..) ?_;decide)) (by refine rwl (e ..) ?_;exact Nat.ne_of_lt z2)
 have mx:=up hx5 (Nat.ne_of_gt y2)
 have ma:=up hal5 (Nat.ne_of_gt w1)
 have mf:=up hf5 (Nat.ne_of_gt w6)
 have mc:=up hc5 (Nat.ne_of_gt w5)
 have mr:(rm,dictOf [] 0)∈upd d (dmD w.params (dmNew x d al rm f c' lv tl t1 t2 t3 t4 t5 fo oc)) ((rm,dictOf [] 0)::nw5):=mem_upd (.head _) (Nat.ne_of_gt w2)
 have gt:∀ {P:Addr},P=742∨P=906→@LT.lt Nat _ P d:=fun h=>h.elim (fun e=>e▸z1) (fun e=>e▸z2)
 refine ⟨mx,mem_upd_self,.inl rfl,⟨_,ma,dict_nil⟩,⟨_,mr,dict_nil⟩,lo,lo6,Nat.ne_of_lt w1,Nat.ne_of_lt w2,Nat.ne_of_lt w4,fun q hq=>absurd hq List.not_mem_nil,List.nodup_nil,List.nodup_nil,fun q hq=>absurd hq List.not_mem_nil,List.nodup_nil,.nil,fun q hq=>absurd hq List.not_mem_nil,?_,fun q hq=>absurd hq List.not_mem_nil,?_,?_,?_,T1,T2,?_,K,hl,hpg⟩
 ·rintro a (h | h | h | h | ⟨q,hq,_⟩ | ⟨o,ho⟩ | h | h)
  ·exact .inl h
  ·exact .inr (.inl h)
  ·exact .inr (.inr (.inl h))
  ·exact .inr (.inr (.inr (.inl h)))
  ·exact absurd hq List.not_mem_nil
  ·rcases List.mem_cons.mp ho with e | ho
   ·exact .inr (.inr (.inr (.inr (.inl (congrArg Prod.fst e)))))
   ·exact .inr (.inr (.inr (.inr (.inr (.inl (congrArg Prod.fst (List.mem_singleton.mp ho)))))))
  ·exact .inr (.inr (.inr (.inr (.inr (.inr (.inl h))))))
  ·exact .inr (.inr (.inr (.inr (.inr (.inr (.inr h))))))
 ·rintro a (rfl | rfl | rfl | rfl | rfl | rfl | rfl | rfl)
  ·exact ⟨_,mx⟩
  ·exact ⟨_,mem_upd_self⟩
  ·exact ⟨_,ma⟩
  ·exact ⟨_,mr⟩
  ·exact ⟨_,mf⟩
  ·exact ⟨_,mc⟩
  ·(refine e_EA (T1) ?_;clear T1;intro ps h _);exact ⟨_,h⟩
  ·(refine e_EA (T2) ?_;clear T2;intro ps h _);exact ⟨_,h⟩
 ·intro p hp
  rcases List.mem_cons.mp hp with rfl | hp
  ·exact mf
  ·refine rwl (List.mem_singleton.mp hp ..) ?_;exact mc
 ·intro p hp
  have:@LT.lt Nat _ al p.1∧@LT.lt Nat _ p.1 rm:=by
   rcases List.mem_cons.mp hp with rfl | hp
   ·exact ⟨w3,y6⟩
   ·refine rwl (List.mem_singleton.mp hp ..) ?_;exact ⟨y4,Nat.lt_trans y5 y6⟩
  have dp:=Nat.lt_trans w1 this.1
  exact ⟨Nat.ne_of_gt dp,Nat.ne_of_gt this.1,Nat.ne_of_lt this.2,Nat.ne_of_gt (Nat.lt_trans z1 dp),Nat.ne_of_gt (Nat.lt_trans z2 dp),fun q hq=>absurd hq List.not_mem_nil⟩
 ·intro P hP
  have:=gt hP
  exact ⟨Nat.ne_of_lt (Nat.lt_trans this y2),Nat.ne_of_lt this,Nat.ne_of_lt (Nat.lt_trans this w1),Nat.ne_of_lt (Nat.lt_trans this w2),fun q hq=>absurd hq List.not_mem_nil⟩
section
variable {prog:Program} {w:World} {p:Program} {loose:List Str} {mean:ExcName→Option Value} {mg mb:Str→Option Value}
 {dp un:Nat} {gd:Option (List Code)} {cn:Str} {cs:Scope} {a:Addr} {ccd:Value} {cl:List (Str×Addr)} {outer:List Env} {A₀:Around} {base h₀:Heap} {L:Addr} {m:Str→Option Value} {s:Shared} {Q E:Value→Shared→Prop} {news:Led}

set_option maxHeartbeats 2000000 in
theorem dm_new (lv:Nat) (tl:Tok) (B:Below A₀ base outer h₀) (F:Fr h₀ L s.heap m) (X:(Kp w.params).In h₀) (N:News h₀ L s.heap news) (T:Top p loose mean mg mb h₀) (hk:cs.kind=.function) (hdp:dp + 6 < recursionLimit) (hun:un + 48 < cLine) (C:CodeHd h₀ 945 941) (hP:(941,tabObj #[])∈news) (hT1:TabIn 742 news) (hT2:TabIn 906 news) (hl:1≤lv∧lv≤5) (hpg:ProgOk prog)
 (ret:∀ h' tk' news' D,Fr h₀ L h' m→News h₀ L h' news'→DmMem prog w news' D→(∀ p∈news,p.1≠941→p∈news')→(∀ a,D.own a→a=742∨a=906∨∀ p∈news,p.1≠a)→D.lvl=lv→DmRel D [] false→(∃ ps,(941,tabObj ps)∈news')→Q (.ref D.x) { s with heap:=h',toks:=tk' })
 : wpAny (model prog w) (ktrTop dp un gd cn cs L a ccd cl outer) (call (.ref 1140) [.int (lv:Int) tl]) Q E s:=by
 (refine e_EA (hT1) ?_;clear hT1;intro ps1 hp1 ht1)
 (refine e_EA (hT2) ?_;clear hT2;intro ps2 hp2 ht2)
 refine' call_cls ?k1 ?k2 ?k3 ?k4 ?k5 ?k6 ?_;(case k1=>k_asm);(case k2=>k_asm);(case k3=>k_asm);(case k4=>k_is);(case k5=>k_is);(case k6=>k_is)
 intro x d h1 F1 N1 l0 l2
 replace l2:=ltN l2
 k_extra "kT0"
 refine ks_wpAt_execs_cons (ks_wpAt_Expr_any (ks_wpAt_MethodCall ?_))
 k_extra "kN0"
 iterate 5 k_extra "w"
 refine call_meth (by k_asm) (.head _) ?_
 have hum:=@units_make (ktrTop dp un gd cn cs L a ccd cl outer) ⟨[.ref 1140,.int (lv:Int) tl],[]⟩
 refine dmb_init x d (lv:Int) tl (by k_asm) (by k_asm) (by k_asm) (by k_asm) (by k_asm) rfl (by ktr_room) (by ktr_units) (C.keeps FG'.keep) (by k_mem) (by k_mem) (by k_mem) ?_
 intro h5 tk5 al f c' oc vs tv pm ctv name qual p1 p2 p3 p4 p5 more t1 t2 t3 t4 nw5 F5 N5 k5 hd5 hal5 hf5 hc5 hoc hvs l3 yc lf lo ⟨ps5,hps5⟩
 have ydl:∀ p∈news,@LT.lt Nat _ p.1 d:=l0
 have yxa:@LT.lt Nat _ x al:=l3 (x,_) (by k_mem)
 have hnd:∀ p∈news,p.1≠d:=fun p hp=>Nat.ne_of_lt (ydl p hp)
 have ydP:@LT.lt Nat _ 941 d:=ydl _ hP
 have hx5:(x,instObj 1140 d)∈nw5:=k5 _ (by k_mem) (Nat.ne_of_gt l2) (Nat.ne_of_gt (Nat.lt_trans ydP l2))
 have hxd:NeA x d:=⟨Nat.ne_of_gt l2⟩
 have hk5:∀ p∈news,p.1≠941→p∈nw5:=fun p hp h=>k5 p (by k_mem) (hnd p hp) h
 iterate 6 k_extra "w"
 refine dict0L X' (by k_asm) (by k_asm) ?_
 intro rm h6 F6 N6 l6 lo6
 have yfr:@LT.lt Nat _ f rm:=l6 _ hf5
 iterate 1 k_extra "w"
 refine set_upd (by k_asm) (by k_asm) (by k_asm) (by k_mem) (by k_mem) (by k_is) (by k_is) (by k_is) (by k_is) (by k_get) (by k_put) (Nat.le_of_ble_eq_true rfl) ?_
 intro h7 F7 N7
 iterate 3 k_extra "w"
 have M7:=DmMem.made (w:=w) (lv:=lv) (tl:=tl) (t1:=t1) (t2:=t2) (t3:=t3) (t4:=t4) (t5:=tk5 + 1) hk5 hx5 hal5 hf5 hc5 ⟨ps1,hp1,ht1⟩ ⟨ps2,hp2,ht2⟩ hl hpg (lam_ok hoc hvs) ydl l2 yxa yc lf yfr lo lo6
 have hown:∀ a:Addr,@LE.le Nat _ d a→∀ p∈news,p.1≠a:=fun a ha p hp=>Nat.ne_of_lt (Nat.lt_of_lt_of_le (ydl p hp) ha)
 have w1:@LT.lt Nat _ d al:=Nat.lt_trans l2 yxa
 have w5:@LT.lt Nat _ d c':=Nat.lt_trans w1 yc
 have w6:@LT.lt Nat _ d f:=Nat.lt_trans w5 lf
 have w7:@LT.lt Nat _ d rm:=Nat.lt_trans w6 yfr
 refine ret _ _ _ _ (by k_asm) (news_sub (by k_asm) sub_rfl) M7 (fun p hp h=>mem_upd (.tail _ (hk5 p hp h)) (hnd p hp)) ?_ rfl ⟨rfl,fun _=>rfl,fun q hq=>absurd hq List.not_mem_nil,List.nodup_nil,fun _ h=>absurd h List.not_mem_nil,Nat.zero_le _⟩ ⟨ps5,mem_upd (.tail _ hps5) (Nat.ne_of_lt ydP)⟩
 rintro a (rfl | rfl | rfl | rfl | rfl | rfl | h | h)
 ·exact .inr (.inr (hown _ (Nat.le_of_lt l2)))
 ·exact .inr (.inr (hown _ (Nat.le_refl _)))
 ·exact .inr (.inr (hown _ (Nat.le_of_lt w1)))
 ·exact .inr (.inr (hown _ (Nat.le_of_lt w7)))
 ·exact .inr (.inr (hown _ (Nat.le_of_lt w6)))
 ·exact .inr (.inr (hown _ (Nat.le_of_lt w5)))
 ·exact .inl h
 ·exact .inr (.inl h)
end
theorem ints_len:∀ {vs:List Value} {xs:List Int},IntsAre vs xs→vs.length=xs.length:=by
 intro vs xs h
 induction h with
 | nil=>rfl
 | cons=>(refine rwl (List.length_cons ..) ?_;refine rwl (List.length_cons ..) ?_);congr 1
section
variable {prog:Program} {w:World} {p:Program} {loose:List Str} {mean:ExcName→Option Value} {mg mb:Str→Option Value}
 {dp un:Nat} {gd:Option (List Code)} {cn:Str} {cs:Scope} {a:Addr} {ccd:Value} {cl:List (Str×Addr)} {outer:List Env} {A₀:Around} {base h₀:Heap} {L:Addr} {m:Str→Option Value} {s:Shared} {Q E:Value→Shared→Prop} {news:Led}

theorem law_names (B:Below A₀ base outer h₀) (F:Fr h₀ L s.heap m) (X:(Kp w.params).In h₀) (N:News h₀ L s.heap news) (T:Top p loose mean mg mb h₀) (hk:cs.kind=.function) (hdp:dp + 1 < recursionLimit) (hun:un + 8 < cLine)
 (ret:∀ h' tk' (q:Addr) k t1 t2 t3 t4,Fr h₀ L h' m→News h₀ L h' ((q,listOf #[.str "ann" t1,.str "bob" t2,.str "cat" t3,.str "dan" t4] k)::news)→(∀ p∈news,p.1 < q)→Q (.ref q) { s with heap:=h',toks:=tk' })
 : wpAny (model prog w) (ktrTop dp un gd cn cs L a ccd cl outer) (call (.ref 1156) []) Q E s:=by
 (refine call_res ?_;k_extra "kE")
 k_steps
 exact ret _ _ _ _ _ _ _ _ (by k_asm) (by k_asm) (by assumption)
theorem law_places (B:Below A₀ base outer h₀) (F:Fr h₀ L s.heap m) (X:(Kp w.params).In h₀) (N:News h₀ L s.heap news) (T:Top p loose mean mg mb h₀) (hk:cs.kind=.function) (hdp:dp + 1 < recursionLimit) (hun:un + 8 < cLine)
 (ret:∀ h' tk' (q:Addr) k t1 t2 t3 t4 t5,Fr h₀ L h' m→News h₀ L h' ((q,listOf #[.str "a/x" t1,.str "a/y" t2,.str "b/x" t3,.str "a/*" t4,.str "*" t5] k)::news)→(∀ p∈news,p.1 < q)→Q (.ref q) { s with heap:=h',toks:=tk' })
 : wpAny (model prog w) (ktrTop dp un gd cn cs L a ccd cl outer) (call (.ref 1163) []) Q E s:=by
 (refine call_res ?_;k_extra "kE")
 k_steps
 exact ret _ _ _ _ _ _ _ _ _ (by k_asm) (by k_asm) (by assumption)
theorem law_number (sc:Addr) (vs:List Value) (xs:List Int) (hi:IntsAre vs xs) (hl:vs.length≤63) (pl:Nat) (tp:Tok) (hpl:pl≤20) (B:Below A₀ base outer h₀) (F:Fr h₀ L s.heap m) (X:(Kp w.params).In h₀) (N:News h₀ L s.heap news) (T:Top p loose mean mg mb h₀) (hk:cs.kind=.function) (hdp:dp + 1 < recursionLimit) (hun:un + 8 < cLine) (hsc:h₀.IsList sc vs.toArray)
 (ret:∀ h' tk' t,Fr h₀ L h' m→News h₀ L h' news→Q (.int ((if xs=[] then 0 else xs.getD (pl % xs.length) 0) + 7 * (pl:Int)) t) { s with heap:=h',toks:=tk' })
 : wpAny (model prog w) (ktrTop dp un gd cn cs L a ccd cl outer) (call (.ref 1170) [.ref sc,.int (pl:Int) tp]) Q E s:=by
 (refine call_res ?_;k_extra "kE")
 have hsc2:g'.IsList sc vs.toArray:=by
  (refine e_EA (hsc) ?_;clear hsc;intro o e r)
  exact ⟨o,FG'.keep _ _ e,r⟩
 iterate 8 k_extra "w"
 by_cases he:vs=[]
 ·refine rwl (if_pos (by rw [he];rfl) ..) ?_
  k_steps
  have hx:xs=[]:=by subst he;cases hi;rfl
  rw [if_pos hx] at ret
  exact ret _ _ _ (by k_asm) (by k_asm)
 ·refine rwl (if_neg (by simpa using he) ..) ?_
  have hn:vs.length≠0:=fun h=>he (List.length_eq_zero_iff.mp h)
  have hz:(vs.toArray.size:Int)≠0:=by refine rwl (List.size_toArray ..) ?_;exact fun e=>hn (Int.ofNat.inj e)
  iterate 10 k_extra "w"
  refine len_list (Fr.lst (by k_asm) hsc2) (by refine rwl (List.size_toArray ..) ?_;exact Int.ofNat_lt.mpr (Nat.lt_of_le_of_lt hl (by decide))) ?_
  k_steps
  have hlen:=ints_len hi
  have hx:xs≠[]:=fun h=>hn (by (refine rwl (hlen ..) ?_;refine rwl (h ..) ?_);rfl)
  rw [if_neg hx] at ret
  have e:((pl:Int).fmod (vs.toArray.size:Int)).toNat=pl % xs.length:=by
   (refine rwl (List.size_toArray ..) ?_;refine rwl (hlen ..) ?_;refine rwl (Int.fmod_eq_emod_of_nonneg _ (Int.natCast_nonneg _) ..) ?_;refine rwr (Int.natCast_emod ..) ?_;refine rwl (Int.toNat_natCast ..) ?_;with_reducible rfl)
  refine rwl (e ..) ?_
  exact ret _ _ _ (by k_asm) (by k_asm)
end
section
variable {prog:Program} {w:World} {A:Around} {E:Value→Shared→Prop} {s:Shared} {h₀:Heap} {L:Addr} {m:Str→Option Value} {env:Env}
def OverG (prog:Program) (w:World) (A:Around) (h₀:Heap) (L:Addr) (m:Str→Option Value) (env:Env) (scope:Scope) (cl:List (Str×Addr)) (target c elt:Expr) (Q:Value→Shared→Prop) (B:Value→(Str→Option Value)→Prop) (pz:Nat→Bool) (J:Nat→List Value→Led→Prop) (xv:Value) (s₁:Shared):Prop:=∀ Zp:Prop,(∀ (ax:Addr) (its:List Value) (k₀:Nat) (news:Led),(xv=.ref ax)→(Fr h₀ L s₁.heap m)→(News h₀ L s₁.heap news)→((ax,listOf its.toArray k₀)∈news)→(its.length≤1000)→(J 0 [] news)→((∀ i ys nw,J i ys nw→ys.length≤i))→((∀ v∈its,∀ C m₁ (s:Shared) (Q:Unit→Shared→Prop) (E':Value→Shared→Prop),s.heap.Ns C m₁→∀ nw,News h₀ L s.heap nw→(ax,listOf its.toArray k₀)∈nw∧(∀ p∈news,p∈nw)→(∀ h' tk m₂,h'.Ns C m₂→B v m₂→(∀ b o,b≠C→s.heap.get? b=some o→h'.get? b=some o)→Q () { s with heap:=h',toks:=tk })→wpAny (model prog w) A (assign target (compEnvC scope cl C env) v) Q E' s))→((∀ i k,its[i]?=some k→∀ I oI C oC D ys nw m₂ h tk (E':Value→Shared→Prop),J i ys nw→((ax,listOf its.toArray k₀)∈nw∧(∀ p∈news,p∈nw))→NsObj oC m₂→B k m₂→Fr h₀ L h m→News h₀ L h ((I,oI)::(C,oC)::(D,lst ys)::nw)→wpAny (model prog w) A (isTrue c (compEnvC scope cl C env) (eval c (compEnvC scope cl C env))) (fun ok s'=>ok=pz i∧∃ h' tk',s'={ s₁ with heap:=h',toks:=tk' }∧Fr h₀ L h' m∧News h₀ L h' ((I,oI)::(C,oC)::(D,lst ys)::nw)) E' { s₁ with heap:=h,toks:=tk }))→((∀ i k ys nw,its[i]?=some k→pz i=false→J i ys nw→J (i + 1) ys nw))→((∀ i k,its[i]?=some k→pz i=true→∀ I oI C oC D ys nw m₂ h tk (E':Value→Shared→Prop),J i ys nw→((ax,listOf its.toArray k₀)∈nw∧(∀ p∈news,p∈nw))→NsObj oC m₂→B k m₂→Fr h₀ L h m→News h₀ L h ((I,oI)::(C,oC)::(D,lst ys)::nw)→(∀ p∈nw,p.1≠I∧p.1≠C∧p.1≠D)→I≠C→I≠D→C≠D→wpAny (model prog w) A (eval elt (compEnvC scope cl C env)) (fun y s'=>∃ h' tk' nw',s'={ s₁ with heap:=h',toks:=tk' }∧Fr h₀ L h' m∧News h₀ L h' ((I,oI)::(C,oC)::(D,lst ys)::nw')∧(∀ p∈nw',p.1≠I∧p.1≠C∧p.1≠D)∧((ax,listOf its.toArray k₀)∈nw'∧(∀ p∈news,p∈nw'))∧J (i + 1) (ys++[y]) nw') E' { s₁ with heap:=h,toks:=tk }))→(∀ D h tk ys nw,J its.length ys nw→Fr h₀ L h m→News h₀ L h ((D,lst ys)::nw)→(∀ p∈nw,p.1≠D)→Q (.ref D) { s₁ with heap:=h,toks:=tk })→Zp)→Zp
theorem OverG.mk {prog:Program} {w:World} {A:Around} {h₀:Heap} {L:Addr} {m:Str→Option Value} {env:Env} {scope:Scope} {cl:List (Str×Addr)} {target c elt:Expr} {Q:Value→Shared→Prop} {B:Value→(Str→Option Value)→Prop} {pz:Nat→Bool} {J:Nat→List Value→Led→Prop} {xv:Value} {s₁:Shared} (ax:Addr) (its:List Value) (k₀:Nat) (news:Led) (f0:xv=.ref ax) (f1:Fr h₀ L s₁.heap m) (f2:News h₀ L s₁.heap news) (f3:(ax,listOf its.toArray k₀)∈news) (f4:its.length≤1000) (f5:J 0 [] news) (f6:(∀ i ys nw,J i ys nw→ys.length≤i)) (f7:(∀ v∈its,∀ C m₁ (s:Shared) (Q:Unit→Shared→Prop) (E':Value→Shared→Prop),s.heap.Ns C m₁→∀ nw,News h₀ L s.heap nw→(ax,listOf its.toArray k₀)∈nw∧(∀ p∈news,p∈nw)→(∀ h' tk m₂,h'.Ns C m₂→B v m₂→(∀ b o,b≠C→s.heap.get? b=some o→h'.get? b=some o)→Q () { s with heap:=h',toks:=tk })→wpAny (model prog w) A (assign target (compEnvC scope cl C env) v) Q E' s)) (f8:(∀ i k,its[i]?=some k→∀ I oI C oC D ys nw m₂ h tk (E':Value→Shared→Prop),J i ys nw→((ax,listOf its.toArray k₀)∈nw∧(∀ p∈news,p∈nw))→NsObj oC m₂→B k m₂→Fr h₀ L h m→News h₀ L h ((I,oI)::(C,oC)::(D,lst ys)::nw)→wpAny (model prog w) A (isTrue c (compEnvC scope cl C env) (eval c (compEnvC scope cl C env))) (fun ok s'=>ok=pz i∧∃ h' tk',s'={ s₁ with heap:=h',toks:=tk' }∧Fr h₀ L h' m∧News h₀ L h' ((I,oI)::(C,oC)::(D,lst ys)::nw)) E' { s₁ with heap:=h,toks:=tk })) (f9:(∀ i k ys nw,its[i]?=some k→pz i=false→J i ys nw→J (i + 1) ys nw)) (f10:(∀ i k,its[i]?=some k→pz i=true→∀ I oI C oC D ys nw m₂ h tk (E':Value→Shared→Prop),J i ys nw→((ax,listOf its.toArray k₀)∈nw∧(∀ p∈news,p∈nw))→NsObj oC m₂→B k m₂→Fr h₀ L h m→News h₀ L h ((I,oI)::(C,oC)::(D,lst ys)::nw)→(∀ p∈nw,p.1≠I∧p.1≠C∧p.1≠D)→I≠C→I≠D→C≠D→wpAny (model prog w) A (eval elt (compEnvC scope cl C env)) (fun y s'=>∃ h' tk' nw',s'={ s₁ with heap:=h',toks:=tk' }∧Fr h₀ L h' m∧News h₀ L h' ((I,oI)::(C,oC)::(D,lst ys)::nw')∧(∀ p∈nw',p.1≠I∧p.1≠C∧p.1≠D)∧((ax,listOf its.toArray k₀)∈nw'∧(∀ p∈news,p∈nw'))∧J (i + 1) (ys++[y]) nw') E' { s₁ with heap:=h,toks:=tk })) (f11:∀ D h tk ys nw,J its.length ys nw→Fr h₀ L h m→News h₀ L h ((D,lst ys)::nw)→(∀ p∈nw,p.1≠D)→Q (.ref D) { s₁ with heap:=h,toks:=tk }):OverG prog w A h₀ L m env scope cl target c elt Q B pz J xv s₁:=fun _ k=>k ax its k₀ news f0 f1 f2 f3 f4 f5 f6 f7 f8 f9 f10 f11
theorem comp_overG {target c elt iter:Expr} {scope:Scope} {cl:List (Str×Addr)} {pos:Pos} {Q:Value→Shared→Prop} (B:Value→(Str→Option Value)→Prop) (pz:Nat→Bool) (J:Nat→List Value→Led→Prop) (_F₀:Fr h₀ L s.heap m) (hh:A.handled=none)
  (hgo:∀ I l i v (s:Shared) (Q:Unit→Shared→Prop) (E:Value→Shared→Prop),s.heap.IsListIter I l i→Q () s→wpAny (model prog w) A (letOwnedTupleGo target (.ref I) v) Q E s)
  (h:wpAny (model prog w) A (eval iter env) (OverG prog w A h₀ L m env scope cl target c elt Q B pz J) E s)
  (hclos:closureFor scope env=pure cl) (hcell:∀ y∈scope.names,y.2≠.cell) (hkind:scope.kind=.function)
  (hnames:∀ y∈scope.names,y.2=.local→scope.names.lookup y.1=some .local)
  (hs:∀ x,foldedSetIterable iter env x=pure x) :
  wpAny (model prog w) A (eval (.ListComp elt [⟨target,iter,[c],0⟩] scope pos) env) Q E s:=by
 refine rwl (eval_ListComp ..) ?_
 refine wpAny_comprehension_free (use:=none) rfl hs hclos hkind hnames (wpAny_mono h (fun xv s₁ h₁=>?_) fun _ _ e=>e)
 (refine h₁ _ ?_;clear h₁;intro ax its k₀ news e9_4 F N hm hl hJ0 hlenJ bind test skip elem fin;subst e9_4)
 have hls:s₁.heap.IsList ax its.toArray:=News.isList N hm
 have hlt:ax < s₁.heap.objs.size:=by (refine e_EA (hls) ?_;clear hls;intro _ e _);exact Heap.lt_size e
 refine wpAny_pyIter_list hls ?_
 have up:∀ b o,s₁.heap.get? b=some o→(s₁.heap.push { cls:=.type "list_iterator",data:=.fields #[.ref ax,.int 0 0] }).get? b=some o:=fun b o e=>Heap.get?_push_of_some _ e
 have W:=Walks.list (prog:=prog) (w:=w) hh s₁.heap.objs.size ax (Nat.ne_of_lt hlt) its.toArray
 rw [List.size_toArray] at W
 refine comp_blockG (Rep:=fun k v=>v=k) (B:=B) (ks:=its) (J:=J) (pz:=pz) (Src:=fun nw=>(ax,listOf its.toArray k₀)∈nw∧∀ p∈news,p∈nw) W (fun i v s Q E st q=>hgo _ _ _ v s Q E st.1 q) (fun i v e=>⟨v,by simpa using e,rfl⟩) (by refine rwl (sizeLine_eq ..) ?_;k_extra "ar") (fun i h st=>by (refine e_EA (st.1) ?_;intro o e _);exact ⟨o,e⟩) ?_ hcell hkind
  ?_ ⟨⟨_,Heap.get?_push_size _ rfl,rfl,rfl⟩,hls.push _⟩ (fun b hb=>?_) (F.keeps up) (N.grown up) (Nat.ne_of_lt F.ns.lt) (next_is_new F) (fun p hp=>Nat.ne_of_lt (Heap.lt_size (N p hp).1)) ⟨hm,fun _ h=>h⟩ hJ0 hlenJ test skip elem ?_
 ·exact fun i h h' o nw st e e' k N' hs=>⟨by (refine e_EA (st.1) ?_;intro o' q r);cases e.symm.trans q;exact ⟨_,e',r⟩,News.isList N' hs.1⟩
 ·rintro k hk v C m₁ s Q E' rfl hn nw N' hs hq
  exact bind v hk C m₁ s Q E' hn nw N' hs hq
 ·show b < (s₁.heap.push _).objs.size
  refine rwl (Heap.size_push ..) ?_
  rcases List.mem_cons.mp hb with rfl | hb
  ·exact Nat.lt_succ_self _
  ·refine rwl (List.mem_singleton.mp hb ..) ?_;exact Nat.lt_succ_of_lt hlt
 ·intro D C h tk m' ys nw hJ' F' N' oD hn hC₀ hD₀ hCL hDL hCD offC
  refine ⟨m',hn,fun h'' hs''=>fin D h'' tk ys nw hJ' (F'.change hs'' hCL hC₀) (fun p hp=>?_) oD⟩
  refine ⟨hs''.extBut _ _ ?_ (N' p hp).1,(N' p hp).2⟩
  rcases List.mem_cons.mp hp with rfl | hp
  ·exact Ne.symm hCD
  ·exact offC p hp
end
noncomputable abbrev tripO (a b c:Str) (ta tb tc:Tok) (n:Nat):Obj:={ cls:=.type "tuple",data:=.seq #[.str a ta,.str b tb,.str c tc] n }
theorem tripO_inj {l l':Lk} {ta tb tc ta' tb' tc':Tok} {n n':Nat} (h:tripO l.1 l.2.1 l.2.2 ta tb tc n=tripO l'.1 l'.2.1 l'.2.2 ta' tb' tc' n'):l=l':=by
 have h2:[Value.str l.1 ta,.str l.2.1 tb,.str l.2.2 tc]=[Value.str l'.1 ta',.str l'.2.1 tb',.str l'.2.2 tc']:=congrArg (fun o:Obj=>match o.data with | .seq a _=>a.toList | _=>[]) h
 simp only [List.cons.injEq,Value.str.injEq] at h2
 exact Prod.ext h2.1.1 (Prod.ext h2.2.1.1 h2.2.2.1.1)
noncomputable def TripsIn (news:Led) (tups:List Addr) (links:List Lk):Prop:=F2 (fun T l=>∃ ta tb tc n,(T,tripO l.1 l.2.1 l.2.2 ta tb tc n)∈news) tups links
theorem TripsIn.sub {n1 n2:Led} {tups:List Addr} {ls:List Lk} (h:TripsIn n1 tups ls) (hs:∀ p∈n1,p∈n2):TripsIn n2 tups ls:=h.mono fun _ _ ⟨a,b,c,n,h⟩=>⟨a,b,c,n,hs _ h⟩
noncomputable def selW (cov:Bool) (p:Str) (l:Lk):Bool:=l.2.2 == p || (cov && covS p l.2.2)
theorem ways_take {links:List Lk} {cov:Bool} {p:Str} {i:Nat} {l:Lk} (h:links[i]?=some l):ways (links.take (i + 1)) cov p=ways (links.take i) cov p++(if selW cov p l then [pr l] else []):=by
 have:links.take (i + 1)=links.take i++[l]:=by (refine rwl (List.take_add_one ..) ?_;refine rwl (h ..) ?_);rfl
 unfold ways
 (refine rwl (this ..) ?_;refine rwl (List.filter_append ..) ?_;refine rwl (List.map_append ..) ?_)
 congr 1
 (refine rwl (List.filter_cons ..) ?_;refine rwl (List.filter_nil ..) ?_)
 unfold selW
 split
 ·rfl
 ·rfl
section
variable {prog:Program} {w:World} {p:Program} {loose:List Str} {mean:ExcName→Option Value} {mg mb:Str→Option Value}
 {dp un:Nat} {gd:Option (List Code)} {cn:Str} {cs:Scope} {a:Addr} {ccd:Value} {cl:List (Str×Addr)} {outer:List Env} {A₀:Around} {base h₀:Heap} {L:Addr} {m:Str→Option Value} {s:Shared} {Q E:Value→Shared→Prop} {news:Led}

theorem law_at (lk:Addr) (tups:List Addr) (kl:Nat) (links:List Lk) (cov:Bool) (wh:Str) (tw:Tok) (hwh:wh∈Places) (hpl:∀ l∈links,l.2.2∈Places) (B:Below A₀ base outer h₀) (F:Fr h₀ L s.heap m) (X:(Kp w.params).In h₀) (N:News h₀ L s.heap news) (T:Top p loose mean mg mb h₀) (hk:cs.kind=.function) (hdp:dp + 10 < recursionLimit) (hun:un + 80 < cLine)
 (hlk:(lk,refsO tups kl)∈news) (ht:TripsIn news tups links) (hlen:links.length≤10)
 (ret:∀ h' tk' (q:Addr) ts k nw,Fr h₀ L h' m→News h₀ L h' ((q,refsO ts k)::nw)→(∀ p∈news,p∈nw)→(∀ p∈nw,p.1≠q)→TupsIn nw ts (ways links cov wh)→(∀ t∈ts,∀ p∈news,p.1≠t)→Q (.ref q) { s with heap:=h',toks:=tk' })
 : wpAny (model prog w) (ktrTop dp un gd cn cs L a ccd cl outer) (call (.ref 1182) [.ref lk,.bool cov,.str wh tw]) Q E s:=by
 have hlt:=ht.length
 (refine call_res ?_;k_extra "kC")
 rename_i oW oV hoW hoV
 have hoW':oW.data=.cell (some (.str wh tw)):=hoW
 have hoV':oV.data=.cell (some (.bool cov)):=hoV
 clear hoW hoV
 have lkm:(lk,refsO tups kl)∈(L' + 1 + 1,oW)::(L' + 1,oV)::news:=by k_mem
 iterate 2 k_extra "w"
 refine comp_overG (fun v m₂=>∃ T l ta tb tc n,v=.ref T∧l∈links∧(T,tripO l.1 l.2.1 l.2.2 ta tb tc n)∈news∧m₂ "a"=some (.str l.1 ta)∧m₂ "b"=some (.str l.2.1 tb)∧m₂ "place"=some (.str l.2.2 tc))
  (fun i=>match links[i]? with | some l=>selW cov wh l | none=>false) (fun i ys nw=>(∀ p∈news,p∈nw)∧∃ ts,ys=ts.map Value.ref∧TupsIn nw ts (ways (links.take i) cov wh)∧(∀ t∈ts,∀ p∈news,p.1≠t)) (by k_asm) rfl ?_ ?_ (by rfl) (by decide) (by rfl) (by decide) (by intro _;rfl)
 ·exact fun I l i v s Q E hit hQ=>go_list_tuple hit hQ
 ·k_extra "w"
  refine .mk lk (tups.map Value.ref) kl _ rfl (by k_asm) (by k_asm) (by k_mem) (by refine rwl (List.length_map ..) ?_;k_extra "ar") ⟨fun p hp=>by k_mem,[],rfl,?_,fun _ h=>absurd h List.not_mem_nil⟩ ?_ ?_ ?_ ?_ ?_ ?_
  ·refine rwl (List.take_zero ..) ?_;exact .nil
  ·intro i ys nw e8_3;(refine e_AEA2 (e8_3) ?_;clear e8_3;intro _ ts e9_2 hts _;subst e9_2)
   (refine rwl (List.length_map ..) ?_;refine rwl (hts.length ..) ?_)
   refine Nat.le_trans ?_ (Nat.le_trans (List.length_take_le i links) (Nat.le_refl _))
   unfold ways
   refine rwl (List.length_map ..) ?_
   exact List.length_filter_le _ _
  ·intro v hv C m₁ s Q E' hn nw Nw hs hq
   (refine e_EA (List.mem_map.mp hv) ?_;intro T hT e9_2;subst e9_2)
   (refine e_EAE4 (ht.left hT) ?_;intro l hl ta tb tc n hTm)
   exact bind3 rfl rfl (by decide) (by decide) (by decide) hn Nw (hs.2 _ (by k_mem)) (by decide) (by decide) (by decide) fun h' tk m₂ hn' hm hk=>hq h' tk m₂ hn' ⟨T,l,ta,tb,tc,n,rfl,hl,hTm,hm.1,hm.2.1,hm.2.2⟩ hk
  ·intro i v hv I oI C oC D ys nw m₂ h tk E' hJ hs hoC hB F'' N''
   (refine e_E6A5 (hB) ?_;clear hB;intro T l ta tb tc n e9_6 hl hTm ha hb hp;subst e9_6)
   have hsel:(match links[i]? with | some l=>selW cov wh l | none=>false)=selW cov wh l:=by
    rw [List.getElem?_map] at hv
    (refine e_EA (Option.map_eq_some_iff.mp hv) ?_;intro T' hT' e)
    cases e
    (refine e_EAE4 (ht.nth hT') ?_;intro l' hl' ta' tb' tc' n' hTm')
    (refine rwl (hl' ..) ?_;refine rwl (tripO_inj (news_fun N hTm' hTm) ..) ?_;with_reducible rfl)
   refine rwl (hsel ..) ?_
   unfold selW
   have hl1:=places_short hwh
   have hl2:=places_short (hpl l hl)
   try dsimp only
   have mW:=hs.2 (L' + 1 + 1,oW) (by k_mem)
   have mV:=hs.2 (L' + 1,oV) (by k_mem)
   k_steps
   ·rename_i hz;refine rwl (hz ..) ?_;rfl
   ·k_asm
   ·k_asm
   ·have hz:(l.2.2 == wh)=false:=by assumption
    have hc:cov=true:=by assumption
    refine covers_call wh l.2.2 tw tc (by k_asm) (by k_asm) (by k_asm) (by k_asm) (by k_asm) rfl (by ktr_room) (by ktr_units) hl1 hl2 ?_
    intro h12 tk12 F12 N12
    try dsimp only
    k_steps
    all_goals first
     | k_asm
     | ((have hv:covS wh l.2.2=true:=by assumption);(refine rwl (hz ..) ?_;refine rwl (hc ..) ?_;refine rwl (hv ..) ?_);rfl)
     | ((have hv:covS wh l.2.2=false:=by assumption);(refine rwl (hz ..) ?_;refine rwl (hc ..) ?_;refine rwl (hv ..) ?_);rfl)
   ·have hz:(l.2.2 == wh)=false:=by assumption
    have hc:cov=false:=by assumption
    (refine rwl (hz ..) ?_;refine rwl (hc ..) ?_);rfl
   ·k_asm
   ·k_asm
  ·intro i v ys nw hv hp e8_6;(refine e_AEA2 (e8_6) ?_;clear e8_6;intro hsb ts hys hts hfr)
   rw [List.getElem?_map] at hv
   (refine e_EA (Option.map_eq_some_iff.mp hv) ?_;intro T' hT' e)
   (refine e_EA (ht.nth hT') ?_;intro l' hl' _)
   (try dsimp only at hp)
   rw [hl'] at hp
   refine i_AEA2 hsb ts hys ?_ hfr
   have hp':selW cov wh l'=false:=hp
   (refine rwl (ways_take hl' ..) ?_;refine rwl (if_neg (by rw [hp'];decide) ..) ?_;refine rwl (List.append_nil ..) ?_)
   exact hts
  ·intro i v hv hp I oI C oC D ys nw m₂ h tk E' hJ hs hoC hB F'' N'' off hIC hID hCD
   (refine e_E6A5 (hB) ?_;clear hB;intro T l ta tb tc n e9_6 hl hTm ha hb hpm;subst e9_6)
   (refine e_AEA2 (hJ) ?_;clear hJ;intro hsb ts e9_2 hts hfr;subst e9_2)
   iterate 6 k_extra "w"
   refine kup_newTuple (by k_asm) (by k_asm) ?_ (by exact Nat.le_of_ble_eq_true rfl)
   intro T6 h6 F6 N6 lT
   rw [List.getElem?_map] at hv
   (refine e_EA (Option.map_eq_some_iff.mp hv) ?_;intro T' hT' e)
   cases e
   (refine e_EAE4 (ht.nth hT') ?_;intro l' hl' ta' tb' tc' n' hTm')
   (try dsimp only at hp)
   rw [hl'] at hp
   have el:=tripO_inj (news_fun N hTm' hTm)
   subst el
   have ltw:∀ p∈nw,@LT.lt Nat _ p.1 T6:=fun p hp=>lT p (by k_mem)
   refine i_E3A6EA2 _ _ ((T6,pairO l'.1 l'.2.1 ta tb 0)::nw) rfl (by k_asm) (news_sub N6 ?_) (List.forall_mem_cons.mpr ⟨⟨Nat.ne_of_gt (lT _ (.head _)),Nat.ne_of_gt (lT _ (.tail _ (.head _))),Nat.ne_of_gt (lT _ (.tail _ (.tail _ (.head _))))⟩,off⟩) ⟨.tail _ hs.1,fun p hp=>.tail _ (hs.2 p hp)⟩ (fun p hp=>.tail _ (hsb p hp)) (ts++[T6]) (by refine rwl (List.map_append ..) ?_;rfl) ?_ ?_
   ·exact List.forall_mem_cons.mpr ⟨by k_mem,List.forall_mem_cons.mpr ⟨by k_mem,List.forall_mem_cons.mpr ⟨by k_mem,List.forall_mem_cons.mpr ⟨.head _,fun p hp=>by k_mem⟩⟩⟩⟩
   ·have hp':selW cov wh l'=true:=hp
    (refine rwl (ways_take hl' ..) ?_;refine rwl (if_pos hp' ..) ?_)
    exact (hts.sub fun p hp=>.tail _ hp).append (.one ⟨ta,tb,0,.head _⟩)
   ·intro t ht' p hp'
    rcases List.mem_append.mp ht' with h | h
    ·exact hfr t h p hp'
    ·refine rwl (List.mem_singleton.mp h ..) ?_
     exact Nat.ne_of_lt (ltw p (hs.2 p (by k_mem)))
  ·intro D h tk ys nw hJ F'' N'' hD
   (refine e_AEA2 (hJ) ?_;clear hJ;intro hsb ts e9_2 hts hfr;subst e9_2)
   rw [List.length_map,hlt,List.take_length] at hts
   k_extra "w"
   exact ret _ _ D ts _ nw (by k_asm) (by k_asm) hsb hD hts hfr
end
section
variable {prog:Program} {w:World} {A:Around} {E:Value→Shared→Prop} {s:Shared} {env:Env}
def ForRange (prog:Program) (w:World) (A:Around) (h₀:Heap) (env:Env) (n:Nat) (x:Str) (body:List Stmt) (Q:Flow→Shared→Prop) (E:Value→Shared→Prop) (xv:Value) (s₁:Shared):Prop:=∀ Zp:Prop,(∀ (J:Nat→(Str→Option Value)→Led→Prop) (G:Shared→Prop) (ax:Addr) (t u v:Tok) (m₀:Str→Option Value) (news₀:Led),(Closed G)→(xv=.ref ax)→(IsRange s₁.heap ax 0 (n:Int) 1 t u v)→(G s₁)→(A.handled=none)→(Fr h₀ env.locals s₁.heap m₀)→(News h₀ env.locals s₁.heap news₀)→(J 0 m₀ news₀)→((∀ i tk m₁ news₁ s₂ I oI,G s₂→i < n→J i m₁ news₁→(∀ p∈news₁,p.1≠I)→Fr h₀ env.locals s₂.heap (fun y=>if y=x then some (.int (i:Int) tk) else m₁ y)→News h₀ env.locals s₂.heap ((I,oI)::news₁)→wpAny (model prog w) A (execs body env) (ForStep h₀ env.locals (fun _=>True) J G Q I oI i) E s₂))→(∀ s' m' news',G s'→Fr h₀ env.locals s'.heap m'→News h₀ env.locals s'.heap news'→J n m' news'→Q .next s')→Zp)→Zp
theorem for_range {Q:Flow→Shared→Prop} {x:Str} {px pos:Pos} {iter:Expr} {body:List Stmt} (h₀:Heap) (n:Nat) (hn:n≤1000)
  (h:wpAny (model prog w) A (eval iter env) (ForRange prog w A h₀ env n x body Q E) E s)
  (hx:env.kindOf x=some .local) (hp:(env.scope.kind == .class || (env.scope.kind == .module && env.locals != env.globals))=false)
  (hs:∀ x,foldedSetIterable iter env x=pure x)
  (hE:PassesOwn (model prog w) A env E) :
  wpAny (model prog w) A (exec (.For (.Name x px) iter body [] pos) env) Q E s:=by
 refine for_at h₀ (wpAny_mono h (fun xv s₁ h₁=>?_) fun _ _ e=>e) hx hp hs hE
 (refine h₁ _ ?_;clear h₁;intro J G ax t u v m₀ news₀ hG e9_9 hr hg hh F N hJ step fin;subst e9_9)
 have hsz:Builtin.Range.rangeSize 0 (n:Int) 1=(n:Int):=by
  refine rwl (rangeSize_one ..) ?_;split<;>omega
 refine wpAny_pyIter_range hr (small_one (by decide) (by decide) (by omega) (by omega)) ?_
 refine rwl (hsz ..) ?_
 have up:∀ b o,s₁.heap.get? b=some o→(s₁.heap.push { cls:=.type "range_iterator",data:=.fields #[rawInt 0,rawInt (n:Int),rawInt 1] }).get? b=some o:=fun b o e=>Heap.get?_push_of_some _ e
 have W:=Walks.range (prog:=prog) (w:=w) hh s₁.heap.objs.size 0 1 n
 refine fun _ kM=>kM J G s₁.heap.objs.size _ n _ _ (fun _=>True) m₀ news₀ hG rfl (hG _ _ s₁.toks hg) W (fun i h st=>⟨_,st⟩) ?_ (Nat.ne_of_lt F.ns.lt) (next_is_new F) ?_ (F.keeps up) (N.grown up) (fun p hp=>Nat.ne_of_lt (Heap.lt_size (N p hp).1)) trivial hJ ?_ fin
 ·intro i h h' o nw st e e' hk Nw hS
  have:o=_:=Option.some.inj (e.symm.trans st)
  subst this
  exact e'
 ·show Heap.get? _ _=some _
  refine rwl (Heap.get?_push_size _ rfl ..) ?_
  simp
 ·intro i v m₁ news₁ s₂ oI c hi hP hJ' hS off F' N'
  (refine e_E (hP) ?_;clear hP;intro t e9_1;subst e9_1)
  have e:(0 + (i:Int) * 1)=(i:Int):=by k_extra "ar"
  rw [e] at F'
  exact step i t m₁ news₁ s₂ _ oI c hi hJ' off F' N'
end
theorem strs_snoc {vs:List Value} {ws:List Str} {r:Str} {t:Tok} (h:StrsAre vs ws):StrsAre (vs++[.str r t]) (ws++[r]):=by
 induction h with
 | nil=>exact .cons _ _ .nil
 | cons y t' _ ih=>exact .cons _ _ ih
theorem pairO_inj {l l':Str×Str} {ta tb ta' tb':Tok} {n n':Nat} (h:pairO l.1 l.2 ta tb n=pairO l'.1 l'.2 ta' tb' n'):l=l':=by
 have h2:[Value.str l.1 ta,.str l.2 tb]=[Value.str l'.1 ta',.str l'.2 tb']:=congrArg (fun o:Obj=>match o.data with | .seq a _=>a.toList | _=>[]) h
 simp only [List.cons.injEq,Value.str.injEq] at h2
 exact Prod.ext h2.1.1 h2.2.1.1
theorem strs_len {vs:List Value} {ws:List Str} (h:StrsAre vs ws):vs.length=ws.length:=by
 induction h with
 | nil=>rfl
 | cons y t' _ ih=>(refine rwl (List.length_cons ..) ?_;refine rwl (List.length_cons ..) ?_;refine rwl (ih ..) ?_;with_reducible rfl)
theorem strs_nth {vs:List Value} {ws:List Str} (h:StrsAre vs ws):∀ {i:Nat} {v:Value},vs[i]?=some v→∃ y t,v=.str y t∧ws[i]?=some y:=by
 induction h with
 | nil=>intro i v h;simp at h
 | cons y t' _ ih =>
  intro i v h
  cases i with
  | zero=>simp at h;exact i_E2A y t' h.symm rfl
  | succ i=>simp at h;exact ih h
theorem addNew_snoc {r:Str}:∀ {rs near:List Str},addNew near (rs++[r])=if (addNew near rs).any (· == r) then addNew near rs else addNew near rs++[r]
 | [],near=>by simp [addNew_n,addNew_c]
 | q::rs,near=>by (refine rwl (List.cons_append ..) ?_;(first | rewrite [addNew_c] | rewrite [addNew_n]);refine rwl (addNew_snoc ..) ?_;(first | rw [addNew_c] | rw [addNew_n]))
theorem addNew_len {rs:List Str}:∀ {near:List Str},(addNew near rs).length≤near.length + rs.length:=by
 induction rs with
 | nil=>exact fun {near}=>Nat.le_refl _
 | cons r rs ih =>
  intro near
  ((first | rewrite [addNew_c] | rewrite [addNew_n]);refine rwl (List.length_cons ..) ?_)
  refine Nat.le_trans ih ?_
  split
  ·exact Nat.le_succ _
  ·(refine rwl (List.length_append ..) ?_;exact Nat.le_of_eq ((Nat.add_assoc ..).trans (congrArg _ (Nat.add_comm ..))))
theorem nears_len {ws:List (Str×Str)} {a:Str}:∀ {k:Nat},(nears ws a k).length≤1 + k * ws.length
 | 0=>by simp [nears_n]
 | k + 1=>by
  (first | rewrite [nears_c] | rewrite [nears_n]);rw [nearStep]
  refine Nat.le_trans addNew_len ?_
  (refine rwl (List.length_map ..) ?_;refine rwl (Nat.succ_mul ..) ?_)
  have:=nears_len (ws:=ws) (a:=a) (k:=k)
  have h2:=List.length_filter_le (fun l:Str×Str=>(nears ws a k).any (· == l.1)) ws
  k_extra "ar"
@[reducible] noncomputable def nf2 (a b:Str) (o1 o2:Option Value) (m₀:Str→Option Value):Str→Option Value:=fun y=>if y=a then o1 else if y=b then o2 else m₀ y
theorem nf2_eta {a b:Str} {m₀:Str→Option Value}:m₀=nf2 a b (m₀ a) (m₀ b) m₀:=by
 funext y
 unfold nf2
 by_cases e:y=a
 ·(refine rwl (if_pos e ..) ?_;refine rwl (e ..) ?_;with_reducible rfl)
 ·refine rwl (if_neg e ..) ?_
  by_cases e2:y=b
  ·(refine rwl (if_pos e2 ..) ?_;refine rwl (e2 ..) ?_;with_reducible rfl)
  ·(refine rwl (if_neg e2 ..) ?_;with_reducible rfl)
theorem nf2_put {a b:Str} {o1 o2 p1 p2:Option Value} {m₀:Str→Option Value} (hab:a≠b):(fun y=>if y=b then p2 else if y=a then p1 else if y=a then o1 else if y=b then o2 else m₀ y)=nf2 a b p1 p2 m₀:=by
 funext y
 unfold nf2
 by_cases e:y=a
 ·(refine rwl (if_pos e ..) ?_;refine rwl (if_pos e ..) ?_;refine rwl (if_neg (fun h=>hab (e.symm.trans h)) ..) ?_;with_reducible rfl)
 ·(refine rwl (if_neg e ..) ?_;refine rwl (if_neg e ..) ?_;refine rwl (if_neg e ..) ?_)
  by_cases e2:y=b
  ·(refine rwl (if_pos e2 ..) ?_;refine rwl (if_pos e2 ..) ?_;with_reducible rfl)
  ·(refine rwl (if_neg e2 ..) ?_;refine rwl (if_neg e2 ..) ?_;refine rwl (if_neg e2 ..) ?_;with_reducible rfl)
section
variable {prog:Program} {w:World} {p:Program} {loose:List Str} {mean:ExcName→Option Value} {mg mb:Str→Option Value}
 {dp un:Nat} {gd:Option (List Code)} {cn:Str} {cs:Scope} {a:Addr} {ccd:Value} {cl:List (Str×Addr)} {outer:List Env} {A₀:Around} {base h₀:Heap} {L:Addr} {m:Str→Option Value} {s:Shared} {Q E:Value→Shared→Prop} {news:Led}

theorem law_reached (wa:Addr) (ts:List Addr) (kw:Nat) (ws:List (Str×Str)) (a1 a2:Str) (s1 s2 st:Tok) (steps:Nat) (hst:steps≤10) (ha1:a1.length≤100) (B:Below A₀ base outer h₀) (F:Fr h₀ L s.heap m) (X:(Kp w.params).In h₀) (N:News h₀ L s.heap news) (T:Top p loose mean mg mb h₀) (hk:cs.kind=.function) (hdp:dp + 10 < recursionLimit) (hun:un + 80 < cLine)
 (hwa:(wa,refsO ts kw)∈news) (ht:TupsIn news ts ws) (hlen:ws.length≤10)
 (ret:∀ h' tk',Fr h₀ L h' m→News h₀ L h' news→Q (.bool ((nears ws a1 steps).any (· == a2))) { s with heap:=h',toks:=tk' })
 : wpAny (model prog w) (ktrTop dp un gd cn cs L a ccd cl outer) (call (.ref 1187) [.ref wa,.str a1 s1,.str a2 s2,.int (steps:Int) st]) Q E s:=by
 have hlt:=ht.length
 (refine call_res ?_;k_extra "kC")
 rename_i oN hoN
 iterate 7 k_extra "w"
 rename_i nr h6 F6 N6 l6
 refine store_cell (by k_asm) (by k_asm) rfl rfl rfl (.tail _ (.head _)) hoN ?_
 intro h7 oN7 hoN7 F7 N7
 have lnr:∀ p∈news,p.1≠nr:=fun p hp=>Nat.ne_of_lt (allLt_mem l6.2 p hp)
 have lcN:L' + 1≠nr:=Nat.ne_of_lt l6.1
 have lc1:∀ p∈news,p.1≠L' + 1:=fun p hp=>Nat.ne_of_lt (Nat.lt_succ_of_lt (l1 p hp))
 obtain ⟨news7,N8,hsb7,hnr7⟩:∃ nw,News g' L' h7 nw∧(∀ p∈(L' + 1,oN7)::news,p∈nw)∧(nr,listOf #[.str a1 s1] 0)∈nw :=
  ⟨_,N7,List.forall_mem_cons.mpr ⟨mem_upd_self,fun p hp=>mem_upd (.tail _ (.tail _ hp)) (lc1 p hp)⟩,mem_upd (.head _) (Ne.symm lcN)⟩
 clear N7 N6
 k_extra "w"
 refine for_range g' steps (by k_extra "ar") ?_ rfl rfl (by intro _;rfl) (by passes_own)
 iterate 6 k_extra "w"
 refine call_range_1 ?_
 have hb0:∀ nw:Led,(∀ p∈(L' + 1,oN7)::news,p∈nw)→(L' + 1,oN7)∈nw∧(wa,refsO ts kw)∈nw:=fun nw h=>⟨h _ (.head _),h _ (.tail _ hwa)⟩
 have hneb:∀ p∈(L' + 1,oN7)::news,p.1≠nr:=List.forall_mem_cons.mpr ⟨lcN,lnr⟩
 refine fun _ kM=>kM (fun i m nw=>(∃ o1 o2,m=nf2 "_" "role" o1 o2 _)∧(∀ p∈(L' + 1,oN7)::news,p∈nw)∧∃ vs k,(nr,listOf vs.toArray k)∈nw∧StrsAre vs (nears ws a1 i)) (fun s'=>Only s s') _ _ _ _ _ news7 (Only.closed s) rfl (IsRange.new _ _ _ _ _ _ _) ⟨_,_,rfl⟩ rfl (F7.push _) (News.pushKeep N8 _) ⟨⟨_,_,nf2_eta⟩,hsb7,[.str a1 s1],0,hnr7,.cons _ _ .nil⟩ ?_ ?_
 ·intro i tk m1 nw s₂ I oI e8_7 hi e8_9 off F8 N8;(refine e_E2 (e8_7) ?_;clear e8_7;intro h8 tk8 e9_2;subst e9_2);(refine e_A2E2A (e8_9) ?_;clear e8_9;intro e9_0 hsb vs k hnr hvs;obtain ⟨o1,o2,rfl⟩:=e9_0)
  (refine e_A (hb0 nw hsb) ?_;intro hc8 hwa8)
  try dsimp only
  k_extra "w"
  refine for_list_x g' ?_ rfl rfl (by intro _;rfl) (by passes_own)
  refine comp_overG (fun v m₂=>∃ T l ta tb n,v=.ref T∧l∈ws∧(T,pairO l.1 l.2 ta tb n)∈news∧m₂ "a"=some (.str l.1 ta)∧m₂ "b"=some (.str l.2 tb))
   (fun j=>match ws[j]? with | some l=>(nears ws a1 i).any (· == l.1) | none=>false) (fun j ys nw'=>nw'=(I,oI)::nw∧StrsAre ys (((ws.take j).filter fun l=>(nears ws a1 i).any (· == l.1)).map (·.2))) (by k_asm) rfl ?_ ?_ (by rfl) (by decide) (by rfl) (by decide) (by intro _;rfl)
  ·exact fun I l i v s Q E hit hQ=>go_list_tuple hit hQ
  ·k_extra "w"
   refine .mk wa (ts.map Value.ref) kw _ rfl (by k_asm) (by k_asm) (by k_mem) (by refine rwl (List.length_map ..) ?_;k_extra "ar") ⟨rfl,.nil⟩ ?_ ?_ ?_ ?_ ?_ ?_
   ·intro j ys nw' e8_3;(refine e_A (e8_3) ?_;clear e8_3;intro _ hys)
    (refine rwl (strs_len hys ..) ?_;refine rwl (List.length_map ..) ?_)
    exact Nat.le_trans (List.length_filter_le _ _) (List.length_take_le _ _)
   ·intro v hv C m₁ s Q E' hn nw' Nw hs hq
    (refine e_EA (List.mem_map.mp hv) ?_;intro T hT e9_2;subst e9_2)
    (refine e_EAE3 (ht.left hT) ?_;intro l hl ta tb n hTm)
    exact bind2 rfl rfl (by decide) (by decide) hn Nw (hs.2 _ (.tail _ (hsb _ (.tail _ hTm)))) (by decide) fun h' tk m₂ hn' hm hk=>hq h' tk m₂ hn' ⟨T,l,ta,tb,n,rfl,hl,hTm,hm.1,hm.2⟩ hk
   ·intro j v hv I' oI' C oC D ys nw' m₂ h tk E' hJ hs hoC hB F'' N''
    (refine e_E5A4 (hB) ?_;clear hB;intro T l ta tb n e9_5 hl hTm ha hb;subst e9_5)
    (refine e_A (hJ) ?_;clear hJ;intro e9_0 hys;subst e9_0)
    have hc9:(L' + 1,oN7)∈(I,oI)::nw:=.tail _ hc8
    have hnr9:(nr,listOf vs.toArray k)∈(I,oI)::nw:=.tail _ hnr
    iterate 3 k_extra "w"
    refine in_list_strs (News.isList N'' (by k_mem)) hvs ?_
    have hsel:(match ws[j]? with | some l=>(nears ws a1 i).any (· == l.1) | none=>false)=(nears ws a1 i).any (· == l.1):=by
     rw [List.getElem?_map] at hv
     (refine e_EA (Option.map_eq_some_iff.mp hv) ?_;intro T' hT' e)
     cases e
     (refine e_EAE3 (ht.nth hT') ?_;intro l' hl' ta' tb' n' hTm')
     (refine rwl (hl' ..) ?_;refine rwl (pairO_inj (news_fun N hTm' hTm) ..) ?_;with_reducible rfl)
    refine rwl (hsel ..) ?_
    k_steps
    ·k_asm
    ·k_asm
   ·intro j v ys nw' hv hp e8_6;(refine e_A (e8_6) ?_;clear e8_6;intro hnw hys)
    rw [List.getElem?_map] at hv
    (refine e_EA (Option.map_eq_some_iff.mp hv) ?_;intro T' hT' e)
    (refine e_EA (ht.nth hT') ?_;intro l' hl' _)
    rw [hl'] at hp
    have hp':(nears ws a1 i).any (· == l'.1)=false:=hp
    have htk:ws.take (j + 1)=ws.take j++[l']:=by (refine rwl (List.take_add_one ..) ?_;refine rwl (hl' ..) ?_);rfl
    refine ⟨hnw,?_⟩
    (refine rwl (htk ..) ?_;refine rwl (List.filter_append ..) ?_;refine rwl (show [l'].filter (fun l=>(nears ws a1 i).any (· == l.1))=[] by rw [List.filter_cons,if_neg (by rw [hp'];decide),List.filter_nil]) ?_;refine rwl (List.append_nil ..) ?_)
    exact hys
   ·intro j v hv hp I' oI' C oC D ys nw' m₂ h tk E' hJ hs hoC hB F'' N'' off' hIC hID hCD
    (refine e_E5A4 (hB) ?_;clear hB;intro T l ta tb n e9_5 hl hTm ha hb;subst e9_5)
    (refine e_A (hJ) ?_;clear hJ;intro e9_0 hys;subst e9_0)
    rw [List.getElem?_map] at hv
    (refine e_EA (Option.map_eq_some_iff.mp hv) ?_;intro T' hT' e)
    cases e
    (refine e_EAE3 (ht.nth hT') ?_;intro l' hl' ta' tb' n' hTm')
    rw [hl'] at hp
    have hp':(nears ws a1 i).any (· == l'.1)=true:=hp
    have el:=pairO_inj (news_fun N hTm' hTm)
    subst el
    have htk:ws.take (j + 1)=ws.take j++[l']:=by (refine rwl (List.take_add_one ..) ?_;refine rwl (hl' ..) ?_);rfl
    k_extra "w"
    refine i_E3A6 _ _ _ rfl (by k_asm) (by k_asm) off' hs rfl ?_
    have hf:[l'].filter (fun l=>(nears ws a1 i).any (· == l.1))=[l']:=by (refine rwl (List.filter_cons ..) ?_;refine rwl (if_pos hp' ..) ?_;refine rwl (List.filter_nil ..) ?_;with_reducible rfl)
    (refine rwl (htk ..) ?_;refine rwl (List.filter_append ..) ?_;refine rwl (hf ..) ?_;refine rwl (List.map_append ..) ?_;refine rwl (List.map_singleton ..) ?_)
    exact strs_snoc hys
   ·intro D h tk ys nw' hJ F'' N'' hD
    (refine e_A (hJ) ?_;clear hJ;intro e9_0 hys;subst e9_0)
    rw [List.length_map,hlt,List.take_length] at hys
    refine fun _ kM=>kM (fun j nw2=>(∀ p∈(I,oI)::(L' + 1,oN7)::news,p∈nw2)∧∃ vs2 k2,(nr,listOf vs2.toArray k2)∈nw2∧StrsAre vs2 (addNew (nears ws a1 i) (((ws.filter fun l=>(nears ws a1 i).any (· == l.1)).map (·.2)).take j))) (fun s'=>Only s s') D ys ys.length _ _ (Only.closed s) rfl ⟨_,_,rfl⟩ rfl F'' N'' (show (D,lst ys)∈(D,lst ys)::(I,oI)::nw from .head _) ⟨List.forall_mem_cons.mpr ⟨.tail _ (.head _),fun p hp=>.tail _ (.tail _ (hsb p hp))⟩,vs,k,.tail _ (.tail _ hnr),hvs⟩ ?_ ?_
    ·intro j v nw2 s₃ I2 oI2 e8_6 hv e8_8 hS2 off2 F9 N9;(refine e_E2 (e8_6) ?_;clear e8_6;intro h9 tk9 e9_2;subst e9_2);(refine e_AE2A (e8_8) ?_;clear e8_8;intro hsb2 vs2 k2 hnr2 hvs2)
     (refine e_E2A (strs_nth hys hv) ?_;intro r tr e9_2 hr;subst e9_2)
     have hc2:=hsb2 (L' + 1,oN7) (.tail _ (.head _))
     have htk:((ws.filter fun l=>(nears ws a1 i).any (· == l.1)).map (·.2)).take (j + 1)=((ws.filter fun l=>(nears ws a1 i).any (· == l.1)).map (·.2)).take j++[r]:=by (refine rwl (List.take_add_one ..) ?_;refine rwl (hr ..) ?_);rfl
     iterate 5 k_extra "w"
     refine notin_list_strs (News.isList N9 (by k_mem)) hvs2 ?_
     have e1:I2≠nr:=Ne.symm (off2 _ hnr2)
     have e2:D≠nr:=Ne.symm (hD _ (.tail _ hnr))
     have e3:I≠nr:=Ne.symm (off _ hnr)
     cases hany:(addNew (nears ws a1 i) (((ws.filter fun l=>(nears ws a1 i).any (· == l.1)).map (·.2)).take j)).any (· == r) with
     | true =>
      iterate 4 k_extra "w"
      refine i_EA6E2A nw2 ⟨_,_,rfl⟩ (by k_asm) (by k_asm) off2 hS2 hsb2 vs2 k2 hnr2 ?_
      (refine rwl (htk ..) ?_;refine rwl (addNew_snoc ..) ?_;refine rwl (hany ..) ?_)
      exact hvs2
     | false =>
      iterate 11 k_extra "w"
      refine append_upd (its:=vs2.toArray) (n:=k2) (by k_asm) (by k_asm) (by k_mem) ?_ ?_
      ·intro h10 F10 N10
       iterate 2 k_extra "w"
       refine i_EA6E2A (upd nr (listOf (vs2.toArray.push (.str r tr)) (k2 + 1)) nw2) ⟨_,_,rfl⟩ (by k_asm) (news_sub (by k_asm) (List.forall_mem_cons.mpr ⟨mem_upd (.head _) e1,sub_upd (sub_skip sub_rfl)⟩)) ?_ (mem_upd hS2 e2) ?_ (vs2++[.str r tr]) (k2 + 1) ?_ ?_
       ·intro p hp
        rcases of_mem_upd hp with rfl | ⟨hp,_⟩
        ·exact Ne.symm e1
        ·exact off2 p hp
       ·exact List.forall_mem_cons.mpr ⟨mem_upd (hsb2 _ (.head _)) e3,fun p hp=>mem_upd (hsb2 p (.tail _ hp)) (hneb p hp)⟩
       ·refine rwr (List.push_toArray ..) ?_
        exact mem_upd_self
       ·(refine rwl (htk ..) ?_;refine rwl (addNew_snoc ..) ?_;refine rwl (hany ..) ?_)
        exact strs_snoc hvs2
      ·(refine rwl (List.size_toArray ..) ?_;refine rwl (strs_len hvs2 ..) ?_;refine rwl (sizeLine_eq ..) ?_)
       refine Nat.le_trans addNew_len ?_
       have z1:=nears_len (ws:=ws) (a:=a1) (k:=i)
       have z2:=List.length_take_le' j ((ws.filter fun l=>(nears ws a1 i).any (· == l.1)).map (·.2))
       have z3:((ws.filter fun l=>(nears ws a1 i).any (· == l.1)).map (·.2)).length≤10:=by
        refine rwl (List.length_map ..) ?_
        exact Nat.le_trans (List.length_filter_le _ _) hlen
       have z4:i * ws.length≤10 * 10:=Nat.mul_le_mul (by k_extra "ar") hlen
       exact ar_le (Nat.add_le_add (Nat.le_trans z1 (Nat.add_le_add_left z4 1)) (Nat.le_trans z2 z3)) rfl
    ·intro s' o nw2 e8_3 F9 N9 e8_6;(refine e_E2 (e8_3) ?_;clear e8_3;intro h9 tk9 e9_2;subst e9_2);(refine e_AE2A (e8_6) ?_;clear e8_6;intro hsb2 vs2 k2 hnr2 hvs2)
     rw [strs_len hys,List.take_length] at hvs2
     k_extra "w"
     refine i_E2A7E2A _ (nw2.filter fun p=>p.1 != I) ⟨_,_,rfl⟩ (by k_asm) (news_sub (by k_asm) ?_) (fun p hp=>by simpa using (List.mem_filter.mp hp).2) trivial ⟨_,_,nf2_put (by decide)⟩ ?_ vs2 k2 ?_ hvs2
     ·exact List.forall_mem_cons.mpr ⟨hsb2 _ (.head _),fun p hp=>(List.mem_filter.mp hp).1⟩
     ·exact fun p hp=>List.mem_filter.mpr ⟨hsb2 p (.tail _ hp),by simpa using off p (hsb p hp)⟩
     ·exact List.mem_filter.mpr ⟨hnr2,by simpa using off _ hnr⟩
 ·intro s' m' nw e8_3 F8 N8 e8_6;(refine e_E2 (e8_3) ?_;clear e8_3;intro h8 tk8 e9_2;subst e9_2);(refine e_A2E2A (e8_6) ?_;clear e8_6;intro e9_0 hsb vs k hnr hvs;obtain ⟨o1,o2,rfl⟩:=e9_0)
  (refine e_A (hb0 nw hsb) ?_;intro hc8 hwa8)
  iterate 5 k_extra "w"
  refine in_list_strs (News.isList N8 (by k_mem)) hvs ?_
  k_extra "w"
  exact ret _ _ (by k_asm) (news_sub (by k_asm) fun p hp=>hsb p (.tail _ hp))
end
section
variable {prog:Program} {w:World} {A₀ A:Around} {s:Shared} {base h₀ g₀:Heap} {outer:List Env} {L:Addr} {m:Str→Option Value} {env:Env} {news:Led} {K:Frag} {p:Program} {loose:List Str} {mean:ExcName→Option Value} {mg mb:Str→Option Value}
  {R:Result→Shared→Prop} {name qual:Str} {params:Arguments} {body:List Stmt} {scope:Scope} {dV kV doc pm cdv ct oc:Value} {an od:Option Addr} {osl:Array (Option Value)} {f:Addr} {args:Args} {binds:List (Str×Value)}
theorem code_tryX (B:Below A₀ base [] h₀) (F:Fr h₀ L s.heap m) (X₀:K.In h₀) (N:News h₀ L s.heap news) (T:Top p loose mean mg mb h₀) (hA:A.frames=some [env]) (hf:env.frame=some L) (hke:env.scope.kind=.function)
  (ho:K.lookup f=some ⟨oc,od,.func (fnOf name qual params body scope dV kV doc pm an cdv ct),osl⟩) (hcd:codeIn K cdv qual=true) (hroom:A.depth < recursionLimit)
  (hbind:BindsTo s (fnOf name qual params body scope dV kV doc pm an cdv ct) args binds) (hloc:∀ y∈binds,scope.names.lookup y.1=some .local)
  (h:∀ g L' h₁,Fr h₀ L g m→Fr g L' h₁ (fun y=>binds.reverse.lookup y)→News g L' h₁ news→Below A base [env] g→K.In g→Top p loose mean mg mb g→KtsDicts ([env].filterMap (·.frame)) g →
   wpAny (model prog w) (A.deeper (envOf qual scope L' f cdv)) (execs body (envOf qual scope L' f cdv))
    (fun fl s'=>LeaveS0 ([env].filterMap (·.frame)) h₀ L m g R (match fl with | .ret v=>v | _=>.none) s')
    (fun e s'=>wpAny (model prog w) (A.deeper (envOf qual scope L' f cdv)) (leaving (envOf qual scope L' f cdv) e) (fun _ s''=>R (.error e) s'') (fun e' s''=>R (.error e') s'') s')
    { s with heap:=h₁,toks:=s.toks + binds.length })
  (hco:scope.isCoroutine=false) (hgen:scope.isGenerator=false) (hk:scope.kind=.function)
  (hcell:∀ x∈scope.names,x.2≠.cell):codeAny (model prog w) A (.call (.ref f) args) R s:=by
 have X:=X₀.keeps F.keep
 have hmem:∀ b,b∈[env].filterMap (·.frame)→b=L:=fun b hb=>by
  rw [List.filterMap_cons_some (b:=L) (f:=fun x:Env=>x.frame) hf] at hb
  simpa using hb
 refine codeAny_call_def (fd:=fnOf name qual params body scope dV kV doc pm an cdv ct) (body:=body) (binds:=binds) hroom (X _ _ ho) rfl (T.nolimit.keeps F.keep) (codeRec_of X hcd) rfl hbind hcell hloc (fun h₁ hns hk₁=>?_) hco hgen hk
 (refine e_A3 (groundX (R:=R) B F N hA hf hke) ?_;intro FG BG st _)
 (refine e_E3A3 (FG.ns) ?_;intro oL es ep hLg hLd hLk hLf)
 refine wpAny_mono (h _ s.heap.objs.size h₁ FG ⟨hns,fun b o e=>hk₁ b o (of_hideAll _ e),Nat.le_of_eq (hideAll_size _ _)⟩
  (fun p hp=>⟨hk₁ _ _ (N p hp).1,Nat.ne_of_lt (Heap.lt_size (N p hp).1),hideAll_none _ (List.mem_map_of_mem hp)⟩) BG (X₀.keeps st) (T.keeps st) (fun b hb=>by
   refine rwl (hmem b hb ..) ?_
   exact i_E3A oL es ep hLg hLd)) (fun fl s' hl=>?_) fun _ _ y=>y
 (refine e_E4A3 (hl) ?_;clear hl;intro g' L' m' news' T' F' N' k)
 have nL₀:h₀.get? L=none:=kts_self F
 (refine e_E (T'.up hLg) ?_;intro sl hs)
 refine k ⟨⟨_,es,ep,F'.keep _ _ hs,hLd,hLk,hLf⟩,fun b o e=>F'.keep b o (T'.other b o (st b o e) (fun q=>by
  rw [hmem b q,nL₀] at e
  cases e)),F.above⟩ fun p hp=>⟨(N' p hp).1,fun q=>?_,?_⟩
 ·have:=(N' p hp).2.2;rw [q,hs] at this;cases this
 ·cases q:h₀.get? p.1 with
  | none=>rfl
  | some o =>
   (refine e_E (T'.up (st _ _ q)) ?_;intro sl' hs')
   have:=(N' p hp).2.2
   rw [hs'] at this
   cases this
end
section
variable {prog:Program} {w:World} {p:Program} {loose:List Str} {mean:ExcName→Option Value} {mg mb:Str→Option Value}
 {dp un:Nat} {gd:Option (List Code)} {cn:Str} {cs:Scope} {a:Addr} {ccd:Value} {cl:List (Str×Addr)} {outer:List Env} {A₀:Around} {base h₀:Heap} {L:Addr} {m:Str→Option Value} {s:Shared} {Q E:Value→Shared→Prop} {news:Led}

theorem law_refused {D:DmA} {x:Addr} (hxe:D.x=x) (kd:Nat) (tk0:Tok) (hkd:kd < 5)
 (B:Below A₀ base [] h₀) (F:Fr h₀ L s.heap m) (X:(Kp w.params).In h₀) (N:News h₀ L s.heap news) (T:Top p loose mean mg mb h₀) (hk:cs.kind=.function) (XB:(Kp w.params).In base) (TB:Top p loose mean mg mb base) (hdp:dp + 30 < recursionLimit) (hun:un + 240 < cLine) (M:DmMem prog w news D)
 (ret:∀ h' tk',Fr h₀ L h' m→News h₀ L h' news→Q (.bool true) { s with heap:=h',toks:=tk' })
 : wpAny (model prog w) (ktrTop dp un gd cn cs L a ccd cl []) (call (.ref 1201) [.ref x,.int (kd:Int) tk0]) Q E s:=by
 subst hxe
 have hx:=M.x
 have hd:=M.d
 have hkd':kd=0∨kd=1∨kd=2∨kd=3∨kd=4:=by k_extra "ar"
 rcases hkd' with rfl | rfl | rfl | rfl | rfl
 ·k_extra "kTE"
  iterate 26 k_extra "w"
  refine dm_has2 (D:=D) rfl _ _ _ _ _ _ _ _ (by k_asm) (by k_asm) (by k_asm) (by k_asm) (by k_asm) rfl (by ktr_room) (by ktr_units) M ?_
  intro g5 h5 tk5 e5 F5 R5 U5
  iterate 5 k_extra "w"
  exact ret _ _ (by k_asm) (by k_asm)
 ·k_extra "kTE"
  iterate 34 k_extra "w"
  refine dm_add2 (D:=D) rfl _ _ _ _ _ _ _ _ (by k_asm) (by k_asm) (by k_asm) (by k_asm) (by k_asm) rfl (by ktr_room) (by ktr_units) M ?_
  intro g5 h5 tk5 e5 F5 R5 U5
  iterate 5 k_extra "w"
  exact ret _ _ (by k_asm) (by k_asm)
 ·k_extra "kTE"
  iterate 42 k_extra "w"
  refine dm_del2 (D:=D) rfl _ _ _ _ _ _ _ _ (by k_asm) (by k_asm) (by k_asm) (by k_asm) (by k_asm) rfl (by ktr_room) (by ktr_units) M ?_
  intro g5 h5 tk5 e5 F5 R5 U5
  iterate 5 k_extra "w"
  exact ret _ _ (by k_asm) (by k_asm)
 ·k_extra "kTE"
  iterate 48 k_extra "w"
  refine dm_roles2 (D:=D) rfl _ _ _ _ _ _ (by k_asm) (by k_asm) (by k_asm) (by k_asm) (by k_asm) rfl (by ktr_room) (by ktr_units) M ?_
  intro g5 h5 tk5 e5 F5 R5 U5
  iterate 5 k_extra "w"
  exact ret _ _ (by k_asm) (by k_asm)
 ·k_extra "kTE"
  iterate 48 k_extra "w"
  refine dm_users2 (D:=D) rfl _ _ _ _ _ _ (by k_asm) (by k_asm) (by k_asm) (by k_asm) (by k_asm) rfl (by ktr_room) (by ktr_units) M ?_
  intro g5 h5 tk5 e5 F5 R5 U5
  iterate 5 k_extra "w"
  exact ret _ _ (by k_asm) (by k_asm)
end
theorem DmRel.aff {prog:Program} {w:World} {news:Led} {D:DmA} {links:List Lk} {cov:Bool} (Rl:DmRel D links cov) {l:Lk} (hl:l∈links) {q:Str×RmA} (hq:q∈D.rms) (ha:q.1∈affL D cov l.2.2):(l.1,l.2.1)∈q.2.links:=by
 (refine rwl (propext (Rl.rms q hq ..)) ?_;refine rwl (propext (mem_ways ..)) ?_)
 refine ⟨l.2.2,hl,?_⟩
 exact (mem_affL (List.mem_map_of_mem (f:=fun q:Str×RmA=>q.1) hq)).mp ha
theorem DmRel.same {D D':DmA} {links:List Lk} {cov:Bool} (Rl:DmRel D links cov) (K:DmKeep D D') (h:∀ p,lsOf D'.pls p=lsOf D.pls p):DmRel D' links cov:=⟨K.fn.trans Rl.fn,fun p=>(h p).trans (Rl.ls p),K.rms▸Rl.rms,Rl.lnk,Rl.nms,Rl.few⟩
theorem DmRel.at_iff {D:DmA} {links:List Lk} {cov:Bool} (Rl:DmRel D links cov) (l:Lk):(l.1,l.2.1)∈lsOf D.pls l.2.2↔l∈links:=by (refine rwl (Rl.ls ..) ?_;refine rwl (propext (mem_atP ..)) ?_;with_reducible rfl)
theorem DmRel.ls_len {D:DmA} {links:List Lk} {cov:Bool} (Rl:DmRel D links cov) (p:Str):(lsOf D.pls p).length≤10:=by
 refine rwl (Rl.ls ..) ?_
 exact Nat.le_trans (atP_len Rl.few p) (by decide)
section
variable {prog:Program} {w:World} {p:Program} {loose:List Str} {mean:ExcName→Option Value} {mg mb:Str→Option Value}
 {dp un:Nat} {gd:Option (List Code)} {cn:Str} {cs:Scope} {a:Addr} {ccd:Value} {cl:List (Str×Addr)} {outer:List Env} {A₀:Around} {base h₀:Heap} {L:Addr} {m:Str→Option Value} {s:Shared} {Q E:Value→Shared→Prop} {news:Led}

theorem law_taken {D:DmA} {x:Addr} (hxe:D.x=x) {links:List Lk} (cov:Bool) (Rl:DmRel D links cov) (l:Lk) (lT:Addr) (ta tb tc:Tok) (nt:Nat) (hn1:l.1∈Names) (hn2:l.2.1∈Names) (hdm:l.2.2∈Places)
 (B:Below A₀ base [] h₀) (F:Fr h₀ L s.heap m) (X:(Kp w.params).In h₀) (N:News h₀ L s.heap news) (T:Top p loose mean mg mb h₀) (hk:cs.kind=.function) (XB:(Kp w.params).In base) (TB:Top p loose mean mg mb base) (hdp:dp + 80 < recursionLimit) (hun:un + 640 < cLine) (C:CodeHd h₀ 744 742) (G:AllBare s.gens) (M:DmMem prog w news D) (hT:(lT,tripO l.1 l.2.1 l.2.2 ta tb tc nt)∈news)
 (ret1:l∈links→∀ s' news' D',s'.os=s.os→AllBare s'.gens→Fr h₀ L s'.heap m→News h₀ L s'.heap news'→DmMem prog w news' D'→Stp D.own D'.own news news'→D'.x=D.x→D'.lvl=D.lvl→DmRel D' (links.filter (· != l)) cov→Q .none s')
 (ret2:l ∉ links→∀ h' tk' t news' D',Fr h₀ L h' m→News h₀ L h' news'→DmMem prog w news' D'→Stp D.own D'.own news news'→D'.x=D.x→D'.lvl=D.lvl→DmRel D' links cov→Q (.str "refused" t) { s with heap:=h',toks:=tk' })
 : wpAny (model prog w) (ktrTop dp un gd cn cs L a ccd cl []) (call (.ref 1194) [.ref x,.ref lT]) Q E s:=by
 subst hxe
 have hx:=M.x
 have hd:=M.d
 k_extra "kTE"
 iterate 25 k_extra "w"
 refine dm_del (D:=D) rfl cov Rl.fn l.1 l.2.1 l.2.2 ta tb tc hn1 hn2 hdm (by k_asm) (by k_asm) (by k_asm) (by k_asm) (by k_asm) rfl (by ktr_room) (by ktr_units) (C.keeps FG'.keep) G M (Rl.ls_len _) (fun h q hq ha=>Rl.aff (prog:=prog) (w:=w) (news:=news) ((Rl.at_iff l).mp h) hq ha) ?_ ?_
 ·intro hin s5 news5 D5 os5 G5 F5 N5 M5 S5 x5 f5 v5 hls5 hrm5
  have hl:=(Rl.at_iff l).mp hin
  have Rl5:=Rl.del M (n1:=l.1) (n2:=l.2.1) (dm:=l.2.2) hl f5 hls5 hrm5
  k_extra "w"
  exact ret1 hl s5 news5 D5 os5 G5 (by k_asm) (by k_asm) M5 S5 x5 v5 Rl5
 ·intro hnin g5 h5 tk5 e5 news5 D5 F5 R5 U5 M5 S5 K5 hls5
  iterate 5 k_extra "w"
  exact ret2 (fun h=>hnin ((Rl.at_iff l).mpr h)) _ _ _ news5 D5 (by k_asm) (by k_asm) M5 S5 K5.x K5.lvl (Rl.same K5 hls5)
end
noncomputable def lawBody:List Stmt:=match stT 30 with
 | .FunctionDef _ _ body _ _ _ _ _ _ _=>body
 | _=>[]
noncomputable def lawScope:Scope:=match stT 30 with
 | .FunctionDef _ _ _ _ _ _ scope _ _ _=>scope
 | _=>default
noncomputable abbrev lawA (dp un:Nat) (gd:Option (List Code)) (L a:Addr) (ccd:Value) (cM cL cG cN:Addr):Around:=ktrTop dp un gd "law" lawScope L a ccd [("name",cN),("gone",cG),("link",cL),("manager",cM)] []
noncomputable abbrev lawEnv (L a:Addr) (ccd:Value) (cM cL cG cN:Addr):Env:=envX "law" lawScope L a ccd [("name",cN),("gone",cG),("link",cL),("manager",cM)]
noncomputable def lawFor (n:Nat):List Stmt:=match lawBody[n]? with
 | some (.For _ _ body _ _)=>body
 | _=>[]
noncomputable def lawTurn (k:Nat):Stmt:=((lawFor 4)[k]?).getD (.Pass default)
noncomputable def lawDel:List Stmt:=match lawTurn 4 with
 | .If _ _ [.If _ body _ _] _=>body
 | _=>[]
noncomputable def Aux (cM cL cG cN lk:Addr) (tups:List Addr) (a:Addr):Prop:=a=cM∨a=cL∨a=cG∨a=cN∨a=lk∨a∈tups∨a=941
structure LawSt (prog:Program) (w:World) (cM cL cG cN:Addr) (nw:Led) (D:DmA) (links:List Lk) (lk:Addr) (tups:List Addr) (kl:Nat):Prop where
 M:DmMem prog w nw D
 oM:∃ o,(cM,o)∈nw∧o.data=.cell (some (.ref D.x))
 oL:∃ o v,(cL,o)∈nw∧o.data=.cell v
 oG:∃ o v,(cG,o)∈nw∧o.data=.cell v
 oN:∃ o v,(cN,o)∈nw∧o.data=.cell v
 olk:(lk,refsO tups kl)∈nw
 ht:TripsIn nw tups links
 t3:∃ ps,(941,tabObj ps)∈nw
 few:links.length≤4
 off:∀ a,Aux cM cL cG cN lk tups a→¬ D.own a
 yz:∀ l∈links,l.1≠"yak"
section
variable {prog:Program} {w:World} {cM cL cG cN lk:Addr} {nw nw':Led} {D D':DmA} {links:List Lk} {tups:List Addr} {kl:Nat}
theorem LawSt.sub (S:LawSt prog w cM cL cG cN nw D links lk tups kl) (h:∀ p∈nw,p∈nw'):LawSt prog w cM cL cG cN nw' D links lk tups kl:=by
 obtain ⟨M,⟨oM,m1,m2⟩,⟨oL,vL,l1,l2⟩,⟨oG,vG,g1,g2⟩,⟨oN,vN,n1,n2⟩,olk,ht,⟨ps,hps⟩,few,off,yz⟩:=S
 exact ⟨M.sub h,⟨oM,h _ m1,m2⟩,⟨oL,vL,h _ l1,l2⟩,⟨oG,vG,h _ g1,g2⟩,⟨oN,vN,h _ n1,n2⟩,h _ olk,ht.sub h,⟨ps,h _ hps⟩,few,off,yz⟩
theorem LawSt.dm (S:LawSt prog w cM cL cG cN nw D links lk tups kl) (M':DmMem prog w nw' D') (P:Stp D.own D'.own nw nw') (hx:D'.x=D.x):LawSt prog w cM cL cG cN nw' D' links lk tups kl:=by
 obtain ⟨M,⟨oM,m1,m2⟩,⟨oL,vL,l1,l2⟩,⟨oG,vG,g1,g2⟩,⟨oN,vN,n1,n2⟩,olk,ht,⟨ps,hps⟩,few,off,yz⟩:=S
 have kp:∀ {a o},(a,o)∈nw→Aux cM cL cG cN lk tups a→(a,o)∈nw':=fun h ha=>P.keep _ h (off _ ha)
 have aT:∀ t∈tups,Aux cM cL cG cN lk tups t:=fun t ht=>.inr (.inr (.inr (.inr (.inr (.inl ht)))))
 have aP:Aux cM cL cG cN lk tups 941:=.inr (.inr (.inr (.inr (.inr (.inr rfl)))))
 refine ⟨M',⟨oM,kp m1 (.inl rfl),hx▸m2⟩,⟨oL,vL,kp l1 (.inr (.inl rfl)),l2⟩,⟨oG,vG,kp g1 (.inr (.inr (.inl rfl))),g2⟩,⟨oN,vN,kp n1 (.inr (.inr (.inr (.inl rfl)))),n2⟩,kp olk (.inr (.inr (.inr (.inr (.inl rfl))))),
  ht.monoMem fun t htm l _ ⟨a,b,c,n,h⟩=>⟨a,b,c,n,kp h (aT t htm)⟩,⟨ps,kp hps aP⟩,few,fun a ha h=>?_,yz⟩
 rcases P.new a h with h | h
 ·exact off a ha h
 ·rcases ha with rfl | rfl | rfl | rfl | rfl | ha | rfl
  ·exact h _ m1 rfl
  ·exact h _ l1 rfl
  ·exact h _ g1 rfl
  ·exact h _ n1 rfl
  ·exact h _ olk rfl
  ·(refine e_EAE4 (ht.left ha) ?_;intro l _ a' b' c' n' hm)
   exact h _ hm rfl
  ·exact h _ hps rfl
theorem stp_not {own own':Addr→Prop} (P:Stp own own' nw nw') {a:Addr} {o:Obj} (hm:(a,o)∈nw) (hn:¬ own a):(a,o)∈nw'∧¬ own' a :=
 ⟨P.keep _ hm hn,fun h=>(P.new a h).elim hn fun h=>h _ hm rfl⟩
theorem LawSt.cell {h₀ h:Heap} {L:Addr} (S:LawSt prog w cM cL cG cN nw D links lk tups kl) (N:News h₀ L h nw) {c:Addr} {o':Obj} {v:Value} (hc:c=cL∨c=cG∨c=cN) (hMc:cM≠c) (hd:o'.data=.cell (some v)):LawSt prog w cM cL cG cN (upd c o' nw) D links lk tups kl:=by
 obtain ⟨M,⟨oM,m1,m2⟩,⟨oL,vL,l1,l2⟩,⟨oG,vG,g1,g2⟩,⟨oN,vN,n1,n2⟩,olk,ht,⟨ps,hps⟩,few,off,yz⟩:=S
 obtain ⟨oc,vc,hoc,hdc⟩:∃ oc vc,(c,oc)∈nw∧oc.data=.cell vc:=by
  rcases hc with rfl | rfl | rfl
  ·exact i_E2A oL vL l1 l2
  ·exact i_E2A oG vG g1 g2
  ·exact i_E2A oN vN n1 n2
 have hco:¬ D.own c:=off c (by rcases hc with rfl | rfl | rfl;exact .inr (.inl rfl);exact .inr (.inr (.inl rfl));exact .inr (.inr (.inr (.inl rfl))))
 have ne:∀ {a o},(a,o)∈nw→(∀ v,o.data≠.cell v)→a≠c:=fun h hn=>news_ne N h hoc fun e=>hn vc (e▸hdc)
 have ce:∀ {a o} {v':Option Value},(a,o)∈nw→o.data=.cell v'→∃ o2 v2,(a,o2)∈upd c o' nw∧o2.data=.cell v2:=fun {a o v'} h hv=>by
  by_cases e:a=c
  ·refine rwl (e ..) ?_;exact i_E2A o' (some v) mem_upd_self hd
  ·exact i_E2A o v' (mem_upd h e) hv
 exact ⟨M.keep fun p hp ho=>mem_upd hp fun e=>hco (e▸ho),⟨oM,mem_upd m1 hMc,m2⟩,ce l1 l2,ce g1 g2,ce n1 n2,mem_upd olk (ne olk fun v=>by nofun),
  ht.monoMem fun t htm l _ ⟨a,b,c',n,h⟩=>⟨a,b,c',n,mem_upd h (ne h fun v=>by nofun)⟩,⟨ps,mem_upd hps (ne hps fun v=>by nofun)⟩,few,off,yz⟩
theorem LawSt.app {h₀ h:Heap} {L:Addr} (S:LawSt prog w cM cL cG cN nw D links lk tups kl) (N:News h₀ L h nw) {lT:Addr} {l:Lk} {ta tb tc:Tok} {n:Nat} (hT:(lT,tripO l.1 l.2.1 l.2.2 ta tb tc n)∈nw) (hlo:¬ D.own lT) (hf:links.length < 4) (hy:l.1≠"yak") (k':Nat) :
  LawSt prog w cM cL cG cN (upd lk (refsO (tups++[lT]) k') nw) D (links++[l]) lk (tups++[lT]) k':=by
 obtain ⟨M,⟨oM,m1,m2⟩,⟨oL,vL,l1,l2⟩,⟨oG,vG,g1,g2⟩,⟨oN,vN,n1,n2⟩,olk,ht,⟨ps,hps⟩,few,off,yz⟩:=S
 have hko:¬ D.own lk:=off lk (.inr (.inr (.inr (.inr (.inl rfl)))))
 have ne:∀ {a o} {v:Option Value},(a,o)∈nw→o.data=.cell v→a≠lk:=fun {a o v} h hv=>news_ne N h olk fun e=>by rw [e] at hv;nomatch hv
 have nt:∀ {a b c:Str} {ta tb tc:Tok} {n:Nat} {t:Addr},(t,tripO a b c ta tb tc n)∈nw→t≠lk:=fun h=>(newsNe N h olk (by show Value.type "tuple"≠Value.type "list";decide)).out
 refine ⟨M.keep fun p hp ho=>mem_upd hp fun e=>hko (e▸ho),⟨oM,mem_upd m1 (ne m1 m2),m2⟩,⟨oL,vL,mem_upd l1 (ne l1 l2),l2⟩,⟨oG,vG,mem_upd g1 (ne g1 g2),g2⟩,⟨oN,vN,mem_upd n1 (ne n1 n2),n2⟩,mem_upd_self,
  (ht.mono fun t l ⟨a,b,c,n,h⟩=>⟨a,b,c,n,mem_upd h (nt h)⟩).append (.one ⟨ta,tb,tc,n,mem_upd hT (nt hT)⟩),⟨ps,mem_upd hps (news_ne N hps olk fun e=>by cases e)⟩,by refine rwl (List.length_append ..) ?_;exact hf,?_,fun l' hl'=>(List.mem_append.mp hl').elim (yz l') fun h=>by refine rwl (List.mem_singleton.mp h ..) ?_;exact hy⟩
 rintro a (h | h | h | h | h | h | h)
 ·exact off a (.inl h)
 ·exact off a (.inr (.inl h))
 ·exact off a (.inr (.inr (.inl h)))
 ·exact off a (.inr (.inr (.inr (.inl h))))
 ·exact off a (.inr (.inr (.inr (.inr (.inl h)))))
 ·rcases List.mem_append.mp h with h | h
  ·exact off a (.inr (.inr (.inr (.inr (.inr (.inl h))))))
  ·refine rwl (List.mem_singleton.mp h ..) ?_;exact hlo
 ·exact off a (.inr (.inr (.inr (.inr (.inr (.inr h))))))
theorem LawSt.list (S:LawSt prog w cM cL cG cN nw D links lk tups kl) {lk':Addr} {tups':List Addr} {k':Nat} {links':List Lk} (hk:(lk',refsO tups' k')∈nw) (hko:¬ D.own lk') (ht':TripsIn nw tups' links') (hto:∀ t∈tups',¬ D.own t) (hf:links'.length≤4) (hy:∀ l∈links',l.1≠"yak") :
  LawSt prog w cM cL cG cN nw D links' lk' tups' k':=by
 obtain ⟨M,hM,hL,hG,hN,olk,ht,t3,few,off,yz⟩:=S
 refine ⟨M,hM,hL,hG,hN,hk,ht',t3,hf,?_,hy⟩
 rintro a (h | h | h | h | h | h | h)
 ·exact off a (.inl h)
 ·exact off a (.inr (.inl h))
 ·exact off a (.inr (.inr (.inl h)))
 ·exact off a (.inr (.inr (.inr (.inl h))))
 ·refine rwl (h ..) ?_;exact hko
 ·exact hto a h
 ·exact off a (.inr (.inr (.inr (.inr (.inr (.inr h))))))
end
noncomputable def LOwn (cM cL cG cN:Addr) (D:DmA) (lk:Addr) (tups:List Addr) (a:Addr):Prop:=D.own a∨Aux cM cL cG cN lk tups a
structure LStp (O O':Addr→Prop) (nw nw':Led):Prop where
 keep:∀ p∈nw,¬ O p.1→p∈nw'
 new:∀ a,O' a→O a∨∀ p∈nw,p.1≠a
theorem LStp.refl {O:Addr→Prop} {nw:Led}:LStp O O nw nw:=⟨fun _ h _=>h,fun _ h=>.inl h⟩
theorem LStp.trans {O O' O'':Addr→Prop} {n1 n2 n3:Led} (x:LStp O O' n1 n2) (y:LStp O' O'' n2 n3):LStp O O'' n1 n3:=by
 refine ⟨fun p hp hn=>y.keep p (x.keep p hp hn) fun h=>(x.new _ h).elim hn fun f=>f p hp rfl,fun a ha=>?_⟩
 rcases y.new a ha with h | h
 ·exact x.new a h
 ·by_cases hO:O a
  ·exact .inl hO
  ·exact .inr fun p hp e=>h p (x.keep p hp (by refine rwl (e ..) ?_;exact hO)) e
theorem LStp.sub {O:Addr→Prop} {n1 n2:Led} (h:∀ p∈n1,p∈n2):LStp O O n1 n2:=⟨fun p hp _=>h p hp,fun _ h=>.inl h⟩
theorem LStp.upd {O:Addr→Prop} {n1:Led} {c:Addr} {o:Obj} (h:O c):LStp O O n1 (upd c o n1):=⟨fun p hp hn=>mem_upd hp fun e=>hn (e▸h),fun _ h=>.inl h⟩
theorem LStp.weak {O O' O2:Addr→Prop} {n1 n2:Led} (x:LStp O O' n1 n2) (h:∀ a,O a→O2 a):LStp O2 O' n1 n2:=⟨fun p hp hn=>x.keep p hp fun ho=>hn (h _ ho),fun a ha=>(x.new a ha).imp (h a) id⟩
theorem LStp.dm {cM cL cG cN lk:Addr} {D D':DmA} {nw nw':Led} {tups:List Addr} (P:Stp D.own D'.own nw nw'):LStp (LOwn cM cL cG cN D lk tups) (LOwn cM cL cG cN D' lk tups) nw nw' :=
 ⟨fun p hp hn=>P.keep p hp fun h=>hn (.inl h),fun a ha=>ha.elim (fun h=>(P.new a h).imp .inl id) fun h=>.inl (.inr h)⟩
section
variable {prog:Program} {w:World} {cM cL cG cN lk:Addr} {nw nw':Led} {D D':DmA} {links:List Lk} {tups:List Addr} {kl:Nat}
theorem LawSt.keep (S:LawSt prog w cM cL cG cN nw D links lk tups kl) (up:∀ p∈nw,LOwn cM cL cG cN D lk tups p.1→p∈nw'):LawSt prog w cM cL cG cN nw' D links lk tups kl:=by
 obtain ⟨M,⟨oM,m1,m2⟩,⟨oL,vL,l1,l2⟩,⟨oG,vG,g1,g2⟩,⟨oN,vN,n1,n2⟩,olk,ht,⟨ps,hps⟩,few,off,yz⟩:=S
 have h:∀ p∈nw,Aux cM cL cG cN lk tups p.1→p∈nw':=fun p hp ha=>up p hp (.inr ha)
 exact ⟨M.keep fun p hp ho=>up p hp (.inl ho),⟨oM,h _ m1 (.inl rfl),m2⟩,⟨oL,vL,h _ l1 (.inr (.inl rfl)),l2⟩,⟨oG,vG,h _ g1 (.inr (.inr (.inl rfl))),g2⟩,⟨oN,vN,h _ n1 (.inr (.inr (.inr (.inl rfl)))),n2⟩,h _ olk (.inr (.inr (.inr (.inr (.inl rfl))))),
  ht.monoMem fun t htm l _ ⟨a,b,c,n,hh⟩=>⟨a,b,c,n,h _ hh (.inr (.inr (.inr (.inr (.inr (.inl htm))))))⟩,⟨ps,h _ hps (.inr (.inr (.inr (.inr (.inr (.inr rfl))))))⟩,few,off,yz⟩
theorem LawSt.there (S:LawSt prog w cM cL cG cN nw D links lk tups kl) {a:Addr} (h:LOwn cM cL cG cN D lk tups a):∃ o,(a,o)∈nw:=by
 obtain ⟨M,⟨oM,m1,m2⟩,⟨oL,vL,l1,l2⟩,⟨oG,vG,g1,g2⟩,⟨oN,vN,n1,n2⟩,olk,ht,⟨ps,hps⟩,few,off,yz⟩:=S
 rcases h with h | rfl | rfl | rfl | rfl | rfl | h | rfl
 ·exact M.there _ h
 ·exact ⟨_,m1⟩
 ·exact ⟨_,l1⟩
 ·exact ⟨_,g1⟩
 ·exact ⟨_,n1⟩
 ·exact ⟨_,olk⟩
 ·(refine e_EAE4 (ht.left h) ?_;intro l _ a' b' c' n' hm)
  exact ⟨_,hm⟩
 ·exact ⟨_,hps⟩
theorem LawSt.drop {O:Addr→Prop} {n0:Led} (S:LawSt prog w cM cL cG cN nw D links lk tups kl) (P:LStp O (LOwn cM cL cG cN D lk tups) n0 nw) {I:Addr} {oI:Obj} (hI:(I,oI)∈n0) (hO:¬ O I) :
  LawSt prog w cM cL cG cN (nw.filter fun p=>p.1 != I) D links lk tups kl∧(I,oI)∈nw∧∀ p∈nw.filter (fun p=>p.1 != I),p.1≠I:=by
 have hn:¬ LOwn cM cL cG cN D lk tups I:=fun h=>(P.new I h).elim hO fun f=>f _ hI rfl
 exact ⟨S.keep fun p hp ho=>List.mem_filter.mpr ⟨hp,by have:p.1≠I:=fun e=>hn (e▸ho);simpa using this⟩,P.keep _ hI hO,fun p hp=>by simpa using (List.mem_filter.mp hp).2⟩
end
structure Cells (cM cL cG cN:Addr):Prop where
 ml:cM≠cL
 mg:cM≠cG
 mn:cM≠cN
 lg:cL≠cG
 ln:cL≠cN
 gn:cG≠cN
structure LawM (m:Str→Option Value) (sc lk:Addr) (lv:Nat) (cov:Bool):Prop where
 sc:m "script"=some (.ref sc)
 lv:∃ t,m "level"=some (.int (lv:Int) t)
 lk:m "links"=some (.ref lk)
 cov:m "covering"=some (.bool cov)
theorem m_eta {m:Str→Option Value} {x:Str} {v:Value} (h:m x=some v):m=fun y=>if y=x then some v else m y:=by
 funext y
 by_cases e:y=x
 ·(refine rwl (if_pos e ..) ?_;refine rwl (e ..) ?_;refine rwl (h ..) ?_;with_reducible rfl)
 ·(refine rwl (if_neg e ..) ?_;with_reducible rfl)
noncomputable def tripD (l:Lk):Dat:=.tuple [.str l.1,.str l.2.1,.str l.2.2]
theorem tripD_inj {l l':Lk}:tripD l=tripD l'↔l=l':=by
 rcases l with ⟨a,b,c⟩;rcases l' with ⟨a',b',c'⟩
 simp [tripD]
theorem mem_tripD {l:Lk} {ls:List Lk}:tripD l∈ls.map tripD↔l∈ls:=by
 constructor
 ·intro h
  (refine e_EA (List.mem_map.mp h) ?_;intro l' h' e)
  refine rwr (tripD_inj.mp e ..) ?_;exact h'
 ·exact List.mem_map_of_mem
theorem strOk_places {n:Str} (h:n∈Places):PyData.strOk n=true:=by
 have:∀ n∈Places,PyData.strOk n=true:=by decide +kernel
 exact this n h
noncomputable def LkOk (l:Lk):Prop:=l.1∈Names∧l.2.1∈Names∧l.2.2∈Places
theorem tripD_ok {l:Lk} (h:LkOk l):kqdOk 8 (tripD l)=true:=by
 simp [tripD,kqdOk,strOk_names h.1,strOk_names h.2.1,strOk_places h.2.2]
theorem tripsD_ok {ls:List Lk} (h:∀ l∈ls,LkOk l):∀ d∈ls.map tripD,kqdOk 8 d=true:=fun d hd=>by
 (refine e_EA (List.mem_map.mp hd) ?_;intro l hl e9_2;subst e9_2)
 exact tripD_ok (h l hl)
theorem tripD_in {news:Led} {T:Addr} {l:Lk} {ta tb tc:Tok} {n:Nat} (h:(T,tripO l.1 l.2.1 l.2.2 ta tb tc n)∈news):DatIn news (.ref T) (tripD l):=.tuple (vs:=[.str l.1 ta,.str l.2.1 tb,.str l.2.2 tc]) h (.cons (.str _ _) (.cons (.str _ _) (.cons (.str _ _) .nil)))
theorem TripsIn.dat {news:Led} {tups:List Addr} {ls:List Lk} (h:TripsIn news tups ls):DatAll news (tups.map Value.ref) (ls.map tripD):=by
 induction h with
 | nil=>exact .nil
 | cons h _ ih =>
  (refine e_E4 (h) ?_;clear h;intro ta tb tc nt hm)
  exact .cons (tripD_in hm) ih
theorem DmRel.ok {D:DmA} {links:List Lk} {cov:Bool} (Rl:DmRel D links cov):∀ l∈links,LkOk l:=Rl.nms
section
variable {prog:Program} {w:World} {A:Around} {E:Value→Shared→Prop} {s:Shared} {h₀:Heap} {L:Addr} {news n₁ n₂:Led} {Q:Value→Shared→Prop} {x y:Value} {d e:Dat}
theorem dat_shaped (h:kqdOk 8 d=true):SeqAt.shaped (kqdP d)=true:=by
 have la:=kqd_lay 8 d h
 unfold SeqAt.shaped
 (refine rwl (la.1 ..) ?_;refine rwl (Bool.true_and ..) ?_)
 exact decide_eq_true (Nat.le_trans la.2 (by decide))
open Classical in
theorem dat_eqv (hd:kqdOk 8 d=true) (he:kqdOk 8 e=true):PyData.eqv (kqdP d) (kqdP e)=decide (d=e):=by
 (refine rwl (propext (Bool.eq_iff_iff ..)) ?_;refine rwl (propext (kqd_eqv 8 d e 8 hd he ..)) ?_;refine rwl (propext (decide_eq_true_iff ..)) ?_;with_reducible rfl)
open Classical in
theorem dat_eq (N:News h₀ L s.heap news) (Da:DatIn n₁ x d) (sa:∀ p∈n₁,p∈news) (Db:DatIn n₂ y e) (sb:∀ p∈n₂,p∈news) (hd:kqdOk 8 d=true) (he:kqdOk 8 e=true) (hu:A.units + 64 < cLine) (h:Q (.bool (decide (d=e))) s) :
  wpAny (model prog w) A (compareOp .Eq x y) Q E s:=by
 (refine e_E (kqd_in N 8 (Da.mono sa) hd) ?_;intro as ra)
 (refine e_E (kqd_in N 8 (Db.mono sb) he) ?_;intro bs rb)
 exact eq_dataH ra rb (dat_shaped hd) (dat_shaped he) hu (by refine rwl (dat_eqv hd he ..) ?_;exact h)
open Classical in
theorem dat_ne (N:News h₀ L s.heap news) (Da:DatIn n₁ x d) (sa:∀ p∈n₁,p∈news) (Db:DatIn n₂ y e) (sb:∀ p∈n₂,p∈news) (hd:kqdOk 8 d=true) (he:kqdOk 8 e=true) (hu:A.units + 64 < cLine) (h:Q (.bool (!decide (d=e))) s) :
  wpAny (model prog w) A (compareOp .NotEq x y) Q E s:=by
 (refine e_E (kqd_in N 8 (Da.mono sa) hd) ?_;intro as ra)
 (refine e_E (kqd_in N 8 (Db.mono sb) he) ?_;intro bs rb)
 exact ne_dataH ra rb (dat_shaped hd) (dat_shaped he) hu (by refine rwl (dat_eqv hd he ..) ?_;exact h)
end
section
variable {prog:Program} {w:World} {A:Around} {E:Value→Shared→Prop} {s:Shared} {h₀:Heap} {L D T T' e:Addr} {news:Led} {Q:Value→Shared→Prop} {ts:List Addr} {k k2 n n':Nat} {ls:List Lk} {l l':Lk} {ta tb tc ta' tb' tc':Tok}
theorem isNil_dec (i:Decidable (ls.map tripD=[])):@decide _ i=ls.isEmpty:=by
 (refine rwl (propext (Bool.eq_iff_iff ..)) ?_;refine rwl (propext (decide_eq_true_iff ..)) ?_;refine rwl (propext (List.isEmpty_iff ..)) ?_;refine rwl (propext (List.map_eq_nil_iff ..)) ?_;with_reducible rfl)
theorem trips_eq_nil (N:News h₀ L s.heap news) (hD:(D,refsO ts k)∈news) (ht:TripsIn news ts ls) (hE:(e,listOf #[] k2)∈news) (ok:∀ l∈ls,LkOk l) (hu:A.units + 64 < cLine) (h:Q (.bool ls.isEmpty) s) :
  wpAny (model prog w) A (compareOp .Eq (.ref D) (.ref e)) Q E s :=
 kqd_eq (ys:=[]) N hD rfl rfl ht.dat sub_rfl hE rfl rfl .nil (n₂:=news) sub_rfl (tripsD_ok ok) (fun _ h=>absurd h List.not_mem_nil) hu (by refine rwl (isNil_dec ..) ?_;exact h)
theorem trips_ne_nil (N:News h₀ L s.heap news) (hD:(D,refsO ts k)∈news) (ht:TripsIn news ts ls) (hE:(e,listOf #[] k2)∈news) (ok:∀ l∈ls,LkOk l) (hu:A.units + 64 < cLine) (h:Q (.bool (!ls.isEmpty)) s) :
  wpAny (model prog w) A (compareOp .NotEq (.ref D) (.ref e)) Q E s :=
 kqd_ne (ys:=[]) N hD rfl rfl ht.dat sub_rfl hE rfl rfl .nil (n₂:=news) sub_rfl (tripsD_ok ok) (fun _ h=>absurd h List.not_mem_nil) hu (by refine rwl (isNil_dec ..) ?_;exact h)
theorem trips_in (N:News h₀ L s.heap news) (hD:(D,refsO ts k)∈news) (ht:TripsIn news ts ls) (hT:(T,tripO l.1 l.2.1 l.2.2 ta tb tc n)∈news) (ok:∀ l∈ls,LkOk l) (hl:LkOk l) (hu:A.units + 64 < cLine) (h:Q (.bool (decide (l∈ls))) s) :
  wpAny (model prog w) A (compareOp .In (.ref T) (.ref D)) Q E s:=by
 refine kqd_isIn N hD rfl rfl ht.dat sub_rfl (tripD_in hT) sub_rfl (tripsD_ok ok) (tripD_ok hl) hu ?_
 have e:∀ i:Decidable (tripD l∈ls.map tripD),@decide _ i=decide (l∈ls):=fun i=>by (refine rwl (propext (Bool.eq_iff_iff ..)) ?_;refine rwl (propext (decide_eq_true_iff ..)) ?_;refine rwl (propext (decide_eq_true_iff ..)) ?_;refine rwl (propext (mem_tripD ..)) ?_;with_reducible rfl)
 refine rwl (e ..) ?_
 exact h
theorem trip_ne (N:News h₀ L s.heap news) (hT:(T,tripO l.1 l.2.1 l.2.2 ta tb tc n)∈news) (hT':(T',tripO l'.1 l'.2.1 l'.2.2 ta' tb' tc' n')∈news) (hl:LkOk l) (hl':LkOk l') (hu:A.units + 64 < cLine) (h:Q (.bool (l != l')) s) :
  wpAny (model prog w) A (compareOp .NotEq (.ref T) (.ref T')) Q E s:=by
 refine dat_ne N (tripD_in hT) sub_rfl (tripD_in hT') sub_rfl (tripD_ok hl) (tripD_ok hl') hu ?_
 have e:∀ i:Decidable (tripD l=tripD l'),(!@decide _ i)=(l != l'):=fun i=>by
  (rewrite [bne];refine rwl (propext (Bool.not_eq_eq_eq_not ..)) ?_;refine rwl (Bool.not_not ..) ?_;refine rwl (propext (Bool.eq_iff_iff ..)) ?_;refine rwl (propext (decide_eq_true_iff ..)) ?_;refine rwl (propext (beq_iff_eq ..)) ?_;refine rwl (propext (tripD_inj ..)) ?_;with_reducible rfl)
 refine rwl (e ..) ?_
 exact h
theorem pair_eq {a b c d:Str} (N:News h₀ L s.heap news) (hT:(T,pairO a b ta tb n)∈news) (hT':(T',pairO c d ta' tb' n')∈news) (h1:a∈Names∧b∈Names) (h2:c∈Names∧d∈Names) (hu:A.units + 64 < cLine) (h:Q (.bool (decide ((a,b)=(c,d)))) s) :
  wpAny (model prog w) A (compareOp .Eq (.ref T) (.ref T')) Q E s:=by
 refine dat_eq N (pairD_in hT) sub_rfl (pairD_in hT') sub_rfl (pairD_ok h1) (pairD_ok h2) hu ?_
 have e:∀ i:Decidable (pairD (a,b)=pairD (c,d)),@decide _ i=decide ((a,b)=(c,d)):=fun i=>by
  (refine rwl (propext (Bool.eq_iff_iff ..)) ?_;refine rwl (propext (decide_eq_true_iff ..)) ?_;refine rwl (propext (decide_eq_true_iff ..)) ?_;refine rwl (propext (pairD_inj ..)) ?_;with_reducible rfl)
 refine rwl (e ..) ?_
 exact h
end
section
variable {prog:Program} {w:World} {A:Around} {E:Value→Shared→Prop} {s:Shared} {h₀:Heap} {L:Addr} {m:Str→Option Value} {news:Led}
theorem slice2_apply {sl:Addr} {u:Tok} {Q:Int×Int×Nat→Shared→Prop} (hs:s.heap.IsSliceOf sl .none (.int 2 u) .none) (h:Q (0,1,2) s) :
  wpAny (model prog w) A (Builtin.Slice.sliceApplied (.ref sl) (pure (3:Int))) Q E s:=by
 (refine e_EA2 (id hs) ?_;intro os hos hcs hds)
 unfold Builtin.Slice.sliceApplied Builtin.Slice.sliceFields
 refine wpAny_bind (wpAny_bind (wpAny_field hos hds (x:=.none) rfl (wpAny_bind (wpAny_field hos hds (x:=.int 2 u) rfl (wpAny_bind (wpAny_field hos hds (x:=.none) rfl (wpAny_pure ?_)))))))
 refine wpAny_bind (slicePart_none ?_)
 show wpAny _ _ (if ((1:Int) == 0)=true then _ else _) _ _ s
 refine rwl (if_neg (by decide) ..) ?_
 refine wpAny_bind (slicePart_none (wpAny_bind (slicePart_int (wpAny_bind (wpAny_pure ?_)))))
 show wpAny _ _ (match Builtin.Slice.sliceAdjust none (some (2:Int)) 1 (3:Int) with | (lo,hi)=>pure (lo,(1:Int),Builtin.Slice.slicePlaces lo hi 1)) _ _ s
 exact wpAny_pure h
theorem slice2_get {t sl:Addr} {x y z:Value} {n:Nat} {u:Tok} {Q:Value→Shared→Prop} (ht:IsTup s.heap t #[x,y,z]) (hs:s.heap.IsSliceOf sl .none (.int 2 u) .none)
  (h:Q (.ref s.heap.objs.size) { s with heap:=s.heap.push { cls:=.type "tuple",data:=.seq #[x,y] } }):wpAny (model prog w) A (getItem (.ref t) (.ref sl)) Q E s:=by
 (refine e_EA2 (id hs) ?_;intro os hos hcs hds)
 have hTs:s.TypeIs (.ref sl) "slice":=⟨os,hos,hcs⟩
 unfold getItem
 try with_reducible refine wpAny_holding ?_
 first | refine wpAny_bind (wpAny_pure ?_) | skip
 refine wpAny_bind (wpAny_sequenceKey ht.typeIs (by decide) ?_)
 refine wpAny_bind (wpAny_callSpecial?_slot (name:=Str.ofString "__getitem__") ht.typeIs slot_tuple_getitem
  (wpAny_call_entry slot_tuple_getitem ht.typeIs entry_tuple_getitem ?_ (args_tuple_getitem _ _)))
 show wpAny _ _ (Builtin.Tuple.tupleItemsOf (.ref t) >>= _) _ _ s
 refine wpAny_bind (tupleItemsOf_ ht ?_)
 refine wpAny_bind (wpAny_typeOf hTs ?_)
 refine rwl (if_pos (by decide) ..) ?_
 refine wpAny_bind (slice2_apply hs ?_)
 show wpAny _ _ (if ((0:Int) == 0 && (1:Int) == 1 && (2:Nat) == 3)=true then _ else _) _ _ s
 have e:((List.range 2).filterMap fun (k:Nat)=>(#[x,y,z]:Array Value)[((0:Int) + (k:Int) * 1).toNat]?).toArray=#[x,y]:=by rfl
 (refine rwl (if_neg (by decide) ..) ?_;refine rwl (e ..) ?_)
 have hz:sizeOk (.seq #[x,y]):=by show (2:Nat)≤sizeLine;decide
 first
  | exact wpAny_bind (m:=Builtin.Tuple.tupleExact _) (wpAny_newObj_type (wpAny_pure ⟨_,rfl,wpAny_pure h⟩) hz)
  | exact wpAny_bind (m:=Builtin.Tuple.tupleExact _) (wpAny_newObj_type (wpAny_bind (wpAny_pure (wpAny_pure ⟨_,rfl,wpAny_pure h⟩))) hz)
  | exact wpAny_bind (wpAny_bind (m:=Builtin.Tuple.tupleExact _) (wpAny_newObj_type (wpAny_pure (wpAny_pure ⟨_,rfl,wpAny_pure h⟩)) hz))
  | exact wpAny_bind (wpAny_bind (m:=Builtin.Tuple.tupleExact _) (wpAny_newObj_type (wpAny_pure ⟨_,rfl,wpAny_pure h⟩) hz))
theorem slice_tup2 {value slice:Expr} {t:Addr} {x y z:Value} {n:Nat} {u:Tok} {Q:Value→Shared→Prop} (F:Fr h₀ L s.heap m) (N:News h₀ L s.heap news) (hm:(t,({ cls:=.type "tuple",data:=.seq #[x,y,z] n }:Obj))∈news)
  (h:∀ h' T,Fr h₀ L h' m→News h₀ L h' ((T,({ cls:=.type "tuple",data:=.seq #[x,y] 0 }:Obj))::news)→(∀ p∈news,p.1 < T)→Q (.ref T) { s with heap:=h' })
  (hs:subscripted slice false (.ref t) (.ref s.heap.objs.size)=operate [.ref s.heap.objs.size,.ref t] (getItem (.ref t) (.ref s.heap.objs.size)):=by with_unfolding_all rfl)
  (hg:∀ r,letTemporaryGo value (.ref t) r=pure ():=by intro _;with_unfolding_all rfl) :
  wpAny (model prog w) A (subscriptTail value slice (.ref t) (.ref s.heap.objs.size)) Q E { s with heap:=s.heap.push { cls:=.type "slice",data:=.fields #[.none,.int 2 u,.none] } }:=by
 have ht:IsTup s.heap t #[x,y,z]:=⟨_,(N _ hm).1,rfl,n,rfl⟩
 have ht':IsTup (s.heap.push { cls:=.type "slice",data:=.fields #[.none,.int 2 u,.none] }) t #[x,y,z]:=ht.keeps fun _ _ e=>Heap.get?_push_of_some _ e
 refine subscriptTail_ops (s:={ s with heap:=s.heap.push { cls:=.type "slice",data:=.fields #[.none,.int 2 u,.none] } }) ht'.typeIs slot_tuple_getitem.lookup
  (slice2_get (n:=n) (u:=u) ht' (Heap.IsSliceOf.new ..) ?_) hs hg
 have N1:=News.push (F.push { cls:=.type "slice",data:=.fields #[.none,.int 2 u,.none] }) (N.grown fun _ _ e=>Heap.get?_push_of_some _ e) { cls:=.type "tuple",data:=.seq #[x,y] }
 rw [Heap.size_push] at N1
 show Q (.ref (s.heap.push _).objs.size) _
 refine rwl (Heap.size_push ..) ?_
 exact h _ _ ((F.push _).push _) N1 fun p hp=>Nat.lt_succ_of_lt (Heap.lt_size (N p hp).1)
end
theorem filter_pr_nil {links:List Lk} {l:Lk} (h:(links.filter fun l'=>decide (pr l'=pr l))=[]):pr l ∉ links.map pr:=fun hm=>by
 (refine e_EA (List.mem_map.mp hm) ?_;intro l' h' e)
 have:=List.filter_eq_nil_iff.mp h l' h'
 exact this (decide_eq_true e)
section
variable {prog:Program} {w:World} {p:Program} {loose:List Str} {mean:ExcName→Option Value} {mg mb:Str→Option Value}
 {dp un:Nat} {gd:Option (List Code)} {cn:Str} {cs:Scope} {a:Addr} {ccd:Value} {cl:List (Str×Addr)} {outer:List Env} {A₀:Around} {base h₀:Heap} {L:Addr} {m:Str→Option Value} {s:Shared} {Q E:Value→Shared→Prop} {news:Led}

set_option maxHeartbeats 8000000 in
theorem law_add (kd:Int) (h6:kd < 6) (sc:Addr) {cM cL cG cN lk lT:Addr} {D:DmA} {links:List Lk} {cov:Bool} {tups:List Addr} {kl:Nat} (lv k:Nat) (m':Str→Option Value) (QF:Flow→Shared→Prop)
 (B:Below A₀ base [] h₀) (F:Fr h₀ L s.heap m') (X:(Kp w.params).In h₀) (N:News h₀ L s.heap news) (T:Top p loose mean mg mb h₀) (XB:(Kp w.params).In base) (TB:Top p loose mean mg mb base) (C:CodeHd h₀ 744 742) (C2:CodeHd h₀ 908 906) (G:AllBare s.gens)
 (hdp:dp + 200 < recursionLimit) (hun:un + 2000 < cLine) (S:LawSt prog w cM cL cG cN news D links lk tups kl) (Rl:DmRel D links cov) (hcc:Cells cM cL cG cN) (hm:LawM m' sc lk lv cov) (hk9:∃ t,m' "k"=some (.int (k:Int) t)) (hkd:∃ t,m' "kind"=some (.int kd t)) (l:Lk) (hl:LkOk l) {oL:Obj} {ta tb tc:Tok} (hcL:(cL,oL)∈news) (hoL:oL.data=.cell (some (.ref lT))) (hlT:(lT,tripO l.1 l.2.1 l.2.2 ta tb tc 0)∈news) (hlo:¬ D.own lT) (hly:l.1≠"yak")
 (ret:∀ s' m2 news' D' links' cov' lk' tups' kl',s'.os=s.os→AllBare s'.gens→Fr h₀ L s'.heap m2→News h₀ L s'.heap news'→LawSt prog w cM cL cG cN news' D' links' lk' tups' kl'→DmRel D' links' cov'→D'.lvl=D.lvl→LawM m2 sc lk' lv cov'→(∃ t,m2 "k"=some (.int (k:Int) t))→LStp (fun a=>LOwn cM cL cG cN D lk tups a∨a=lT) (LOwn cM cL cG cN D' lk' tups') news news'→QF .next s')
 : wpAny (model prog w) (lawA dp un gd L a ccd cM cL cG cN) (exec (lawTurn 4) (lawEnv L a ccd cM cL cG cN)) QF E s:=by
 refine (let A1:=_;(?_:wpAny _ A1 _ _ _ _))
 (refine e_E (hkd) ?_;clear hkd;intro t1 hkd)
 (refine e_E (hk9) ?_;clear hk9;intro tkk hkk)
 obtain ⟨msc,⟨tl,mlv⟩,mlk,mcov⟩:=hm
 refine (let m1:=_;fun (F1:Fr _ _ _ m1)=>?_) (fr_on hkd (fr_on hkk (fr_on msc (fr_on mlv (fr_on mlk (fr_on mcov F))))));clear F;rename Fr _ _ _ _=>F
 (first | refine (?_:wpAny _ _ (execs _ (envX _ _ _ _ _ _)) _ _ _) | refine (?_:wpAny _ _ (exec _ (envX _ _ _ _ _ _)) _ _ _))
 conv in lawTurn 4=>whnf
 conv in (occs:=*) lawScope=>all_goals whnf
 (refine e_EA (S.oM) ?_;intro oM hcM hoM)
 have holk:=S.olk
 have hx:=S.M.x
 have hd:=S.M.d
 iterate 5 k_extra "w"
 refine rwl (decide_eq_true h6 ..) ?_
 iterate 12 k_extra "w"
 refine len_list (News.isList N holk) (by (refine rwl (List.size_toArray ..) ?_;refine rwl (List.length_map ..) ?_;refine rwl (S.ht.length ..) ?_);have:=S.few;omega) ?_
 have hsz:((tups.map Value.ref).toArray.size:Int)=(links.length:Int):=by (refine rwl (List.size_toArray ..) ?_;refine rwl (List.length_map ..) ?_;refine rwl (S.ht.length ..) ?_;with_reducible rfl)
 refine rwl (hsz ..) ?_
 iterate 2 k_extra "w"
 by_cases h4:links.length < 4
 ·refine rwl (decide_eq_true (by omega) ..) ?_
  iterate 4 k_extra "w"
  refine comp_overG (fun v m₂=>∃ T l' ta' tb' tc' n',v=.ref T∧l'∈links∧(T,tripO l'.1 l'.2.1 l'.2.2 ta' tb' tc' n')∈news∧m₂ "one"=some (.ref T))
   (fun i=>match links[i]? with | some l'=>decide (pr l'=pr l) | none=>false) (fun i ys nw=>nw=news∧∃ ts,ys=ts.map Value.ref∧(∀ t∈ts,t∈tups)∧TripsIn news ts ((links.take i).filter fun l'=>decide (pr l'=pr l))) (by k_asm) rfl ?_ ?_ (by rfl) (by decide) (by rfl) (by decide) (by intro _;rfl)
  ·exact fun I l i v s Q E hit hQ=>go_list_name hQ
  ·k_extra "w"
   refine .mk lk (tups.map Value.ref) kl _ rfl (by k_asm) (by k_asm) holk (by (refine rwl (List.length_map ..) ?_;refine rwl (S.ht.length ..) ?_);have:=S.few;k_extra "ar") ⟨rfl,[],rfl,(fun _ h=>absurd h List.not_mem_nil),.nil⟩ ?_ ?_ ?_ ?_ ?_ ?_
   ·intro i ys nw e8_3;(refine e_AEA2 (e8_3) ?_;clear e8_3;intro _ ts e9_2 _ hts;subst e9_2)
    (refine rwl (List.length_map ..) ?_;refine rwl (hts.length ..) ?_)
    exact Nat.le_trans (List.length_filter_le _ _) (List.length_take_le _ _)
   ·intro v hv C m₁ s Q E' hn nw Nw hs hq
    (refine e_EA (List.mem_map.mp hv) ?_;intro T hT e9_2;subst e9_2)
    (refine e_EAE4 (S.ht.left hT) ?_;intro l' hl' ta' tb' tc' n' hTm)
    refine wpAny_assign_Name (wpAny_storeName_local (kind_comp (by decide)) hn (fun h₃ hn₃ hs₃=>?_) (ns_par rfl))
    exact hq h₃ _ _ hn₃ ⟨T,l',ta',tb',tc',n',rfl,hl',hTm,if_pos rfl⟩ fun b o hb e=>hs₃.extBut b o hb e
   ·intro i v hv I oI C oC D' ys nw m₂ h tk E' hJ hs hoC hB F'' N''
    (refine e_E6A3 (hB) ?_;clear hB;intro T l' ta' tb' tc' n' e9_6 hl' hTm hone;subst e9_6)
    (refine e_A (hJ) ?_;clear hJ;intro e9_0 hts;replace e9_0:=e9_0.symm;subst e9_0)
    iterate 8 k_extra "w"
    refine slice_tup2 (by k_asm) (by k_asm) (by k_mem) ?_
    intro h6 T6 F6 N6 l6
    iterate 7 k_extra "w"
    refine slice_tup2 (by k_asm) (by k_asm) (by k_mem) ?_
    intro h7 T7 F7 N7 l7
    have hsel:(match links[i]? with | some l'=>decide (pr l'=pr l) | none=>false)=decide (pr l'=pr l):=by
     rw [List.getElem?_map] at hv
     (refine e_EA (Option.map_eq_some_iff.mp hv) ?_;intro T' hT' e)
     cases e
     (refine e_EAE4 (S.ht.nth hT') ?_;intro l2 hl2 ta2 tb2 tc2 n2 hTm2)
     (refine rwl (hl2 ..) ?_;refine rwl (tripO_inj (news_fun N hTm2 hTm) ..) ?_;with_reducible rfl)
    refine rwl (hsel ..) ?_
    refine pair_eq (a:=l'.1) (b:=l'.2.1) (c:=l.1) (d:=l.2.1) N7 (by k_mem) (by k_mem) ⟨(Rl.ok l' hl').1,(Rl.ok l' hl').2.1⟩ ⟨hl.1,hl.2.1⟩ (by ktr_units) ?_
    iterate 1 k_extra "w"
    exact i_AE2A2 rfl _ _ rfl (by k_asm) (news_sub N7 fun p hp=>.tail _ (.tail _ hp))
   ·intro i v ys nw hv hp e8_6;(refine e_AEA2 (e8_6) ?_;clear e8_6;intro hnw ts hys htu hts)
    rw [List.getElem?_map] at hv
    (refine e_EA (Option.map_eq_some_iff.mp hv) ?_;intro T' hT' e)
    (refine e_EA (S.ht.nth hT') ?_;intro l' hl' _)
    (try dsimp only at hp)
    rw [hl'] at hp
    have hp':decide (pr l'=pr l)=false:=hp
    refine i_AEA2 hnw ts hys htu ?_
    (refine rwl (List.take_add_one ..) ?_;refine rwl (hl' ..) ?_;refine rwl (Option.toList_some ..) ?_;refine rwl (List.filter_append ..) ?_;refine rwl (List.filter_cons_of_neg (by rw [hp'];decide) ..) ?_;refine rwl (List.filter_nil ..) ?_;refine rwl (List.append_nil ..) ?_)
    exact hts
   ·intro i v hv hp I oI C oC D' ys nw m₂ h tk E' hJ hs hoC hB F'' N'' off hIC hID hCD
    (refine e_E6A3 (hB) ?_;clear hB;intro T l' ta' tb' tc' n' e9_6 hl' hTm hone;subst e9_6)
    (refine e_AEA2 (hJ) ?_;clear hJ;intro e9_0 ts e9_2 htu hts;replace e9_0:=e9_0.symm;subst e9_0;subst e9_2)
    rw [List.getElem?_map] at hv
    (refine e_EA (Option.map_eq_some_iff.mp hv) ?_;intro T' hT' e)
    cases e
    (refine e_EAE4 (S.ht.nth hT') ?_;intro l2 hl2 ta2 tb2 tc2 n2 hTm2)
    (try dsimp only at hp)
    rw [hl2] at hp
    have hp':decide (pr l2=pr l)=true:=hp
    iterate 1 k_extra "w"
    refine i_E3A6EA2 _ _ _ rfl (by k_asm) (by k_asm) off hs rfl (ts++[T]) (by refine rwl (List.map_append ..) ?_;rfl) ?_ ?_
    ·intro t ht
     rcases List.mem_append.mp ht with h | h
     ·exact htu t h
     ·refine rwl (List.mem_singleton.mp h ..) ?_;exact List.mem_of_getElem? hT'
    ·(refine rwl (List.take_add_one ..) ?_;refine rwl (hl2 ..) ?_;refine rwl (Option.toList_some ..) ?_;refine rwl (List.filter_append ..) ?_;refine rwl (List.filter_cons ..) ?_;refine rwl (if_pos (show (fun l'=>decide (pr l'=pr l)) l2=true from hp') ..) ?_;refine rwl (List.filter_nil ..) ?_)
     exact hts.append (.one ⟨ta2,tb2,tc2,n2,hTm2⟩)
   ·intro Dl h5 tk5 ys nw hJ F5 N5 hD5
    (refine e_AEA2 (hJ) ?_;clear hJ;intro e9_0 ts e9_2 htu hts;replace e9_0:=e9_0.symm;subst e9_0;subst e9_2)
    rw [List.length_map,S.ht.length,List.take_length] at hts
    iterate 3 k_extra "w"
    refine trips_eq_nil (ts:=ts) (by k_asm) (by k_mem) (hts.sub fun p hp=>by k_mem) (by k_mem) (fun l' h=>Rl.ok l' (List.mem_filter.mp h).1) (by ktr_units) ?_
    k_extra "w"
    cases hq:(links.filter fun l'=>decide (pr l'=pr l)).isEmpty with
    | false =>
     iterate 4 k_extra "w"
     exact ret _ _ _ _ _ _ _ _ _ rfl G (by k_asm) (by k_asm) (S.sub fun p hp=>by k_mem) Rl rfl ⟨rfl,⟨_,rfl⟩,rfl,rfl⟩ ⟨_,rfl⟩ (.weak (.sub fun p hp=>by k_mem) fun _ h=>.inl h)
    | true =>
     have hno:pr l ∉ links.map pr:=filter_pr_nil (List.isEmpty_iff.mp hq)
     iterate 26 k_extra "w"
     refine dm_add (D:=D) rfl cov Rl.fn l.1 l.2.1 l.2.2 ta tb tc hl.1 hl.2.1 hl.2.2 (by k_asm) (by k_asm) (by k_asm) (by k_asm) (by k_asm) rfl (by ktr_room) (by ktr_units) (S.M.sub fun p hp=>by k_mem) (Rl.ls_len _) (fun q hq=>⟨fun h=>?_,Nat.le_trans (Rl.rm_len S.M hq) (by decide)⟩) ?_
     ·(refine e_EA (mem_ways.mp ((Rl.rms q hq _).mp h)) ?_;intro p hp _)
      exact hno (List.mem_map.mpr ⟨_,hp,rfl⟩)
     intro h8 tk8 news8 D8 F8 N8 M8 P8 x8 f8 v8 hls8 hrm8
     have Rl8:=Rl.add hl.1 hl.2.1 hl.2.2 hno S.few f8 hls8 hrm8
     have S8:=(S.sub fun p hp=>by k_mem).dm M8 P8 x8
     (refine e_A (stp_not (a:=cL) (o:=oL) P8 (by k_mem) (S.off cL (.inr (.inl rfl)))) ?_;intro mL8 nL8)
     (refine e_A (stp_not (a:=lT) P8 (by k_mem:(lT,tripO l.1 l.2.1 l.2.2 ta tb tc 0)∈_) hlo) ?_;intro mT8 nT8)
     have hlk8:=S8.olk
     iterate 9 k_extra "w"
     refine append_upd (its:=(tups.map Value.ref).toArray) (n:=kl) (by k_asm) (by k_asm) (by k_mem) ?_ ?_
     ·intro h9 F9 N9
      have S9:=S8.app N8 (l:=l) mT8 nT8 h4 hly (kl + 1)
      have e9:listOf ((tups.map Value.ref).toArray.push (.ref lT)) (kl + 1)=refsO (tups++[lT]) (kl + 1):=by
       unfold refsO;(refine rwl (List.push_toArray ..) ?_;refine rwl (List.map_append ..) ?_);rfl
      rw [e9] at N9
      iterate 2 k_extra "w"
      refine ret _ _ _ _ _ _ _ _ _ rfl G (by k_asm) (by k_asm) S9 Rl8 v8 ⟨rfl,⟨_,rfl⟩,rfl,rfl⟩ ⟨_,rfl⟩ ⟨fun p hp hn=>mem_upd (P8.keep p (by k_mem) fun h=>hn (.inl (.inl h))) fun e=>hn (.inl (.inr (.inr (.inr (.inr (.inr (.inl e))))))),fun a ha=>?_⟩
      rcases ha with h | h | h | h | h | h | h | h
      ·exact (P8.new a h).imp (fun h=>.inl (.inl h)) fun h p hp=>h p (by k_mem)
      ·exact .inl (.inl (.inr (.inl h)))
      ·exact .inl (.inl (.inr (.inr (.inl h))))
      ·exact .inl (.inl (.inr (.inr (.inr (.inl h)))))
      ·exact .inl (.inl (.inr (.inr (.inr (.inr (.inl h))))))
      ·exact .inl (.inl (.inr (.inr (.inr (.inr (.inr (.inl h)))))))
      ·rcases List.mem_append.mp h with h | h
       ·exact .inl (.inl (.inr (.inr (.inr (.inr (.inr (.inr (.inl h))))))))
       ·exact .inl (.inr (List.mem_singleton.mp h))
      ·exact .inl (.inl (.inr (.inr (.inr (.inr (.inr (.inr (.inr h))))))))
     ·(refine rwl (List.size_toArray ..) ?_;refine rwl (List.length_map ..) ?_;refine rwl (S.ht.length ..) ?_;refine rwl (sizeLine_eq ..) ?_);have:=S.few;k_extra "ar"
 ·refine rwl (decide_eq_false (by omega) ..) ?_
  iterate 5 k_extra "w"
  exact ret _ _ _ _ _ _ _ _ _ rfl G (by k_asm) (by k_asm) S Rl rfl ⟨rfl,⟨_,rfl⟩,rfl,rfl⟩ ⟨_,rfl⟩ (.weak .refl fun _ h=>.inl h)
end
section
variable {prog:Program} {w:World} {A:Around} {E:Value→Shared→Prop} {s:Shared} {h₀:Heap} {L:Addr} {m:Str→Option Value} {env:Env}
def OverGA (prog:Program) (w:World) (A:Around) (h₀:Heap) (L:Addr) (m:Str→Option Value) (env:Env) (scope:Scope) (cl:List (Str×Addr)) (y:Str) (target c elt:Expr) (Q:Flow→Shared→Prop) (B:Value→(Str→Option Value)→Prop) (pz:Nat→Bool) (J:Nat→List Value→Led→Prop) (xv:Value) (s₁:Shared):Prop:=∀ Zp:Prop,(∀ (ax:Addr) (its:List Value) (k₀:Nat) (news:Led),(xv=.ref ax)→(Fr h₀ L s₁.heap m)→(News h₀ L s₁.heap news)→((ax,listOf its.toArray k₀)∈news)→(its.length≤1000)→(J 0 [] news)→((∀ i ys nw,J i ys nw→ys.length≤i))→((∀ v∈its,∀ C m₁ (s:Shared) (Q:Unit→Shared→Prop) (E':Value→Shared→Prop),s.heap.Ns C m₁→∀ nw,News h₀ L s.heap nw→(ax,listOf its.toArray k₀)∈nw∧(∀ p∈news,p∈nw)→(∀ h' tk m₂,h'.Ns C m₂→B v m₂→(∀ b o,b≠C→s.heap.get? b=some o→h'.get? b=some o)→Q () { s with heap:=h',toks:=tk })→wpAny (model prog w) A (assign target (compEnvC scope cl C env) v) Q E' s))→((∀ i k,its[i]?=some k→∀ I oI C oC D ys nw m₂ h tk (E':Value→Shared→Prop),J i ys nw→((ax,listOf its.toArray k₀)∈nw∧(∀ p∈news,p∈nw))→NsObj oC m₂→B k m₂→Fr h₀ L h m→News h₀ L h ((I,oI)::(C,oC)::(D,lst ys)::nw)→wpAny (model prog w) A (isTrue c (compEnvC scope cl C env) (eval c (compEnvC scope cl C env))) (fun ok s'=>ok=pz i∧∃ h' tk',s'={ s₁ with heap:=h',toks:=tk' }∧Fr h₀ L h' m∧News h₀ L h' ((I,oI)::(C,oC)::(D,lst ys)::nw)) E' { s₁ with heap:=h,toks:=tk }))→((∀ i k ys nw,its[i]?=some k→pz i=false→J i ys nw→J (i + 1) ys nw))→((∀ i k,its[i]?=some k→pz i=true→∀ I oI C oC D ys nw m₂ h tk (E':Value→Shared→Prop),J i ys nw→((ax,listOf its.toArray k₀)∈nw∧(∀ p∈news,p∈nw))→NsObj oC m₂→B k m₂→Fr h₀ L h m→News h₀ L h ((I,oI)::(C,oC)::(D,lst ys)::nw)→(∀ p∈nw,p.1≠I∧p.1≠C∧p.1≠D)→I≠C→I≠D→C≠D→wpAny (model prog w) A (eval elt (compEnvC scope cl C env)) (fun y s'=>∃ h' tk' nw',s'={ s₁ with heap:=h',toks:=tk' }∧Fr h₀ L h' m∧News h₀ L h' ((I,oI)::(C,oC)::(D,lst ys)::nw')∧(∀ p∈nw',p.1≠I∧p.1≠C∧p.1≠D)∧((ax,listOf its.toArray k₀)∈nw'∧(∀ p∈news,p∈nw'))∧J (i + 1) (ys++[y]) nw') E' { s₁ with heap:=h,toks:=tk }))→(∀ D h tk ys nw,J its.length ys nw→Fr h₀ L h (fun z=>if z=y then some (.ref D) else m z)→News h₀ L h ((D,lst ys)::nw)→(∀ p∈nw,p.1≠D)→Q .next { s₁ with heap:=h,toks:=tk })→Zp)→Zp
theorem OverGA.mk {prog:Program} {w:World} {A:Around} {h₀:Heap} {L:Addr} {m:Str→Option Value} {env:Env} {scope:Scope} {cl:List (Str×Addr)} {y:Str} {target c elt:Expr} {Q:Flow→Shared→Prop} {B:Value→(Str→Option Value)→Prop} {pz:Nat→Bool} {J:Nat→List Value→Led→Prop} {xv:Value} {s₁:Shared} (ax:Addr) (its:List Value) (k₀:Nat) (news:Led) (f0:xv=.ref ax) (f1:Fr h₀ L s₁.heap m) (f2:News h₀ L s₁.heap news) (f3:(ax,listOf its.toArray k₀)∈news) (f4:its.length≤1000) (f5:J 0 [] news) (f6:(∀ i ys nw,J i ys nw→ys.length≤i)) (f7:(∀ v∈its,∀ C m₁ (s:Shared) (Q:Unit→Shared→Prop) (E':Value→Shared→Prop),s.heap.Ns C m₁→∀ nw,News h₀ L s.heap nw→(ax,listOf its.toArray k₀)∈nw∧(∀ p∈news,p∈nw)→(∀ h' tk m₂,h'.Ns C m₂→B v m₂→(∀ b o,b≠C→s.heap.get? b=some o→h'.get? b=some o)→Q () { s with heap:=h',toks:=tk })→wpAny (model prog w) A (assign target (compEnvC scope cl C env) v) Q E' s)) (f8:(∀ i k,its[i]?=some k→∀ I oI C oC D ys nw m₂ h tk (E':Value→Shared→Prop),J i ys nw→((ax,listOf its.toArray k₀)∈nw∧(∀ p∈news,p∈nw))→NsObj oC m₂→B k m₂→Fr h₀ L h m→News h₀ L h ((I,oI)::(C,oC)::(D,lst ys)::nw)→wpAny (model prog w) A (isTrue c (compEnvC scope cl C env) (eval c (compEnvC scope cl C env))) (fun ok s'=>ok=pz i∧∃ h' tk',s'={ s₁ with heap:=h',toks:=tk' }∧Fr h₀ L h' m∧News h₀ L h' ((I,oI)::(C,oC)::(D,lst ys)::nw)) E' { s₁ with heap:=h,toks:=tk })) (f9:(∀ i k ys nw,its[i]?=some k→pz i=false→J i ys nw→J (i + 1) ys nw)) (f10:(∀ i k,its[i]?=some k→pz i=true→∀ I oI C oC D ys nw m₂ h tk (E':Value→Shared→Prop),J i ys nw→((ax,listOf its.toArray k₀)∈nw∧(∀ p∈news,p∈nw))→NsObj oC m₂→B k m₂→Fr h₀ L h m→News h₀ L h ((I,oI)::(C,oC)::(D,lst ys)::nw)→(∀ p∈nw,p.1≠I∧p.1≠C∧p.1≠D)→I≠C→I≠D→C≠D→wpAny (model prog w) A (eval elt (compEnvC scope cl C env)) (fun y s'=>∃ h' tk' nw',s'={ s₁ with heap:=h',toks:=tk' }∧Fr h₀ L h' m∧News h₀ L h' ((I,oI)::(C,oC)::(D,lst ys)::nw')∧(∀ p∈nw',p.1≠I∧p.1≠C∧p.1≠D)∧((ax,listOf its.toArray k₀)∈nw'∧(∀ p∈news,p∈nw'))∧J (i + 1) (ys++[y]) nw') E' { s₁ with heap:=h,toks:=tk })) (f11:∀ D h tk ys nw,J its.length ys nw→Fr h₀ L h (fun z=>if z=y then some (.ref D) else m z)→News h₀ L h ((D,lst ys)::nw)→(∀ p∈nw,p.1≠D)→Q .next { s₁ with heap:=h,toks:=tk }):OverGA prog w A h₀ L m env scope cl y target c elt Q B pz J xv s₁:=fun _ k=>k ax its k₀ news f0 f1 f2 f3 f4 f5 f6 f7 f8 f9 f10 f11
theorem comp_overGA {y:Str} {py spos:Pos} {target c elt iter:Expr} {scope:Scope} {cl:List (Str×Addr)} {pos:Pos} {Q:Flow→Shared→Prop} (B:Value→(Str→Option Value)→Prop) (pz:Nat→Bool) (J:Nat→List Value→Led→Prop) (_F₀:Fr h₀ L s.heap m) (hh:A.handled=none)
  (hgo:∀ I l i v (s:Shared) (Q:Unit→Shared→Prop) (E:Value→Shared→Prop),s.heap.IsListIter I l i→Q () s→wpAny (model prog w) A (letOwnedTupleGo target (.ref I) v) Q E s)
  (h:wpAny (model prog w) A (eval iter env) (OverGA prog w A h₀ L m env scope cl y target c elt Q B pz J) E s)
  (hLe:env.locals=L) (hsw:swapsWith (.ListComp elt [⟨target,iter,[c],0⟩] scope pos) (some (.Name y py)) spos.line env=pure true)
  (hclos:closureFor scope env=pure cl) (hcell:∀ y∈scope.names,y.2≠.cell) (hkind:scope.kind=.function)
  (hnames:∀ y∈scope.names,y.2=.local→scope.names.lookup y.1=some .local)
  (hy:env.kindOf y=some .local) (hp:(env.scope.kind == .class || (env.scope.kind == .module && env.locals != env.globals))=false)
  (hs:∀ x,foldedSetIterable iter env x=pure x) :
  wpAny (model prog w) A (exec (.Assign [.Name y py] (.ListComp elt [⟨target,iter,[c],0⟩] scope pos) spos) env) Q E s:=by
 subst hLe
 refine rwl (exec_Assign_Name_used _ _ _ _ hsw ..) ?_
 refine wpAny_bind (wpAny_standAt (wpAny_bind ?_))
 show wpAny _ A (do let _ ← comprehension (.ListComp elt [⟨target,iter,[c],0⟩] scope pos) scope env _ (newList []) false (eval iter env) (some (assign (.Name y py) env))) _ _ s
 refine wpAny_bind (wpAny_mono (wpAny_comprehension_free (use:=some (assign (.Name y py) env)) (Q:=fun _ s'=>Q .next s') rfl hs hclos hkind hnames
  (wpAny_mono h (fun xv s₁ h₁=>?_) fun _ _ e=>e)) (fun _ s' hq=>wpAny_pure (wpAny_pure hq)) fun _ _ e=>e)
 (refine h₁ _ ?_;clear h₁;intro ax its k₀ news e9_4 F N hm hl hJ0 hlenJ bind test skip elem fin;subst e9_4)
 have hls:s₁.heap.IsList ax its.toArray:=News.isList N hm
 have hlt:ax < s₁.heap.objs.size:=by (refine e_EA (hls) ?_;clear hls;intro _ e _);exact Heap.lt_size e
 refine wpAny_pyIter_list hls ?_
 have up:∀ b o,s₁.heap.get? b=some o→(s₁.heap.push { cls:=.type "list_iterator",data:=.fields #[.ref ax,.int 0 0] }).get? b=some o:=fun b o e=>Heap.get?_push_of_some _ e
 have W:=Walks.list (prog:=prog) (w:=w) hh s₁.heap.objs.size ax (Nat.ne_of_lt hlt) its.toArray
 rw [List.size_toArray] at W
 refine comp_blockG (Rep:=fun k v=>v=k) (B:=B) (ks:=its) (J:=J) (pz:=pz) (Src:=fun nw=>(ax,listOf its.toArray k₀)∈nw∧∀ p∈news,p∈nw) W (fun i v s Q E st q=>hgo _ _ _ v s Q E st.1 q) (fun i v e=>⟨v,by simpa using e,rfl⟩) (by refine rwl (sizeLine_eq ..) ?_;k_extra "ar") (fun i h st=>by (refine e_EA (st.1) ?_;intro o e _);exact ⟨o,e⟩) ?_ hcell hkind
  ?_ ⟨⟨_,Heap.get?_push_size _ rfl,rfl,rfl⟩,hls.push _⟩ (fun b hb=>?_) (F.keeps up) (N.grown up) (Nat.ne_of_lt F.ns.lt) (next_is_new F) (fun p hp=>Nat.ne_of_lt (Heap.lt_size (N p hp).1)) ⟨hm,fun _ h=>h⟩ hJ0 hlenJ test skip elem ?_
 ·exact fun i h h' o nw st e e' k N' hs=>⟨by (refine e_EA (st.1) ?_;intro o' q r);cases e.symm.trans q;exact ⟨_,e',r⟩,News.isList N' hs.1⟩
 ·rintro k hk v C m₁ s Q E' rfl hn nw N' hs hq
  exact bind v hk C m₁ s Q E' hn nw N' hs hq
 ·show b < (s₁.heap.push _).objs.size
  refine rwl (Heap.size_push ..) ?_
  rcases List.mem_cons.mp hb with rfl | hb
  ·exact Nat.lt_succ_self _
  ·refine rwl (List.mem_singleton.mp hb ..) ?_;exact Nat.lt_succ_of_lt hlt
 ·intro D C h tk m' ys nw hJ' F' N' oD hn hC₀ hD₀ hCL hDL hCD offC
  show wpAny _ A (assign (.Name y py) env (.ref D)) _ _ _
  refine wpAny_assign_Name (wpAny_storeName_local hy F'.ns (fun h₂ hn₂ hs₂=>?_) hp)
  have hL₀:h₀.get? env.locals=none:=Heap.get?_none_of_le F'.above
  have F₂:Fr h₀ env.locals h₂ (fun z=>if z=y then some (.ref D) else m z):=⟨hn₂,fun b o e=>hs₂.extBut b o (fun q=>by rw [q,hL₀] at e;cases e) (F'.keep b o e),F'.above⟩
  refine ⟨m',hn.sameBut hs₂ hCL,fun h'' hs''=>fin D h'' _ ys nw hJ' (F₂.change hs'' hCL hC₀) (fun p hp=>?_) oD⟩
  have z:h₂.get? p.1=some p.2:=hs₂.extBut _ _ (N' p hp).2.1 (N' p hp).1
  refine ⟨hs''.extBut _ _ ?_ z,(N' p hp).2⟩
  rcases List.mem_cons.mp hp with rfl | hp
  ·exact Ne.symm hCD
  ·exact offC p hp
end
section
variable {prog:Program} {w:World} {p:Program} {loose:List Str} {mean:ExcName→Option Value} {mg mb:Str→Option Value}
 {dp un:Nat} {gd:Option (List Code)} {cn:Str} {cs:Scope} {a:Addr} {ccd:Value} {cl:List (Str×Addr)} {outer:List Env} {A₀:Around} {base h₀:Heap} {L:Addr} {m:Str→Option Value} {s:Shared} {Q E:Value→Shared→Prop} {news:Led}

set_option maxHeartbeats 8000000 in
theorem law_del3 (sc:Addr) (g:Lk) {gT cM cL cG cN lk lT:Addr} {D:DmA} {links:List Lk} {cov:Bool} {tups:List Addr} {kl:Nat} (lv k:Nat) (m':Str→Option Value) (QF:Flow→Shared→Prop)
 (B:Below A₀ base [] h₀) (F:Fr h₀ L s.heap m') (X:(Kp w.params).In h₀) (N:News h₀ L s.heap news) (T:Top p loose mean mg mb h₀) (XB:(Kp w.params).In base) (TB:Top p loose mean mg mb base) (C:CodeHd h₀ 744 742) (C2:CodeHd h₀ 908 906) (G:AllBare s.gens)
 (hdp:dp + 200 < recursionLimit) (hun:un + 2000 < cLine) (S:LawSt prog w cM cL cG cN news D links lk tups kl) (Rl:DmRel D (links.filter (· != g)) cov) (hok:∀ l∈links,LkOk l) (hcc:Cells cM cL cG cN) (hm:LawM m' sc lk lv cov) (hk9:∃ t,m' "k"=some (.int (k:Int) t)) (hg:LkOk g) {oG:Obj} {ta tb tc:Tok} {ng:Nat} (hcG:(cG,oG)∈news) (hoG:oG.data=.cell (some (.ref gT))) (hgT:(gT,tripO g.1 g.2.1 g.2.2 ta tb tc ng)∈news)
 (ret:∀ s' m2 news' D' links' cov' lk' tups' kl',s'.os=s.os→AllBare s'.gens→Fr h₀ L s'.heap m2→News h₀ L s'.heap news'→LawSt prog w cM cL cG cN news' D' links' lk' tups' kl'→DmRel D' links' cov'→D'.lvl=D.lvl→LawM m2 sc lk' lv cov'→(∃ t,m2 "k"=some (.int (k:Int) t))→LStp (fun a=>LOwn cM cL cG cN D lk tups a∨a=lT) (LOwn cM cL cG cN D' lk' tups') news news'→QF .next s')
 : wpAny (model prog w) (lawA dp un gd L a ccd cM cL cG cN) (execs (lawDel.drop 2) (lawEnv L a ccd cM cL cG cN)) QF E s:=by
 refine (let A1:=_;(?_:wpAny _ A1 _ _ _ _))
 (refine e_E (hk9) ?_;clear hk9;intro tkk hkk)
 obtain ⟨msc,⟨tl,mlv⟩,mlk,mcov⟩:=hm
 refine (let m1:=_;fun (F1:Fr _ _ _ m1)=>?_) (fr_on hkk (fr_on msc (fr_on mlv (fr_on mlk (fr_on mcov F)))));clear F;rename Fr _ _ _ _=>F
 (first | refine (?_:wpAny _ _ (execs _ (envX _ _ _ _ _ _)) _ _ _) | refine (?_:wpAny _ _ (exec _ (envX _ _ _ _ _ _)) _ _ _))
 conv in lawDel.drop 2=>whnf
 conv in (occs:=*) lawScope=>all_goals whnf
 have holk:=S.olk
 iterate 1 k_extra "w"
 refine comp_overGA (fun v m₂=>∃ T l' ta' tb' tc' n',v=.ref T∧l'∈links∧(T,tripO l'.1 l'.2.1 l'.2.2 ta' tb' tc' n')∈news∧m₂ "one"=some (.ref T))
  (fun i=>match links[i]? with | some l'=>l' != g | none=>false) (fun i ys nw=>nw=news∧∃ ts,ys=ts.map Value.ref∧(∀ t∈ts,t∈tups)∧TripsIn news ts ((links.take i).filter (· != g))) (by k_asm) rfl ?_ ?_ (by rfl) (by with_unfolding_all rfl) (by rfl) (by decide) (by rfl) (by decide) (by rfl) (by rfl) (by intro _;rfl)
 ·exact fun I l i v s Q E hit hQ=>go_list_name hQ
 ·k_extra "w"
  refine .mk lk (tups.map Value.ref) kl _ rfl (by k_asm) (by k_asm) holk (by (refine rwl (List.length_map ..) ?_;refine rwl (S.ht.length ..) ?_);have:=S.few;k_extra "ar") ⟨rfl,[],rfl,(fun _ h=>absurd h List.not_mem_nil),.nil⟩ ?_ ?_ ?_ ?_ ?_ ?_
  ·intro i ys nw e8_3;(refine e_AEA2 (e8_3) ?_;clear e8_3;intro _ ts e9_2 _ hts;subst e9_2)
   (refine rwl (List.length_map ..) ?_;refine rwl (hts.length ..) ?_)
   exact Nat.le_trans (List.length_filter_le _ _) (List.length_take_le _ _)
  ·intro v hv C m₁ s Q E' hn nw Nw hs hq
   (refine e_EA (List.mem_map.mp hv) ?_;intro T hT e9_2;subst e9_2)
   (refine e_EAE4 (S.ht.left hT) ?_;intro l' hl' ta' tb' tc' n' hTm)
   refine wpAny_assign_Name (wpAny_storeName_local (kind_comp (by decide)) hn (fun h₃ hn₃ hs₃=>?_) (ns_par rfl))
   exact hq h₃ _ _ hn₃ ⟨T,l',ta',tb',tc',n',rfl,hl',hTm,if_pos rfl⟩ fun b o hb e=>hs₃.extBut b o hb e
  ·intro i v hv I oI C oC D' ys nw m₂ h tk E' hJ hs hoC hB F'' N''
   (refine e_E6A3 (hB) ?_;clear hB;intro T l' ta' tb' tc' n' e9_6 hl' hTm hone;subst e9_6)
   (refine e_A (hJ) ?_;clear hJ;intro e9_0 hts;replace e9_0:=e9_0.symm;subst e9_0)
   have hsel:(match links[i]? with | some l'=>l' != g | none=>false)=(l' != g):=by
    rw [List.getElem?_map] at hv
    (refine e_EA (Option.map_eq_some_iff.mp hv) ?_;intro T' hT' e)
    cases e
    (refine e_EAE4 (S.ht.nth hT') ?_;intro l2 hl2 ta2 tb2 tc2 n2 hTm2)
    (refine rwl (hl2 ..) ?_;refine rwl (tripO_inj (news_fun N hTm2 hTm) ..) ?_;with_reducible rfl)
   refine rwl (hsel ..) ?_
   try dsimp only
   iterate 3 k_extra "w"
   refine trip_ne (l:=l') (l':=g) N'' (by k_mem) (by k_mem) (hok l' hl') hg (by ktr_units) ?_
   iterate 1 k_extra "w"
   exact i_AE2A2 rfl _ _ rfl (by k_asm) (by k_asm)
  ·intro i v ys nw hv hp e8_6;(refine e_AEA2 (e8_6) ?_;clear e8_6;intro hnw ts hys htu hts)
   rw [List.getElem?_map] at hv
   (refine e_EA (Option.map_eq_some_iff.mp hv) ?_;intro T' hT' e)
   (refine e_EA (S.ht.nth hT') ?_;intro l' hl' _)
   (try dsimp only at hp)
   rw [hl'] at hp
   have hp':(l' != g)=false:=hp
   refine i_AEA2 hnw ts hys htu ?_
   (refine rwl (List.take_add_one ..) ?_;refine rwl (hl' ..) ?_;refine rwl (Option.toList_some ..) ?_;refine rwl (List.filter_append ..) ?_;refine rwl (List.filter_cons_of_neg (by rw [hp'];decide) ..) ?_;refine rwl (List.filter_nil ..) ?_;refine rwl (List.append_nil ..) ?_)
   exact hts
  ·intro i v hv hp I oI C oC D' ys nw m₂ h tk E' hJ hs hoC hB F'' N'' off hIC hID hCD
   (refine e_E6A3 (hB) ?_;clear hB;intro T l' ta' tb' tc' n' e9_6 hl' hTm hone;subst e9_6)
   (refine e_AEA2 (hJ) ?_;clear hJ;intro e9_0 ts e9_2 htu hts;replace e9_0:=e9_0.symm;subst e9_0;subst e9_2)
   rw [List.getElem?_map] at hv
   (refine e_EA (Option.map_eq_some_iff.mp hv) ?_;intro T' hT' e)
   cases e
   (refine e_EAE4 (S.ht.nth hT') ?_;intro l2 hl2 ta2 tb2 tc2 n2 hTm2)
   (try dsimp only at hp)
   rw [hl2] at hp
   have hp':(l2 != g)=true:=hp
   iterate 1 k_extra "w"
   refine i_E3A6EA2 _ _ _ rfl (by k_asm) (by k_asm) off hs rfl (ts++[T]) (by refine rwl (List.map_append ..) ?_;rfl) ?_ ?_
   ·intro t ht
    rcases List.mem_append.mp ht with h | h
    ·exact htu t h
    ·refine rwl (List.mem_singleton.mp h ..) ?_;exact List.mem_of_getElem? hT'
   ·(refine rwl (List.take_add_one ..) ?_;refine rwl (hl2 ..) ?_;refine rwl (Option.toList_some ..) ?_;refine rwl (List.filter_append ..) ?_;refine rwl (List.filter_cons ..) ?_;refine rwl (if_pos (show (fun l'=>l' != g) l2=true from hp') ..) ?_;refine rwl (List.filter_nil ..) ?_)
    exact hts.append (.one ⟨ta2,tb2,tc2,n2,hTm2⟩)
  ·intro Dl h5 tk5 ys nw hJ F5 N5 hD5
   (refine e_AEA2 (hJ) ?_;clear hJ;intro e9_0 ts e9_2 htu hts;replace e9_0:=e9_0.symm;subst e9_0;subst e9_2)
   rw [List.length_map,S.ht.length,List.take_length] at hts
   (try k_extra "w")
   have hDn:¬ D.own Dl:=fun ho=>by (refine e_E (S.M.there Dl ho) ?_;intro o hm);exact hD5 _ hm rfl
   have hto:∀ t∈ts,¬ D.own t:=fun t ht=>S.off t (.inr (.inr (.inr (.inr (.inr (.inl (htu t ht)))))))
   have S5:=(S.sub (nw':=(Dl,lst (ts.map Value.ref))::news) fun p hp=>.tail _ hp).list (lk':=Dl) (tups':=ts) (.head _) hDn (hts.sub fun p hp=>.tail _ hp) hto (Nat.le_trans (List.length_filter_le _ _) S.few) (fun l hl=>S.yz l (List.mem_filter.mp hl).1)
   refine ret _ _ _ _ _ _ _ _ _ rfl G (by k_asm) (by k_asm) S5 Rl rfl ⟨rfl,⟨_,rfl⟩,rfl,rfl⟩ ⟨_,rfl⟩ ⟨fun p hp hn=>.tail _ hp,fun a ha=>?_⟩
   rcases ha with h | h | h | h | h | h | h | h
   ·exact .inl (.inl (.inl h))
   ·exact .inl (.inl (.inr (.inl h)))
   ·exact .inl (.inl (.inr (.inr (.inl h))))
   ·exact .inl (.inl (.inr (.inr (.inr (.inl h)))))
   ·exact .inl (.inl (.inr (.inr (.inr (.inr (.inl h))))))
   ·exact .inr fun p hp e=>hD5 p hp (e.trans h)
   ·exact .inl (.inl (.inr (.inr (.inr (.inr (.inr (.inr (.inl (htu a h)))))))))
   ·exact .inl (.inl (.inr (.inr (.inr (.inr (.inr (.inr (.inr h))))))))
end
theorem filter_ne_self {links:List Lk} {g:Lk} (h:g ∉ links):links.filter (· != g)=links :=
 List.filter_eq_self.mpr fun l hl=>by
  refine rwl (propext (bne_iff_ne ..)) ?_
  exact fun e=>h (e▸hl)
theorem P87 {cM cL cG cN lk lT:Addr} {D D':DmA} {nw nw':Led} {tups:List Addr} (P:Stp D.own D'.own nw nw'):LStp (fun a=>LOwn cM cL cG cN D lk tups a∨a=lT) (fun a=>LOwn cM cL cG cN D' lk tups a∨a=lT) nw nw' :=
 ⟨fun p hp hn=>P.keep p hp fun h=>hn (.inl (.inl h)),fun a ha=>ha.elim (fun h=>h.elim (fun h=>(P.new a h).imp (fun h=>.inl (.inl h)) id) fun h=>.inl (.inl (.inr h))) fun h=>.inl (.inr h)⟩
section
variable {prog:Program} {w:World} {p:Program} {loose:List Str} {mean:ExcName→Option Value} {mg mb:Str→Option Value}
 {dp un:Nat} {gd:Option (List Code)} {cn:Str} {cs:Scope} {a:Addr} {ccd:Value} {cl:List (Str×Addr)} {outer:List Env} {A₀:Around} {base h₀:Heap} {L:Addr} {m:Str→Option Value} {s:Shared} {Q E:Value→Shared→Prop} {news:Led}

set_option maxHeartbeats 8000000 in
theorem law_del2 (sc:Addr) (g:Lk) {gT cM cL cG cN lk lT:Addr} {D:DmA} {links:List Lk} {cov:Bool} {tups:List Addr} {kl:Nat} (lv k:Nat) (m':Str→Option Value) (QF:Flow→Shared→Prop)
 (B:Below A₀ base [] h₀) (F:Fr h₀ L s.heap m') (X:(Kp w.params).In h₀) (N:News h₀ L s.heap news) (T:Top p loose mean mg mb h₀) (XB:(Kp w.params).In base) (TB:Top p loose mean mg mb base) (C:CodeHd h₀ 744 742) (C2:CodeHd h₀ 908 906) (G:AllBare s.gens)
 (hdp:dp + 200 < recursionLimit) (hun:un + 2000 < cLine) (S:LawSt prog w cM cL cG cN news D links lk tups kl) (Rl:DmRel D links cov) (hcc:Cells cM cL cG cN) (hm:LawM m' sc lk lv cov) (hk9:∃ t,m' "k"=some (.int (k:Int) t)) (hg:LkOk g) {oG:Obj} {ta tb tc:Tok} {ng:Nat} (hcG:(cG,oG)∈news) (hoG:oG.data=.cell (some (.ref gT))) (hgT:(gT,tripO g.1 g.2.1 g.2.2 ta tb tc ng)∈news) (hgo:¬ D.own gT)
 (ret:∀ s' m2 news' D' links' cov' lk' tups' kl',s'.os=s.os→AllBare s'.gens→Fr h₀ L s'.heap m2→News h₀ L s'.heap news'→LawSt prog w cM cL cG cN news' D' links' lk' tups' kl'→DmRel D' links' cov'→D'.lvl=D.lvl→LawM m2 sc lk' lv cov'→(∃ t,m2 "k"=some (.int (k:Int) t))→LStp (fun a=>LOwn cM cL cG cN D lk tups a∨a=lT) (LOwn cM cL cG cN D' lk' tups') news news'→QF .next s')
 : wpAny (model prog w) (lawA dp un gd L a ccd cM cL cG cN) (execs (lawDel.drop 1) (lawEnv L a ccd cM cL cG cN)) QF E s:=by
 refine (let A1:=_;(?_:wpAny _ A1 _ _ _ _))
 (refine e_E (hk9) ?_;clear hk9;intro tkk hkk)
 obtain ⟨msc,⟨tl,mlv⟩,mlk,mcov⟩:=hm
 refine (let m1:=_;fun (F1:Fr _ _ _ m1)=>?_) (fr_on hkk (fr_on msc (fr_on mlv (fr_on mlk (fr_on mcov F)))));clear F;rename Fr _ _ _ _=>F
 (first | refine (?_:wpAny _ _ (execs _ (envX _ _ _ _ _ _)) _ _ _) | refine (?_:wpAny _ _ (exec _ (envX _ _ _ _ _ _)) _ _ _))
 conv in lawDel.drop 1=>whnf
 conv in (occs:=*) lawScope=>all_goals whnf
 (refine e_EA (S.oM) ?_;intro oM hcM hoM)
 have holk:=S.olk
 have hGo:=S.off cG (.inr (.inr (.inl rfl)))
 have hMo:=S.off cM (.inl rfl)
 iterate 11 k_extra "w"
 refine ⟨X.keeps (Fr.keep (by k_asm)),?_⟩
 refine law_taken (D:=D) rfl cov Rl g gT ta tb tc ng hg.1 hg.2.1 hg.2.2 (by k_asm) (by k_asm) (by k_asm) (by k_asm) (by k_asm) rfl XB TB (by ktr_room) (by ktr_units) C G S.M hgT ?_ ?_
 ·intro hin s7 news7 D7 os7 G7 F7 N7 M7 P7 x7 v7 Rl7
  have S7:=S.dm M7 P7 x7
  (refine e_A (stp_not (a:=cG) (o:=oG) P7 hcG hGo) ?_;intro mG7 nG7)
  (refine e_A (stp_not (a:=gT) P7 hgT hgo) ?_;intro mT7 nT7)
  have hlk7:=S7.olk
  iterate 4 k_extra "w"
  refine trips_in (ts:=tups) (k:=kl) (l:=g) (ls:=links) (by k_asm) (by k_mem) S7.ht mT7 Rl.ok hg (by ktr_units) ?_
  refine rwl (decide_eq_true hin ..) ?_
  iterate 7 k_extra "w"
  refine law_del3 (D:=D7) (lT:=lT) sc g lv k _ _ (by k_asm) (by k_asm) (by k_asm) (by k_asm) (by k_asm) XB TB C C2 G7 hdp hun S7 Rl7 Rl.ok hcc ⟨rfl,⟨_,rfl⟩,rfl,rfl⟩ ⟨_,rfl⟩ hg mG7 hoG mT7 ?_
  intro s8 m8 news8 D8 links8 cov8 lk8 tups8 kl8 os8 G8 F8 N8 S8 Rl8 v8 hm8 hk8 P8
  exact ret s8 m8 news8 D8 links8 cov8 lk8 tups8 kl8 (os8.trans os7) G8 F8 N8 S8 Rl8 (v8.trans v7) hm8 hk8 ((P87 P7).trans P8)
 ·intro hnin h7 tk7 t7 news7 D7 F7 N7 M7 P7 x7 v7 Rl7
  have S7:=S.dm M7 P7 x7
  (refine e_A (stp_not (a:=cG) (o:=oG) P7 hcG hGo) ?_;intro mG7 nG7)
  (refine e_A (stp_not (a:=gT) P7 hgT hgo) ?_;intro mT7 nT7)
  have hlk7:=S7.olk
  iterate 4 k_extra "w"
  refine trips_in (ts:=tups) (k:=kl) (l:=g) (ls:=links) (by k_asm) (by k_mem) S7.ht mT7 Rl.ok hg (by ktr_units) ?_
  refine rwl (decide_eq_false hnin ..) ?_
  iterate 7 k_extra "w"
  refine law_del3 (D:=D7) (lT:=lT) sc g lv k _ _ (by k_asm) (by k_asm) (by k_asm) (by k_asm) (by k_asm) XB TB C C2 G hdp hun S7 (by refine rwl (filter_ne_self hnin ..) ?_;exact Rl7) Rl.ok hcc ⟨rfl,⟨_,rfl⟩,rfl,rfl⟩ ⟨_,rfl⟩ hg mG7 hoG mT7 ?_
  intro s8 m8 news8 D8 links8 cov8 lk8 tups8 kl8 os8 G8 F8 N8 S8 Rl8 v8 hm8 hk8 P8
  exact ret s8 m8 news8 D8 links8 cov8 lk8 tups8 kl8 os8 G8 F8 N8 S8 Rl8 (v8.trans v7) hm8 hk8 ((P87 P7).trans P8)
end
section
variable {prog:Program} {w:World} {A:Around} {E:Value→Shared→Prop} {s:Shared} {h₀:Heap} {L:Addr} {news:Led}
theorem trip_pick {value slice:Expr} {q:Addr} {ts:List Addr} {kq:Nat} {ls:List Lk} {j:Int} {u:Tok} {Q:Value→Shared→Prop} (N:News h₀ L s.heap news) (hq:(q,refsO ts kq)∈news) {n1:Led} (ht:TripsIn n1 ts ls) (h0:0≤j) (h1:j < (ls.length:Int)) (hl:ls.length≤100)
  (h:∀ T l ta tb tc n,T∈ts→l∈ls→(T,tripO l.1 l.2.1 l.2.2 ta tb tc n)∈n1→Q (.ref T) s)
  (he:subscripted slice false (.ref q) (.int j u)=operate [.ref q,.int j u] (getItem (.ref q) (.int j u)):=by with_unfolding_all rfl) (hg:∀ r,letTemporaryGo value (.ref q) r=pure ():=by intro _;with_unfolding_all rfl) :
  wpAny (model prog w) A (subscriptTail value slice (.ref q) (.int j u)) Q E s:=by
 have hlen:=ht.length
 have hj:j.toNat < ts.length:=by k_extra "ar"
 have hT:ts[j.toNat]?=some ts[j.toNat]:=List.getElem?_eq_getElem hj
 (refine e_EAE4 (ht.nth hT) ?_;intro l hl2 ta tb tc n hm)
 refine item_list (News.isList N hq) h0 (by k_extra "ar") (x:=.ref ts[j.toNat]) ?_ (h _ l ta tb tc n (List.mem_of_getElem? hT) (List.mem_of_getElem? hl2) hm) he hg
 (refine rwl (List.getElem?_toArray ..) ?_;refine rwl (List.getElem?_map ..) ?_;refine rwl (hT ..) ?_);rfl
end
section
variable {prog:Program} {w:World} {p:Program} {loose:List Str} {mean:ExcName→Option Value} {mg mb:Str→Option Value}
 {dp un:Nat} {gd:Option (List Code)} {cn:Str} {cs:Scope} {a:Addr} {ccd:Value} {cl:List (Str×Addr)} {outer:List Env} {A₀:Around} {base h₀:Heap} {L:Addr} {m:Str→Option Value} {s:Shared} {Q E:Value→Shared→Prop} {news:Led}

set_option maxHeartbeats 8000000 in
theorem law_del (kd pk:Int) (h6:¬ kd < 6) (h9:kd < 9) (sc:Addr) {cM cL cG cN lk lT:Addr} {D:DmA} {links:List Lk} {cov:Bool} {tups:List Addr} {kl:Nat} (lv k:Nat) (m':Str→Option Value) (QF:Flow→Shared→Prop)
 (B:Below A₀ base [] h₀) (F:Fr h₀ L s.heap m') (X:(Kp w.params).In h₀) (N:News h₀ L s.heap news) (T:Top p loose mean mg mb h₀) (XB:(Kp w.params).In base) (TB:Top p loose mean mg mb base) (C:CodeHd h₀ 744 742) (C2:CodeHd h₀ 908 906) (G:AllBare s.gens)
 (hdp:dp + 200 < recursionLimit) (hun:un + 2000 < cLine) (S:LawSt prog w cM cL cG cN news D links lk tups kl) (Rl:DmRel D links cov) (hcc:Cells cM cL cG cN) (hm:LawM m' sc lk lv cov) (hk9:∃ t,m' "k"=some (.int (k:Int) t)) (hkd:∃ t,m' "kind"=some (.int kd t)) (hpk:∃ t,m' "pick"=some (.int pk t)) (l:Lk) (hl:LkOk l) {oL:Obj} {ta tb tc:Tok} (hcL:(cL,oL)∈news) (hoL:oL.data=.cell (some (.ref lT))) (hlT:(lT,tripO l.1 l.2.1 l.2.2 ta tb tc 0)∈news) (hlo:¬ D.own lT)
 (ret:∀ s' m2 news' D' links' cov' lk' tups' kl',s'.os=s.os→AllBare s'.gens→Fr h₀ L s'.heap m2→News h₀ L s'.heap news'→LawSt prog w cM cL cG cN news' D' links' lk' tups' kl'→DmRel D' links' cov'→D'.lvl=D.lvl→LawM m2 sc lk' lv cov'→(∃ t,m2 "k"=some (.int (k:Int) t))→LStp (fun a=>LOwn cM cL cG cN D lk tups a∨a=lT) (LOwn cM cL cG cN D' lk' tups') news news'→QF .next s')
 : wpAny (model prog w) (lawA dp un gd L a ccd cM cL cG cN) (exec (lawTurn 4) (lawEnv L a ccd cM cL cG cN)) QF E s:=by
 refine (let A1:=_;(?_:wpAny _ A1 _ _ _ _))
 (refine e_E (hkd) ?_;clear hkd;intro t1 hkd)
 (refine e_E (hpk) ?_;clear hpk;intro t2 hpk)
 (refine e_E (hk9) ?_;clear hk9;intro tkk hkk)
 obtain ⟨msc,⟨tl,mlv⟩,mlk,mcov⟩:=hm
 refine (let m1:=_;fun (F1:Fr _ _ _ m1)=>?_) (fr_on hkd (fr_on hpk (fr_on hkk (fr_on msc (fr_on mlv (fr_on mlk (fr_on mcov F)))))));clear F;rename Fr _ _ _ _=>F
 (first | refine (?_:wpAny _ _ (execs _ (envX _ _ _ _ _ _)) _ _ _) | refine (?_:wpAny _ _ (exec _ (envX _ _ _ _ _ _)) _ _ _))
 conv in lawTurn 4=>whnf
 conv in (occs:=*) lawScope=>all_goals whnf
 (refine e_EA (S.oM) ?_;intro oM hcM hoM)
 (refine e_E2A (S.oG) ?_;intro oG vG hcG hoG)
 have holk:=S.olk
 have hx:=S.M.x
 have hd:=S.M.d
 have dG:∀ {T:Addr} {a b c:Str} {x y z:Tok} {n:Nat},(T,tripO a b c x y z n)∈news→T≠cG:=fun h=>news_ne N h hcG fun e=>by
  rw [← e] at hoG
  nomatch hoG
 have SG:∀ {q:Addr} {o oG2:Obj} {v:Value} {h1:Heap},News h₀ L h1 ((q,o)::news)→oG2.data=.cell (some v)→LawSt prog w cM cL cG cN (upd cG oG2 ((q,o)::news)) D links lk tups kl:=fun N1 hd2=>(S.sub fun p hp=>.tail _ hp).cell N1 (.inr (.inl rfl)) hcc.mg hd2
 have PG:∀ {q:Addr} {o oG2:Obj},LStp (fun a=>LOwn cM cL cG cN D lk tups a∨a=lT) (fun a=>LOwn cM cL cG cN D lk tups a∨a=lT) news (upd cG oG2 ((q,o)::news)):=⟨fun p hp hn=>mem_upd (.tail _ hp) fun e=>hn (.inl (.inr (.inr (.inr (.inl e))))),fun a ha=>.inl ha⟩
 have q6:decide (kd < 6)=false:=decide_eq_false h6
 have q9:decide (kd < 9)=true:=decide_eq_true h9
 iterate 22 (first | rw [q6] | rw [q9] | k_extra "w")
 iterate 4 k_extra "w"
 refine trips_ne_nil (ls:=links) (ts:=tups) (k:=kl) (by k_asm) (by k_mem) (S.ht.sub fun p hp=>by k_mem) (by k_mem) Rl.ok (by ktr_units) ?_
 cases hz:links.isEmpty with
 | true =>
  iterate 4 k_extra "w"
  refine store_cell (by k_asm) (by k_asm) rfl rfl rfl (c:=cG) (oc:=oG) (by k_mem) hoG ?_
  intro h10 oG2 hoG2 F10 N10
  refine law_del2 (D:=D) (lT:=lT) sc l lv k _ _ (by k_asm) F10 (by k_asm) N10 (by k_asm) XB TB C C2 G hdp hun (SG (by k_asm) hoG2) Rl hcc ⟨rfl,⟨_,rfl⟩,rfl,rfl⟩ ⟨_,rfl⟩ hl mem_upd_self hoG2 (mem_upd (.tail _ hlT) (dG hlT)) hlo ?_
  intro s8 m8 news8 D8 links8 cov8 lk8 tups8 kl8 os8 G8 F8 N8 S8 Rl8 v8 hm8 hk8 P8
  k_extra "w"
  exact ret s8 m8 news8 D8 links8 cov8 lk8 tups8 kl8 os8 G8 F8 N8 S8 Rl8 v8 hm8 hk8 (PG.trans P8)
 | false =>
  by_cases h8:kd < 8
  ·have q8:decide (kd < 8)=true:=decide_eq_true h8
   have hlen:=S.ht.length
   have h0:links.length≠0:=fun h=>by rw [List.length_eq_zero_iff.mp h] at hz;nomatch hz
   have hz2:((tups.map Value.ref).toArray.size:Int)≠0:=by rw [List.size_toArray,List.length_map,hlen];omega
   iterate 22 (first | rw [q8] | k_extra "w")
   refine len_list (News.isList (by k_asm) (.tail _ holk)) (by rw [List.size_toArray,List.length_map,hlen];have:=S.few;omega) ?_
   have hsz:((tups.map Value.ref).toArray.size:Int)=(links.length:Int):=by rw [List.size_toArray,List.length_map,hlen]
   rw [hsz]
   rw [hsz] at hz2
   iterate 1 k_extra "w"
   refine trip_pick (ts:=tups) (ls:=links) (kq:=kl) (by k_asm) (.tail _ holk) S.ht (Int.fmod_nonneg_of_pos _ (by k_extra "ar")) (Int.fmod_lt_of_pos _ (by k_extra "ar")) (by have:=S.few;k_extra "ar") ?_
   intro gT g ga gb gc ng hgt hgl hgm
   refine store_cell (by k_asm) (by k_asm) rfl rfl rfl (c:=cG) (oc:=oG) (by k_mem) hoG ?_
   intro h10 oG2 hoG2 F10 N10
   refine law_del2 (D:=D) (lT:=lT) sc g lv k _ _ (by k_asm) F10 (by k_asm) N10 (by k_asm) XB TB C C2 G hdp hun (SG (by k_asm) hoG2) Rl hcc ⟨rfl,⟨_,rfl⟩,rfl,rfl⟩ ⟨_,rfl⟩ (Rl.ok g hgl) mem_upd_self hoG2 (mem_upd (.tail _ hgm) (dG hgm)) (S.off gT (.inr (.inr (.inr (.inr (.inr (.inl hgt))))))) ?_
   intro s8 m8 news8 D8 links8 cov8 lk8 tups8 kl8 os8 G8 F8 N8 S8 Rl8 v8 hm8 hk8 P8
   k_extra "w"
   exact ret s8 m8 news8 D8 links8 cov8 lk8 tups8 kl8 os8 G8 F8 N8 S8 Rl8 v8 hm8 hk8 (PG.trans P8)
  ·have q8:decide (kd < 8)=false:=decide_eq_false h8
   iterate 12 (first | rw [q8] | k_extra "w")
   refine store_cell (by k_asm) (by k_asm) rfl rfl rfl (c:=cG) (oc:=oG) (by k_mem) hoG ?_
   intro h10 oG2 hoG2 F10 N10
   refine law_del2 (D:=D) (lT:=lT) sc l lv k _ _ (by k_asm) F10 (by k_asm) N10 (by k_asm) XB TB C C2 G hdp hun (SG (by k_asm) hoG2) Rl hcc ⟨rfl,⟨_,rfl⟩,rfl,rfl⟩ ⟨_,rfl⟩ hl mem_upd_self hoG2 (mem_upd (.tail _ hlT) (dG hlT)) hlo ?_
   intro s8 m8 news8 D8 links8 cov8 lk8 tups8 kl8 os8 G8 F8 N8 S8 Rl8 v8 hm8 hk8 P8
   k_extra "w"
   exact ret s8 m8 news8 D8 links8 cov8 lk8 tups8 kl8 os8 G8 F8 N8 S8 Rl8 v8 hm8 hk8 (PG.trans P8)
end
section
variable {prog:Program} {w:World} {p:Program} {loose:List Str} {mean:ExcName→Option Value} {mg mb:Str→Option Value}
 {dp un:Nat} {gd:Option (List Code)} {cn:Str} {cs:Scope} {a:Addr} {ccd:Value} {cl:List (Str×Addr)} {outer:List Env} {A₀:Around} {base h₀:Heap} {L:Addr} {m:Str→Option Value} {s:Shared} {Q E:Value→Shared→Prop} {news:Led}

set_option maxHeartbeats 8000000 in
theorem law_toggle (kd:Int) (h9:¬ kd < 9) (h11:kd < 11) (sc:Addr) {cM cL cG cN lk lT:Addr} {D:DmA} {links:List Lk} {cov:Bool} {tups:List Addr} {kl:Nat} (lv k:Nat) (m':Str→Option Value) (QF:Flow→Shared→Prop)
 (B:Below A₀ base [] h₀) (F:Fr h₀ L s.heap m') (X:(Kp w.params).In h₀) (N:News h₀ L s.heap news) (T:Top p loose mean mg mb h₀) (XB:(Kp w.params).In base) (TB:Top p loose mean mg mb base) (C:CodeHd h₀ 744 742) (C2:CodeHd h₀ 908 906) (G:AllBare s.gens)
 (hdp:dp + 200 < recursionLimit) (hun:un + 2000 < cLine) (S:LawSt prog w cM cL cG cN news D links lk tups kl) (Rl:DmRel D links cov) (hcc:Cells cM cL cG cN) (hm:LawM m' sc lk lv cov) (hk9:∃ t,m' "k"=some (.int (k:Int) t)) (hkd:∃ t,m' "kind"=some (.int kd t))
 (ret:∀ s' m2 news' D' links' cov' lk' tups' kl',s'.os=s.os→AllBare s'.gens→Fr h₀ L s'.heap m2→News h₀ L s'.heap news'→LawSt prog w cM cL cG cN news' D' links' lk' tups' kl'→DmRel D' links' cov'→D'.lvl=D.lvl→LawM m2 sc lk' lv cov'→(∃ t,m2 "k"=some (.int (k:Int) t))→LStp (fun a=>LOwn cM cL cG cN D lk tups a∨a=lT) (LOwn cM cL cG cN D' lk' tups') news news'→QF .next s')
 : wpAny (model prog w) (lawA dp un gd L a ccd cM cL cG cN) (exec (lawTurn 4) (lawEnv L a ccd cM cL cG cN)) QF E s:=by
 refine (let A1:=_;(?_:wpAny _ A1 _ _ _ _))
 (refine e_E (hkd) ?_;clear hkd;intro t1 hkd)
 (refine e_E (hk9) ?_;clear hk9;intro tkk hkk)
 obtain ⟨msc,⟨tl,mlv⟩,mlk,mcov⟩:=hm
 refine (let m1:=_;fun (F1:Fr _ _ _ m1)=>?_) (fr_on hkd (fr_on hkk (fr_on msc (fr_on mlv (fr_on mlk (fr_on mcov F))))));clear F;rename Fr _ _ _ _=>F
 (first | refine (?_:wpAny _ _ (execs _ (envX _ _ _ _ _ _)) _ _ _) | refine (?_:wpAny _ _ (exec _ (envX _ _ _ _ _ _)) _ _ _))
 conv in lawTurn 4=>whnf
 conv in (occs:=*) lawScope=>all_goals whnf
 (refine e_EA (S.oM) ?_;intro oM hcM hoM)
 have hx:=S.M.x
 have hd:=S.M.d
 have q6:decide (kd < 6)=false:=decide_eq_false (by omega)
 have q9:decide (kd < 9)=false:=decide_eq_false h9
 have q11:decide (kd < 11)=true:=decide_eq_true h11
 iterate 19 (first | rw [q6] | rw [q9] | rw [q11] | k_extra "w")
 cases cov with
 | true =>
  iterate 28 k_extra "w"
  refine dm_set (D:=D) rfl true Rl false .none rfl (by k_asm) (by k_asm) (by k_asm) (by k_asm) (by k_asm) rfl (by ktr_room) (by ktr_units) (S.M.sub fun p hp=>by k_mem) ?_
  intro h8 tk8 news8 D8 F8 N8 M8 P8 x8 v8 Rl8
  have S8:=(S.sub fun p hp=>by k_mem).dm M8 P8 x8
  iterate 3 k_extra "w"
  exact ret _ _ _ _ _ _ _ _ _ rfl G (by k_asm) (by k_asm) S8 Rl8 v8 ⟨rfl,⟨_,rfl⟩,rfl,rfl⟩ ⟨_,rfl⟩ ((LStp.dm P8).weak fun _ h=>.inl h)
 | false =>
  iterate 28 k_extra "w"
  refine dm_set (D:=D) rfl false Rl true (.ref 1177) rfl (by k_asm) (by k_asm) (by k_asm) (by k_asm) (by k_asm) rfl (by ktr_room) (by ktr_units) (S.M.sub fun p hp=>by k_mem) ?_
  intro h8 tk8 news8 D8 F8 N8 M8 P8 x8 v8 Rl8
  have S8:=(S.sub fun p hp=>by k_mem).dm M8 P8 x8
  iterate 3 k_extra "w"
  exact ret _ _ _ _ _ _ _ _ _ rfl G (by k_asm) (by k_asm) S8 Rl8 v8 ⟨rfl,⟨_,rfl⟩,rfl,rfl⟩ ⟨_,rfl⟩ ((LStp.dm P8).weak fun _ h=>.inl h)
end
section
variable {prog:Program} {w:World} {p:Program} {loose:List Str} {mean:ExcName→Option Value} {mg mb:Str→Option Value}
 {dp un:Nat} {gd:Option (List Code)} {cn:Str} {cs:Scope} {a:Addr} {ccd:Value} {cl:List (Str×Addr)} {outer:List Env} {A₀:Around} {base h₀:Heap} {L:Addr} {m:Str→Option Value} {s:Shared} {Q E:Value→Shared→Prop} {news:Led}

set_option maxHeartbeats 8000000 in
theorem law_clear (kd pk:Int) (h11:¬ kd < 11) (sc:Addr) {cM cL cG cN lk lT:Addr} {D:DmA} {links:List Lk} {cov:Bool} {tups:List Addr} {kl:Nat} (lv k:Nat) (m':Str→Option Value) (QF:Flow→Shared→Prop)
 (B:Below A₀ base [] h₀) (F:Fr h₀ L s.heap m') (X:(Kp w.params).In h₀) (N:News h₀ L s.heap news) (T:Top p loose mean mg mb h₀) (XB:(Kp w.params).In base) (TB:Top p loose mean mg mb base) (C:CodeHd h₀ 744 742) (C2:CodeHd h₀ 908 906) (G:AllBare s.gens)
 (hdp:dp + 200 < recursionLimit) (hun:un + 2000 < cLine) (S:LawSt prog w cM cL cG cN news D links lk tups kl) (Rl:DmRel D links cov) (hcc:Cells cM cL cG cN) (hm:LawM m' sc lk lv cov) (hk9:∃ t,m' "k"=some (.int (k:Int) t)) (hkd:∃ t,m' "kind"=some (.int kd t)) (hpk:∃ t,m' "pick"=some (.int pk t))
 (ret:∀ s' m2 news' D' links' cov' lk' tups' kl',s'.os=s.os→AllBare s'.gens→Fr h₀ L s'.heap m2→News h₀ L s'.heap news'→LawSt prog w cM cL cG cN news' D' links' lk' tups' kl'→DmRel D' links' cov'→D'.lvl=D.lvl→LawM m2 sc lk' lv cov'→(∃ t,m2 "k"=some (.int (k:Int) t))→LStp (fun a=>LOwn cM cL cG cN D lk tups a∨a=lT) (LOwn cM cL cG cN D' lk' tups') news news'→QF .next s')
 : wpAny (model prog w) (lawA dp un gd L a ccd cM cL cG cN) (exec (lawTurn 4) (lawEnv L a ccd cM cL cG cN)) QF E s:=by
 refine (let A1:=_;(?_:wpAny _ A1 _ _ _ _))
 (refine e_E (hkd) ?_;clear hkd;intro t1 hkd)
 (refine e_E (hpk) ?_;clear hpk;intro t2 hpk)
 (refine e_E (hk9) ?_;clear hk9;intro tkk hkk)
 obtain ⟨msc,⟨tl,mlv⟩,mlk,mcov⟩:=hm
 refine (let m1:=_;fun (F1:Fr _ _ _ m1)=>?_) (fr_on hkd (fr_on hpk (fr_on hkk (fr_on msc (fr_on mlv (fr_on mlk (fr_on mcov F)))))));clear F;rename Fr _ _ _ _=>F
 (first | refine (?_:wpAny _ _ (execs _ (envX _ _ _ _ _ _)) _ _ _) | refine (?_:wpAny _ _ (exec _ (envX _ _ _ _ _ _)) _ _ _))
 conv in lawTurn 4=>whnf
 conv in (occs:=*) lawScope=>all_goals whnf
 (refine e_EA (S.oM) ?_;intro oM hcM hoM)
 have hx:=S.M.x
 have hd:=S.M.d
 have q6:decide (kd < 6)=false:=decide_eq_false (by omega)
 have q9:decide (kd < 9)=false:=decide_eq_false (by omega)
 have q11:decide (kd < 11)=false:=decide_eq_false h11
 iterate 35 (first | rw [q6] | rw [q9] | rw [q11] | k_extra "w")
 cases hq:(pk.fmod 3 == 2) with
 | true =>
  iterate 7 k_extra "w"
  refine callWith_K0 (K:=Kp w.params) (X.keeps (Fr.keep (by k_asm))) (by k_is) ?_
  refine dm_clear (D:=D) rfl cov Rl (by k_asm) (by k_asm) (by k_asm) (by k_asm) (by k_asm) rfl (by ktr_room) (by ktr_units) (S.M.sub fun p hp=>by k_mem) ?_
  intro h8 tk8 news8 D8 F8 N8 M8 P8 x8 v8 Rl8
  have S8:=(S.sub fun p hp=>by k_mem).dm M8 P8 x8
  iterate 10 k_extra "w"
  rename_i q9 h9 l9 h9b F9 N9
  have hnq:∀ p∈news8,p.1≠q9:=fun p hp=>Nat.ne_of_lt (l9 p hp)
  have S9:=(S8.sub (nw':=(q9,listOf #[] 0)::news8) fun p hp=>.tail _ hp).list (lk':=q9) (tups':=[]) (k':=0) (links':=[]) (.head _) (fun ho=>by (refine e_E (M8.there q9 ho) ?_;intro o hm);exact hnq _ hm rfl) .nil (fun t ht=>absurd ht List.not_mem_nil) (Nat.zero_le _) (fun l hl=>absurd hl List.not_mem_nil)
  refine ret _ _ _ _ _ _ _ _ _ rfl G (by k_asm) (by k_asm) S9 Rl8 v8 ⟨rfl,⟨_,rfl⟩,rfl,rfl⟩ ⟨_,rfl⟩ ⟨fun p hp hn=>.tail _ (P8.keep p (by k_mem) fun h=>hn (.inl (.inl h))),fun a ha=>?_⟩
  rcases ha with h | h | h | h | h | h | h | h
  ·exact (P8.new a h).imp (fun h=>.inl (.inl h)) fun h p hp=>h p (by k_mem)
  ·exact .inl (.inl (.inr (.inl h)))
  ·exact .inl (.inl (.inr (.inr (.inl h))))
  ·exact .inl (.inl (.inr (.inr (.inr (.inl h)))))
  ·exact .inl (.inl (.inr (.inr (.inr (.inr (.inl h))))))
  ·rw [h]
   by_cases hO:(fun a=>LOwn cM cL cG cN D lk tups a∨a=lT) q9
   ·exact .inl hO
   ·exact .inr fun p hp e=>hnq p (P8.keep p (by k_mem) fun h=>hO (.inl (.inl (e▸h)))) e
  ·exact absurd h List.not_mem_nil
  ·exact .inl (.inl (.inr (.inr (.inr (.inr (.inr (.inr (.inr h))))))))
 | false =>
  iterate 6 k_extra "w"
  exact ret _ _ _ _ _ _ _ _ _ rfl G (by k_asm) (by k_asm) S Rl rfl ⟨rfl,⟨_,rfl⟩,rfl,rfl⟩ ⟨_,rfl⟩ (.weak .refl fun _ h=>.inl h)
end
section
variable {prog:Program} {w:World} {A:Around} {E:Value→Shared→Prop} {s:Shared} {h₀:Heap} {L:Addr} {news:Led}
theorem sub_pick {value slice:Expr} {q:Addr} {its:List Value} {ws:List Str} {kq:Nat} {j:Int} {u:Tok} {Q:Value→Shared→Prop} (N:News h₀ L s.heap news) (hq:(q,listOf its.toArray kq)∈news) (hs:StrsAre its ws) (h0:0≤j) (h1:j < ws.length) (hl:ws.length≤100)
  (h:∀ nm t,nm∈ws→Q (.str nm t) s)
  (he:subscripted slice false (.ref q) (.int j u)=operate [.ref q,.int j u] (getItem (.ref q) (.int j u)):=by with_unfolding_all rfl) (hg:∀ r,letTemporaryGo value (.ref q) r=pure ():=by intro _;with_unfolding_all rfl) :
  wpAny (model prog w) A (subscriptTail value slice (.ref q) (.int j u)) Q E s:=by
 have hlen:=strs_len hs
 have hj:j.toNat < its.length:=by k_extra "ar"
 (refine e_E2A (strs_nth hs (List.getElem?_eq_getElem hj)) ?_;intro nm t hv hw)
 refine item_list (News.isList N hq) h0 (by k_extra "ar") (x:=.str nm t) ?_ (h nm t (List.mem_of_getElem? hw)) he hg
 (refine rwl (List.getElem?_toArray ..) ?_;refine rwl (List.getElem?_eq_getElem hj ..) ?_;refine rwl (hv ..) ?_;with_reducible rfl)
end
theorem names4 {n:Str} (h:n∈(["ann","bob","cat","dan"]:List Str)):n∈Names:=List.mem_append_left (["yak","zed"]:List Str) h
theorem not_yak {n:Str} (h:n∈(["ann","bob","cat","dan"]:List Str)):n≠"yak":=fun e=>by rw [e] at h;exact absurd h (by decide)
section
variable {prog:Program} {w:World} {p:Program} {loose:List Str} {mean:ExcName→Option Value} {mg mb:Str→Option Value}
 {dp un:Nat} {gd:Option (List Code)} {cn:Str} {cs:Scope} {a:Addr} {ccd:Value} {cl:List (Str×Addr)} {outer:List Env} {A₀:Around} {base h₀:Heap} {L:Addr} {m:Str→Option Value} {s:Shared} {Q E:Value→Shared→Prop} {news:Led}

theorem law_numberZ (sc:Addr) (vs:List Value) (xs:List Int) (hi:IntsAre vs xs) (hl:vs.length≤63) (pl:Nat) (pz:Int) (hpz:pz=(pl:Int)) (tp:Tok) (hpl:pl≤20) (B:Below A₀ base outer h₀) (F:Fr h₀ L s.heap m) (X:(Kp w.params).In h₀) (N:News h₀ L s.heap news) (T:Top p loose mean mg mb h₀) (hk:cs.kind=.function) (hdp:dp + 1 < recursionLimit) (hun:un + 8 < cLine) (hsc:h₀.IsList sc vs.toArray)
 (ret:∀ h' tk' z t,Fr h₀ L h' m→News h₀ L h' news→Q (.int z t) { s with heap:=h',toks:=tk' })
 : wpAny (model prog w) (ktrTop dp un gd cn cs L a ccd cl outer) (call (.ref 1170) [.ref sc,.int pz tp]) Q E s:=by
 subst hpz
 exact law_number sc vs xs hi hl pl tp hpl B F X N T hk hdp hun hsc fun h' tk' t F' N'=>ret h' tk' _ t F' N'
set_option maxHeartbeats 8000000 in
theorem law_stageA (vs:List Value) (xs:List Int) (hi:IntsAre vs xs) (hl:vs.length≤63) (sc:Addr) {cM cL cG cN lk:Addr} {D:DmA} {links:List Lk} {cov:Bool} {tups:List Addr} {kl:Nat} (lv k:Nat) (m':Str→Option Value) (QF:Flow→Shared→Prop)
 (B:Below A₀ base [] h₀) (F:Fr h₀ L s.heap m') (X:(Kp w.params).In h₀) (N:News h₀ L s.heap news) (T:Top p loose mean mg mb h₀) (XB:(Kp w.params).In base) (TB:Top p loose mean mg mb base) (C:CodeHd h₀ 744 742) (C2:CodeHd h₀ 908 906) (G:AllBare s.gens)
 (hdp:dp + 200 < recursionLimit) (hun:un + 2000 < cLine) (S:LawSt prog w cM cL cG cN news D links lk tups kl) (Rl:DmRel D links cov) (hcc:Cells cM cL cG cN) (hm:LawM m' sc lk lv cov) (hk9:∃ t,m' "k"=some (.int (k:Int) t)) (k0:k < 9) (hsc:h₀.IsList sc vs.toArray)
 (rest:∀ h' tk' m2 news' (kd pk:Int) oL (lT:Addr) (l:Lk) ta tb tc,Fr h₀ L h' m2→News h₀ L h' news'→LawSt prog w cM cL cG cN news' D links lk tups kl→(cL,oL)∈news'→oL.data=.cell (some (.ref lT))→(lT,tripO l.1 l.2.1 l.2.2 ta tb tc 0)∈news'→¬ D.own lT→LkOk l→l.1≠"yak" →
  LStp (LOwn cM cL cG cN D lk tups) (fun a=>LOwn cM cL cG cN D lk tups a∨a=lT) news news'→LawM m2 sc lk lv cov→(∃ t,m2 "k"=some (.int (k:Int) t))→(∃ t,m2 "kind"=some (.int kd t))→(∃ t,m2 "pick"=some (.int pk t)) →
  wpAny (model prog w) (lawA dp un gd L a ccd cM cL cG cN) (execs ((lawFor 4).drop 4) (lawEnv L a ccd cM cL cG cN)) QF E { s with heap:=h',toks:=tk' })
 : wpAny (model prog w) (lawA dp un gd L a ccd cM cL cG cN) (execs (lawFor 4) (lawEnv L a ccd cM cL cG cN)) QF E s:=by
 refine (let A1:=_;(?_:wpAny _ A1 _ _ _ _))
 (refine e_E2A (S.oL) ?_;intro oL vL hcL hoL)
 (refine e_E (hk9) ?_;clear hk9;intro tkk hkk)
 obtain ⟨msc,⟨tl,mlv⟩,mlk,mcov⟩:=hm
 refine (let m1:=_;fun (F1:Fr _ _ _ m1)=>?_) (fr_on hkk (fr_on msc (fr_on mlv (fr_on mlk (fr_on mcov F)))));clear F;rename Fr _ _ _ _=>F
 (first | refine (?_:wpAny _ _ (execs _ (envX _ _ _ _ _ _)) _ _ _) | refine (?_:wpAny _ _ (exec _ (envX _ _ _ _ _ _)) _ _ _))
 conv in lawFor 4=>whnf
 conv in (occs:=*) lawScope=>all_goals whnf
 iterate 15 k_extra "w"
 refine law_numberZ sc vs xs hi hl (1 + k) _ (by push_cast;rfl) _ (by k_extra "ar") (by k_asm) (by k_asm) (by k_asm) (by k_asm) (by k_asm) rfl (by ktr_room) (by ktr_units) hsc ?_
 intro h5 tk5 z t5 F5 N5
 iterate 24 k_extra "w"
 (try refine callWith_K0 (K:=Kp w.params) (X.keeps (Fr.keep (by k_asm))) (by k_is) ?_)
 refine law_names (by k_asm) (by k_asm) (by k_asm) (by k_asm) (by k_asm) rfl (by ktr_room) (by ktr_units) ?_
 intro h6 tk6 q6 k6 u1 u2 u3 u4 F6 N6 l6
 iterate 8 k_extra "w"
 refine sub_pick (its:=[.str "ann" u1,.str "bob" u2,.str "cat" u3,.str "dan" u4]) (ws:=["ann","bob","cat","dan"]) N6 (.head _) (.cons _ _ (.cons _ _ (.cons _ _ (.cons _ _ .nil)))) (Int.fmod_nonneg_of_pos _ (by decide)) (Int.fmod_lt_of_pos _ (by decide)) (by decide) ?_
 intro n1 tn1 hn1
 iterate 4 k_extra "w"
 (try refine callWith_K0 (K:=Kp w.params) (X.keeps (Fr.keep (by k_asm))) (by k_is) ?_)
 refine law_names (by k_asm) (by k_asm) (by k_asm) (by k_asm) (by k_asm) rfl (by ktr_room) (by ktr_units) ?_
 intro h7 tk7 q7 k7 w1 w2 w3 w4 F7 N7 l7
 iterate 8 k_extra "w"
 refine sub_pick (its:=[.str "ann" w1,.str "bob" w2,.str "cat" w3,.str "dan" w4]) (ws:=["ann","bob","cat","dan"]) N7 (.head _) (.cons _ _ (.cons _ _ (.cons _ _ (.cons _ _ .nil)))) (Int.fmod_nonneg_of_pos _ (by decide)) (Int.fmod_lt_of_pos _ (by decide)) (by decide) ?_
 intro n2 tn2 hn2
 iterate 4 k_extra "w"
 (try refine callWith_K0 (K:=Kp w.params) (X.keeps (Fr.keep (by k_asm))) (by k_is) ?_)
 refine law_places (by k_asm) (by k_asm) (by k_asm) (by k_asm) (by k_asm) rfl (by ktr_room) (by ktr_units) ?_
 intro h8 tk8 q8 k8 v1 v2 v3 v4 v5 F8 N8 l8
 iterate 8 k_extra "w"
 refine sub_pick (its:=[.str "a/x" v1,.str "a/y" v2,.str "b/x" v3,.str "a/*" v4,.str "*" v5]) (ws:=["a/x","a/y","b/x","a/*","*"]) N8 (.head _) (.cons _ _ (.cons _ _ (.cons _ _ (.cons _ _ (.cons _ _ .nil))))) (Int.fmod_nonneg_of_pos _ (by decide)) (Int.fmod_lt_of_pos _ (by decide)) (by decide) ?_
 intro pl tpl hpl
 iterate 2 k_extra "w"
 rename_i lT h9 F9 N9 l9
 (refine e_A3 (l9) ?_;clear l9;intro b1 b2 b3 b4)
 refine store_cell (by k_asm) (by k_asm) rfl rfl rfl (c:=cL) (oc:=oL) (by k_mem) hoL ?_
 intro h10 oL2 hoL2 F10 N10
 have hlT:lT≠cL:=Ne.symm (Nat.ne_of_lt (allLt_mem b4 _ hcL))
 have S9:=(S.sub (nw':=_::_::_::_::news) fun p hp=>.tail _ (.tail _ (.tail _ (.tail _ hp)))).cell N9 (.inl rfl) hcc.ml hoL2
 refine rest _ _ _ _ _ _ oL2 lT (n1,n2,pl) tn1 tn2 tpl F10 N10 S9 mem_upd_self hoL2 (mem_upd (.head _) hlT) ?_ ⟨names4 hn1,names4 hn2,hpl⟩ (not_yak hn1) ⟨fun p hp hn=>mem_upd (.tail _ (.tail _ (.tail _ (.tail _ hp)))) fun e=>hn (.inr (.inr (.inl e))),fun a ha=>ha.elim (fun e=>.inl e) fun e=>.inr fun p hp=>by refine rwl (e ..) ?_;exact Nat.ne_of_lt (allLt_mem b4 p hp)⟩ ⟨rfl,⟨_,rfl⟩,rfl,rfl⟩ ⟨_,rfl⟩ ⟨_,rfl⟩ ⟨_,rfl⟩
 intro ho
 (refine e_E (S.M.there lT ho) ?_;intro o hm)
 exact absurd rfl (Nat.ne_of_lt (allLt_mem b4 _ hm))
end
section
variable {prog:Program} {w:World} {p:Program} {loose:List Str} {mean:ExcName→Option Value} {mg mb:Str→Option Value}
 {dp un:Nat} {gd:Option (List Code)} {cn:Str} {cs:Scope} {a:Addr} {ccd:Value} {cl:List (Str×Addr)} {outer:List Env} {A₀:Around} {base h₀:Heap} {L:Addr} {m:Str→Option Value} {s:Shared} {Q E:Value→Shared→Prop} {news:Led}

set_option maxHeartbeats 8000000 in
theorem law_ask (vs:List Value) (xs:List Int) (hi:IntsAre vs xs) (hl:vs.length≤63) (sc:Addr) {cM cL cG cN lk:Addr} {D:DmA} {links:List Lk} {cov:Bool} {tups:List Addr} {kl:Nat} (lv k:Nat) (m':Str→Option Value) (QF:Flow→Shared→Prop)
 (B:Below A₀ base [] h₀) (F:Fr h₀ L s.heap m') (X:(Kp w.params).In h₀) (N:News h₀ L s.heap news) (T:Top p loose mean mg mb h₀) (XB:(Kp w.params).In base) (TB:Top p loose mean mg mb base) (C:CodeHd h₀ 744 742) (C2:CodeHd h₀ 908 906) (G:AllBare s.gens)
 (hdp:dp + 200 < recursionLimit) (hun:un + 2000 < cLine) (S:LawSt prog w cM cL cG cN news D links lk tups kl) (Rl:DmRel D links cov) (hcc:Cells cM cL cG cN) (hm:LawM m' sc lk lv cov) (hk9:∃ t,m' "k"=some (.int (k:Int) t)) (k0:k < 9) (hsc:h₀.IsList sc vs.toArray)
 (ask2:∀ h' tk' m2 news' n1 n2 (pl:Str) oN tn,Fr h₀ L h' m2→News h₀ L h' news'→LawSt prog w cM cL cG cN news' D links lk tups kl→(cN,oN)∈news'→oN.data=.cell (some (.str n1 tn))→n1∈Names→n2∈Names→pl∈Places →
  LStp (LOwn cM cL cG cN D lk tups) (LOwn cM cL cG cN D lk tups) news news'→LawM m2 sc lk lv cov→(∃ t,m2 "k"=some (.int (k:Int) t))→(∃ t,m2 "other"=some (.str n2 t))→(∃ t,m2 "where"=some (.str pl t)) →
  wpAny (model prog w) (lawA dp un gd L a ccd cM cL cG cN) (execs ((lawFor 4).drop 7) (lawEnv L a ccd cM cL cG cN)) QF E { s with heap:=h',toks:=tk' })
 : wpAny (model prog w) (lawA dp un gd L a ccd cM cL cG cN) (execs ((lawFor 4).drop 5) (lawEnv L a ccd cM cL cG cN)) QF E s:=by
 refine (let A1:=_;(?_:wpAny _ A1 _ _ _ _))
 (refine e_E (hk9) ?_;clear hk9;intro tkk hkk)
 obtain ⟨msc,⟨tl,mlv⟩,mlk,mcov⟩:=hm
 refine (let m1:=_;fun (F1:Fr _ _ _ m1)=>?_) (fr_on hkk (fr_on msc (fr_on mlv (fr_on mlk (fr_on mcov F)))));clear F;rename Fr _ _ _ _=>F
 (first | refine (?_:wpAny _ _ (execs _ (envX _ _ _ _ _ _)) _ _ _) | refine (?_:wpAny _ _ (exec _ (envX _ _ _ _ _ _)) _ _ _))
 conv in (lawFor 4).drop 5=>whnf
 conv in (occs:=*) lawScope=>all_goals whnf
 (refine e_EA (S.oM) ?_;intro oM hcM hoM)
 (refine e_E2A (S.oN) ?_;intro oN vN hcN hoN)
 have holk:=S.olk
 have hx:=S.M.x
 have hd:=S.M.d
 iterate 15 k_extra "w"
 refine law_numberZ sc vs xs hi hl (10 + k) _ (by push_cast;rfl) _ (by k_extra "ar") (by k_asm) (by k_asm) (by k_asm) (by k_asm) (by k_asm) rfl (by ktr_room) (by ktr_units) hsc ?_
 intro h5 tk5 z t5 F5 N5
 iterate 10 k_extra "w"
 refine callWith_K0 (K:=Kp w.params) (X.keeps (Fr.keep (by k_asm))) (by k_is) ?_
 refine law_names (by k_asm) (by k_asm) (by k_asm) (by k_asm) (by k_asm) rfl (by ktr_room) (by ktr_units) ?_
 intro h6 tk6 q6 k6 u1 u2 u3 u4 F6 N6 l6
 iterate 5 k_extra "w"
 refine sub_pick (its:=[.str "ann" u1,.str "bob" u2,.str "cat" u3,.str "dan" u4]) (ws:=["ann","bob","cat","dan"]) N6 (.head _) (.cons _ _ (.cons _ _ (.cons _ _ (.cons _ _ .nil)))) (Int.fmod_nonneg_of_pos _ (by decide)) (Int.fmod_lt_of_pos _ (by decide)) (by decide) ?_
 intro n1 tn1 hn1
 iterate 4 k_extra "w"
 refine callWith_K0 (K:=Kp w.params) (X.keeps (Fr.keep (by k_asm))) (by k_is) ?_
 refine law_names (by k_asm) (by k_asm) (by k_asm) (by k_asm) (by k_asm) rfl (by ktr_room) (by ktr_units) ?_
 intro h7 tk7 q7 k7 w1 w2 w3 w4 F7 N7 l7
 iterate 8 k_extra "w"
 refine sub_pick (its:=[.str "ann" w1,.str "bob" w2,.str "cat" w3,.str "dan" w4]) (ws:=["ann","bob","cat","dan"]) N7 (.head _) (.cons _ _ (.cons _ _ (.cons _ _ (.cons _ _ .nil)))) (Int.fmod_nonneg_of_pos _ (by decide)) (Int.fmod_lt_of_pos _ (by decide)) (by decide) ?_
 intro n2 tn2 hn2
 iterate 4 k_extra "w"
 refine callWith_K0 (K:=Kp w.params) (X.keeps (Fr.keep (by k_asm))) (by k_is) ?_
 refine law_places (by k_asm) (by k_asm) (by k_asm) (by k_asm) (by k_asm) rfl (by ktr_room) (by ktr_units) ?_
 intro h8 tk8 q8 k8 v1 v2 v3 v4 v5 F8 N8 l8
 iterate 8 k_extra "w"
 refine sub_pick (its:=[.str "a/x" v1,.str "a/y" v2,.str "b/x" v3,.str "a/*" v4,.str "*" v5]) (ws:=["a/x","a/y","b/x","a/*","*"]) N8 (.head _) (.cons _ _ (.cons _ _ (.cons _ _ (.cons _ _ (.cons _ _ .nil))))) (Int.fmod_nonneg_of_pos _ (by decide)) (Int.fmod_lt_of_pos _ (by decide)) (by decide) ?_
 intro pl tpl hpl
 iterate 5 k_extra "w"
 rename_i dT h9 l9 h9b F9 N9
 refine store_cell (by k_asm) (by k_asm) rfl rfl rfl (c:=cN) (oc:=oN) (by k_mem) hoN ?_
 intro h10 oN2 hoN2 F10 N10
 (refine e_A3 (l9) ?_;clear l9;intro b1 b2 b3 b4)
 have S9:=(S.sub (nw':=_::_::_::_::news) fun p hp=>.tail _ (.tail _ (.tail _ (.tail _ hp)))).cell N9 (.inr (.inr rfl)) hcc.mn hoN2
 have hoM2:=hoM
 iterate 7 k_extra "w"
 refine ask2 _ _ _ _ n1 n2 pl oN2 tn1 (by k_asm) (by k_asm) S9 mem_upd_self hoN2 (names4 hn1) (names4 hn2) hpl ⟨fun p hp hn=>mem_upd (.tail _ (.tail _ (.tail _ (.tail _ hp)))) fun e=>hn (.inr (.inr (.inr (.inr (.inl e))))),fun a ha=>.inl ha⟩ ⟨rfl,⟨_,rfl⟩,rfl,rfl⟩ ⟨_,rfl⟩ ⟨_,rfl⟩ ⟨_,rfl⟩
end
section
variable {prog:Program} {w:World} {p:Program} {loose:List Str} {mean:ExcName→Option Value} {mg mb:Str→Option Value}
 {dp un:Nat} {gd:Option (List Code)} {cn:Str} {cs:Scope} {a:Addr} {ccd:Value} {cl:List (Str×Addr)} {outer:List Env} {A₀:Around} {base h₀:Heap} {L:Addr} {m:Str→Option Value} {s:Shared} {Q E:Value→Shared→Prop} {news:Led}

set_option maxHeartbeats 8000000 in
theorem law_ask2 (sc:Addr) {cM cL cG cN lk:Addr} {D:DmA} {links:List Lk} {cov:Bool} {tups:List Addr} {kl:Nat} (lv k:Nat) (m':Str→Option Value) (QF:Flow→Shared→Prop)
 (B:Below A₀ base [] h₀) (F:Fr h₀ L s.heap m') (X:(Kp w.params).In h₀) (N:News h₀ L s.heap news) (T:Top p loose mean mg mb h₀) (XB:(Kp w.params).In base) (TB:Top p loose mean mg mb base) (C:CodeHd h₀ 744 742) (C2:CodeHd h₀ 908 906) (G:AllBare s.gens)
 (hdp:dp + 200 < recursionLimit) (hun:un + 2000 < cLine) (S:LawSt prog w cM cL cG cN news D links lk tups kl) (Rl:DmRel D links cov) (hcc:Cells cM cL cG cN) (hm:LawM m' sc lk lv cov) (hk9:∃ t,m' "k"=some (.int (k:Int) t)) (hlv:D.lvl=lv) (n1 n2 pl:Str) (hn1:n1∈Names) (hn2:n2∈Names) (hpl:pl∈Places) {oN:Obj} {tn:Tok} (hcN:(cN,oN)∈news) (hoN:oN.data=.cell (some (.str n1 tn))) (hot:∃ t,m' "other"=some (.str n2 t)) (hwh:∃ t,m' "where"=some (.str pl t))
 (ret:∀ s' m2 news' D' links' cov' lk' tups' kl',s'.os=s.os→AllBare s'.gens→Fr h₀ L s'.heap m2→News h₀ L s'.heap news'→LawSt prog w cM cL cG cN news' D' links' lk' tups' kl'→DmRel D' links' cov'→D'.lvl=D.lvl→LawM m2 sc lk' lv cov'→(∃ t,m2 "k"=some (.int (k:Int) t))→LStp (LOwn cM cL cG cN D lk tups) (LOwn cM cL cG cN D' lk' tups') news news'→QF .next s')
 : wpAny (model prog w) (lawA dp un gd L a ccd cM cL cG cN) (execs ((lawFor 4).drop 7) (lawEnv L a ccd cM cL cG cN)) QF E s:=by
 refine (let A1:=_;(?_:wpAny _ A1 _ _ _ _))
 (refine e_E (hk9) ?_;clear hk9;intro tkk hkk)
 (refine e_E (hot) ?_;clear hot;intro to hot)
 (refine e_E (hwh) ?_;clear hwh;intro tw hwh)
 obtain ⟨msc,⟨tl,mlv⟩,mlk,mcov⟩:=hm
 refine (let m1:=_;fun (F1:Fr _ _ _ m1)=>?_) (fr_on hot (fr_on hwh (fr_on hkk (fr_on msc (fr_on mlv (fr_on mlk (fr_on mcov F)))))));clear F;rename Fr _ _ _ _=>F
 (first | refine (?_:wpAny _ _ (execs _ (envX _ _ _ _ _ _)) _ _ _) | refine (?_:wpAny _ _ (exec _ (envX _ _ _ _ _ _)) _ _ _))
 conv in (lawFor 4).drop 7=>whnf
 conv in (occs:=*) lawScope=>all_goals whnf
 (refine e_EA (S.oM) ?_;intro oM hcM hoM)
 have holk:=S.olk
 have hx:=S.M.x
 have hd:=S.M.d
 iterate 15 k_extra "w"
 have hNo:=S.off cN (.inr (.inr (.inr (.inl rfl))))
 refine dm_has (D:=D) rfl cov Rl n1 n2 pl tn to tw hn1 hn2 hpl (by k_asm) (by k_asm) (by k_asm) (by k_asm) (by k_asm) rfl (by ktr_room) (by ktr_units) C2 G (S.M.sub fun p hp=>by k_mem) ?_
 intro s7 news7 D7 Ls os7 G7 F7 N7 M7 P7 x7 v7 Rl7 hLs hnd
 have S7:=(S.sub fun p hp=>by k_mem).dm M7 P7 x7
 have hb:=S.M.lvl.1
 (refine rwl (show D.lvl=(lv - 1) + 1 by k_extra "ar") ?_;refine rwl (hasL_nears hLs ..) ?_)
 (refine e_A (stp_not (a:=cN) (o:=oN) P7 (by k_mem) hNo) ?_;intro mN7 _)
 have hlk7:=S7.olk
 iterate 15 k_extra "w"
 refine law_at lk tups kl links cov pl tw hpl (fun l hl=>(Rl.ok l hl).2.2) (by k_asm) (by k_asm) (by k_asm) (by k_asm) (by k_asm) rfl (by ktr_room) (by ktr_units) (by k_mem) S7.ht (by have:=S.few;k_extra "ar") ?_
 intro h8 tk8 q8 ts8 k8 nw8 F8 N8 hs8 hq8 ht8 hf8
 have mN8:=hs8 _ mN7
 iterate 11 k_extra "w"
 have e1:(lv:Int) - 1=((lv - 1:Nat):Int):=by k_extra "ar"
 refine rwl (e1 ..) ?_
 refine law_reached q8 ts8 k8 (ways links cov pl) n1 n2 tn to _ (lv - 1) (by k_extra "ar") (names_short hn1) (by k_asm) (by k_asm) (by k_asm) (by k_asm) (by k_asm) rfl (by ktr_room) (by ktr_units) (.head _) (ht8.sub fun p hp=>.tail _ hp) (Nat.le_trans (ways_len Rl.few pl) (by decide)) ?_
 intro h9 tk9 F9 N9
 have S8:=S7.sub hs8
 generalize (nears (ways links cov pl) n1 (lv - 1)).any (· == n2)=b
 cases b<;>(
  iterate 5 k_extra "w"
  refine ret _ _ _ _ _ _ _ _ _ os7 G7 (by k_asm) (by k_asm) (S8.sub fun p hp=>.tail _ hp) Rl7 v7 ⟨rfl,⟨_,rfl⟩,rfl,rfl⟩ ⟨_,rfl⟩ ((LStp.dm P7).trans (.sub fun p hp=>.tail _ (hs8 p hp))))
end
theorem turn4:(lawFor 4).drop 4=lawTurn 4::(lawFor 4).drop 5:=by rfl
section
variable {prog:Program} {w:World} {p:Program} {loose:List Str} {mean:ExcName→Option Value} {mg mb:Str→Option Value}
 {dp un:Nat} {gd:Option (List Code)} {cn:Str} {cs:Scope} {a:Addr} {ccd:Value} {cl:List (Str×Addr)} {outer:List Env} {A₀:Around} {base h₀:Heap} {L:Addr} {m:Str→Option Value} {s:Shared} {Q E:Value→Shared→Prop} {news:Led}

theorem law_rest (vs:List Value) (xs:List Int) (hi:IntsAre vs xs) (hl:vs.length≤63) (sc:Addr) {cM cL cG cN lk:Addr} {D:DmA} {links:List Lk} {cov:Bool} {tups:List Addr} {kl:Nat} (lv k:Nat) (m':Str→Option Value) (QF:Flow→Shared→Prop)
 (B:Below A₀ base [] h₀) (F:Fr h₀ L s.heap m') (X:(Kp w.params).In h₀) (N:News h₀ L s.heap news) (T:Top p loose mean mg mb h₀) (XB:(Kp w.params).In base) (TB:Top p loose mean mg mb base) (C:CodeHd h₀ 744 742) (C2:CodeHd h₀ 908 906) (G:AllBare s.gens)
 (hdp:dp + 200 < recursionLimit) (hun:un + 2000 < cLine) (S:LawSt prog w cM cL cG cN news D links lk tups kl) (Rl:DmRel D links cov) (hcc:Cells cM cL cG cN) (hm:LawM m' sc lk lv cov) (hk9:∃ t,m' "k"=some (.int (k:Int) t)) (k0:k < 9) (hsc:h₀.IsList sc vs.toArray) (hlv:D.lvl=lv)
 (ret:∀ s' m2 news' D' links' cov' lk' tups' kl',s'.os=s.os→AllBare s'.gens→Fr h₀ L s'.heap m2→News h₀ L s'.heap news'→LawSt prog w cM cL cG cN news' D' links' lk' tups' kl'→DmRel D' links' cov'→D'.lvl=D.lvl→LawM m2 sc lk' lv cov'→(∃ t,m2 "k"=some (.int (k:Int) t))→LStp (LOwn cM cL cG cN D lk tups) (LOwn cM cL cG cN D' lk' tups') news news'→QF .next s')
 : wpAny (model prog w) (lawA dp un gd L a ccd cM cL cG cN) (execs ((lawFor 4).drop 5) (lawEnv L a ccd cM cL cG cN)) QF E s:=by
 refine law_ask vs xs hi hl sc lv k m' QF B F X N T XB TB C C2 G hdp hun S Rl hcc hm hk9 k0 hsc ?_
 intro h1 tk1 m1 news1 n1 n2 pl oN tn F1 N1 S1 mN oNd hn1 hn2 hpl P1 hm1 hk1 hot hwh
 refine law_ask2 (s:={ s with heap:=h1,toks:=tk1 }) sc lv k m1 QF B F1 X N1 T XB TB C C2 G hdp hun S1 Rl hcc hm1 hk1 hlv n1 n2 pl hn1 hn2 hpl mN oNd hot hwh ?_
 intro s2 m2 news2 D2 links2 cov2 lk2 tups2 kl2 os2 G2 F2 N2 S2 Rl2 v2 hm2 hk2 P2
 exact ret s2 m2 news2 D2 links2 cov2 lk2 tups2 kl2 os2 G2 F2 N2 S2 Rl2 v2 hm2 hk2 (P1.trans P2)
theorem law_turn (vs:List Value) (xs:List Int) (hi:IntsAre vs xs) (hl:vs.length≤63) (sc:Addr) {cM cL cG cN lk:Addr} {D:DmA} {links:List Lk} {cov:Bool} {tups:List Addr} {kl:Nat} (lv k:Nat) (m':Str→Option Value) (QF:Flow→Shared→Prop)
 (B:Below A₀ base [] h₀) (F:Fr h₀ L s.heap m') (X:(Kp w.params).In h₀) (N:News h₀ L s.heap news) (T:Top p loose mean mg mb h₀) (XB:(Kp w.params).In base) (TB:Top p loose mean mg mb base) (C:CodeHd h₀ 744 742) (C2:CodeHd h₀ 908 906) (G:AllBare s.gens)
 (hdp:dp + 200 < recursionLimit) (hun:un + 2000 < cLine) (S:LawSt prog w cM cL cG cN news D links lk tups kl) (Rl:DmRel D links cov) (hcc:Cells cM cL cG cN) (hm:LawM m' sc lk lv cov) (hk9:∃ t,m' "k"=some (.int (k:Int) t)) (k0:k < 9) (hsc:h₀.IsList sc vs.toArray) (hlv:D.lvl=lv)
 (ret:∀ s' m2 news' D' links' cov' lk' tups' kl',s'.os=s.os→AllBare s'.gens→Fr h₀ L s'.heap m2→News h₀ L s'.heap news'→LawSt prog w cM cL cG cN news' D' links' lk' tups' kl'→DmRel D' links' cov'→D'.lvl=D.lvl→LawM m2 sc lk' lv cov'→(∃ t,m2 "k"=some (.int (k:Int) t))→LStp (LOwn cM cL cG cN D lk tups) (LOwn cM cL cG cN D' lk' tups') news news'→QF .next s')
 : wpAny (model prog w) (lawA dp un gd L a ccd cM cL cG cN) (execs (lawFor 4) (lawEnv L a ccd cM cL cG cN)) QF E s:=by
 refine law_stageA vs xs hi hl sc lv k m' QF B F X N T XB TB C C2 G hdp hun S Rl hcc hm hk9 k0 hsc ?_
 intro h1 tk1 m1 news1 kd pk oL lT l ta tb tc F1 N1 S1 mL oLd mT nT hlk hly P1 hm1 hk1 hkd hpk
 refine rwl (turn4 ..) ?_
 refine wpAny_execs_cons ?_
 have go:∀ s' m2 news' D' links' cov' lk' tups' kl',s'.os=s.os→AllBare s'.gens→Fr h₀ L s'.heap m2→News h₀ L s'.heap news'→LawSt prog w cM cL cG cN news' D' links' lk' tups' kl'→DmRel D' links' cov'→D'.lvl=D.lvl→LawM m2 sc lk' lv cov'→(∃ t,m2 "k"=some (.int (k:Int) t))→LStp (fun a=>LOwn cM cL cG cN D lk tups a∨a=lT) (LOwn cM cL cG cN D' lk' tups') news1 news' →
   wpAny (model prog w) (lawA dp un gd L a ccd cM cL cG cN) (execs ((lawFor 4).drop 5) (lawEnv L a ccd cM cL cG cN)) QF E s':=by
  intro s2 m2 news2 D2 links2 cov2 lk2 tups2 kl2 os2 G2 F2 N2 S2 Rl2 v2 hm2 hk2 P2
  refine law_rest vs xs hi hl sc lv k m2 QF B F2 X N2 T XB TB C C2 G2 hdp hun S2 Rl2 hcc hm2 hk2 k0 hsc (v2.trans hlv) ?_
  intro s3 m3 news3 D3 links3 cov3 lk3 tups3 kl3 os3 G3 F3 N3 S3 Rl3 v3 hm3 hk3 P3
  exact ret s3 m3 news3 D3 links3 cov3 lk3 tups3 kl3 (os3.trans os2) G3 F3 N3 S3 Rl3 (v3.trans v2) hm3 hk3 ((P1.trans P2).trans P3)
 by_cases h6:kd < 6
 ·exact law_add (s:={ s with heap:=h1,toks:=tk1 }) kd h6 sc lv k m1 _ B F1 X N1 T XB TB C C2 G hdp hun S1 Rl hcc hm1 hk1 hkd l hlk mL oLd mT nT hly go
 by_cases h9:kd < 9
 ·exact law_del (s:={ s with heap:=h1,toks:=tk1 }) kd pk h6 h9 sc lv k m1 _ B F1 X N1 T XB TB C C2 G hdp hun S1 Rl hcc hm1 hk1 hkd hpk l hlk mL oLd mT nT go
 by_cases h11:kd < 11
 ·exact law_toggle (s:={ s with heap:=h1,toks:=tk1 }) kd h9 h11 sc lv k m1 _ B F1 X N1 T XB TB C C2 G hdp hun S1 Rl hcc hm1 hk1 hkd go
 ·exact law_clear (s:={ s with heap:=h1,toks:=tk1 }) kd pk h11 sc lv k m1 _ B F1 X N1 T XB TB C C2 G hdp hun S1 Rl hcc hm1 hk1 hkd hpk go
end
section
variable {prog:Program} {w:World} {A:Around} {E:Value→Shared→Prop} {s:Shared} {h₀:Heap} {L:Addr} {m:Str→Option Value} {env:Env}
theorem forLoop_c {R:Result→Shared→Prop} {x:Str} {px:Pos} {c:Addr} {body:List Stmt} {I:Addr} {fp:List Addr} {n:Nat} {P:Nat→Value→Prop} {St:Nat→Heap→Prop} {S:Led→Prop} {news:Led} {G:Shared→Prop} (hG:Closed G) (hGs:G s)
  (W:Walks prog w A I fp [I] n P St) (hIo:∀ i h,St i h→∃ o,h.get? I=some o)
  (hSt:∀ i h h' o nw,St i h→h.get? I=some o→h'.get? I=some o→(∀ b o,h₀.get? b=some o→h'.get? b=some o)→News h₀ env.locals h' nw→S nw→St i h')
  (hk:env.scope.kind=.function) (hx:env.kindOf x=some .cell) (hc:env.cells.lookup x=some c)
  (hIL:env.locals≠I) (hI₀:h₀.get? I=none) (hst:St 0 s.heap) (F:Fr h₀ env.locals s.heap m) (N:News h₀ env.locals s.heap news) (off:∀ p∈news,p.1≠I) (hS:S news)
  (J:Nat→(Str→Option Value)→Led→Prop) (h0:J 0 m news) (hJc:∀ i m nw,J i m nw→∃ oc v₀,(c,oc)∈nw∧oc.data=.cell v₀) (Qx:Flow→Shared→Prop) (hQx:∀ f s',Qx f s'→R (.ok f) s')
  (step:∀ i v m₁ news₁ s₁ oI oc,G s₁→i < n→P i v→J i m₁ news₁→S news₁→(∀ p∈news₁,p.1≠I)→oc.data=.cell (some v)→(∃ h',News h₀ env.locals h' news₁)→Fr h₀ env.locals s₁.heap m₁→News h₀ env.locals s₁.heap ((I,oI)::upd c oc news₁) →
   wpAny (model prog w) A (execs body env) (ForStep h₀ env.locals S J G Qx I oI i) (notedBy (model prog w) A env fun e s'=>R (.error e) s') s₁)
  (hR:∀ s' m' news',G s'→Fr h₀ env.locals s'.heap m'→News h₀ env.locals s'.heap news'→J n m' news'→R (.ok .next) s') :
  codeAny (model prog w) A (.forLoop (.Name x px) (.ref I) body [] env) R s:=by
 have old:∀ b o,h₀.get? b=some o→b≠I:=fun b o e q=>by rw [q,hI₀] at e;cases e
 refine codeAny_forLoop
  (fun k s'=>∃ m' news' i,G s'∧St i s'.heap∧Fr h₀ env.locals s'.heap m'∧News h₀ env.locals s'.heap news'∧(∀ p∈news',p.1≠I)∧S news'∧J i m' news'∧i≤n∧k=n + 1 - i) ?_ (n + 1)
  ⟨m,news,0,hGs,hst,F,N,off,hS,h0,Nat.zero_le _,rfl⟩
 intro k s' e8_2;(refine e_E3A8 (e8_2) ?_;clear e8_2;intro m' news' i hcl hst' F' N' hnw' hS' hJ hi e9_11;subst e9_11)
 have next:∀ h₁:Heap,(∀ b o,b ∉ [I]→s'.heap.get? b=some o→h₁.get? b=some o)→Fr h₀ env.locals h₁ m'∧News h₀ env.locals h₁ news':=fun h₁ hk₁ =>
  ⟨⟨F'.ns.at' fun o e=>hk₁ _ o (by simpa using hIL) e,fun b o e=>hk₁ b o (by simpa using old b o e) (F'.keep b o e),F'.above⟩,fun p hp=>⟨hk₁ _ _ (by simpa using hnw' p hp) (N' p hp).1,(N' p hp).2⟩⟩
 by_cases hlt:i < n
 ·refine W.item i _ _ _ hlt hst' fun v h₁ tk₁ hP hst₁ hk₁=>?_
  (refine e_A (next h₁ hk₁) ?_;intro F₁ N₁)
  (refine e_E (hIo _ _ hst₁) ?_;intro oI heI)
  (refine e_E2A (hJc _ _ _ hJ) ?_;intro oc v₀ hcm hcd)
  have N₂:News h₀ env.locals h₁ ((I,oI)::news'):=fun p hp=>by
   rcases List.mem_cons.mp hp with rfl | hp
   ·exact ⟨heI,Ne.symm hIL,hI₀⟩
   ·exact N₁ p hp
  refine wpAny_assign_Name (store_cell (s:={ s' with heap:=h₁,toks:=tk₁ }) F₁ N₂ hk hx hc (.tail _ hcm) hcd fun h₂ oc' hcd' F₂ N₃=>?_)
  have N₄:News h₀ env.locals h₂ ((I,oI)::upd c oc' news'):=news_sub N₃ (List.forall_mem_cons.mpr ⟨mem_upd (.head _) (Ne.symm (hnw' _ hcm)),sub_upd (sub_skip sub_rfl)⟩)
  refine wpAny_mono (step i v m' news' { s' with heap:=h₂,toks:=tk₁ } oI oc' (hG s' h₂ tk₁ hcl) hlt hP hJ hS' hnw' hcd' ⟨h₁,N₁⟩ F₂ N₄) (fun f s₃ h₃=>?_) fun _ _ e=>e
  have fin:(∃ m' news',G s₃∧Fr h₀ env.locals s₃.heap m'∧News h₀ env.locals s₃.heap ((I,oI)::news')∧(∀ p∈news',p.1≠I)∧S news'∧J (i + 1) m' news') →
    ∃ k' ,k' < n + 1 - i∧∃ m' news' i',G s₃∧St i' s₃.heap∧Fr h₀ env.locals s₃.heap m'∧News h₀ env.locals s₃.heap news'∧(∀ p∈news',p.1≠I)∧S news'∧J i' m' news'∧i'≤n∧k'=n + 1 - i':=by
   intro e8_0;(refine e_E2A5 (e8_0) ?_;clear e8_0;intro m₂ news₂ c₂ F₃ N₃ off₂ hS₂ hJ₂)
   have N₄:News h₀ env.locals s₃.heap news₂:=fun p hp=>N₃ p (.tail _ hp)
   refine i_EAE3A8 (n + 1 - (i + 1)) (by k_extra "ar") m₂ news₂ (i + 1) c₂ ?_ F₃ N₄ off₂ hS₂ hJ₂ hlt rfl
   exact hSt _ _ _ oI news₂ hst₁ heI (N₃ _ (.head _)).1 F₃.keep N₄ hS₂
  cases f with
  | ret v=>exact hQx _ _ h₃
  | brk=>exact hQx _ _ h₃
  | cont=>exact fin h₃
  | next=>exact fin h₃
 ·have hin:i=n:=by k_extra "ar"
  subst hin
  refine W.done _ _ _ hst' fun h₁ tk₁ hk₁=>wpAny_execs_nil ?_
  (refine e_A (next h₁ hk₁) ?_;intro F₁ N₁)
  exact hR _ m' news' (hG _ _ _ hcl) F₁ N₁ hJ
def ForListC (prog:Program) (w:World) (A:Around) (h₀:Heap) (env:Env) (c:Addr) (body:List Stmt) (Q:Flow→Shared→Prop) (E:Value→Shared→Prop) (xv:Value) (s₁:Shared):Prop:=∀ Zp:Prop,(∀ (J:Nat→(Str→Option Value)→Led→Prop) (G:Shared→Prop) (ax:Addr) (its:List Value) (k:Nat) (m₀:Str→Option Value) (news₀:Led),(Closed G)→(xv=.ref ax)→(G s₁)→(A.handled=none)→(Fr h₀ env.locals s₁.heap m₀)→(News h₀ env.locals s₁.heap news₀)→((ax,listOf its.toArray k)∈news₀)→(J 0 m₀ news₀)→((∀ i m nw,J i m nw→∃ oc v₀,(c,oc)∈nw∧oc.data=.cell v₀))→((∀ i v m₁ news₁ s₂ I oI oc,G s₂→its[i]?=some v→J i m₁ news₁→(ax,listOf its.toArray k)∈news₁→(∀ p∈news₁,p.1≠I)→oc.data=.cell (some v)→(∃ h',News h₀ env.locals h' news₁)→Fr h₀ env.locals s₂.heap m₁→News h₀ env.locals s₂.heap ((I,oI)::upd c oc news₁)→wpAny (model prog w) A (execs body env) (ForStep h₀ env.locals (fun nw=>(ax,listOf its.toArray k)∈nw) J G Q I oI i) E s₂))→(∀ s' m' news',G s'→Fr h₀ env.locals s'.heap m'→News h₀ env.locals s'.heap news'→J its.length m' news'→Q .next s')→Zp)→Zp
theorem for_list_c {Q:Flow→Shared→Prop} {x:Str} {px pos:Pos} {c:Addr} {iter:Expr} {body:List Stmt} (h₀:Heap)
  (h:wpAny (model prog w) A (eval iter env) (ForListC prog w A h₀ env c body Q E) E s)
  (hk:env.scope.kind=.function) (hx:env.kindOf x=some .cell) (hc:env.cells.lookup x=some c)
  (hs:∀ x,foldedSetIterable iter env x=pure x)
  (hE:PassesOwn (model prog w) A env E) :
  wpAny (model prog w) A (exec (.For (.Name x px) iter body [] pos) env) Q E s:=by
 refine wpAny_For (wpAny_mono h (fun xv s₁ h₁=>?_) fun _ _ e=>e) hs
 (refine h₁ _ ?_;clear h₁;intro J G ax its k m₀ news₀ hG e9_8 hg hh F N hm hJ hJc step fin;subst e9_8)
 have hl:s₁.heap.IsList ax its.toArray:=News.isList N hm
 have hlt:ax < s₁.heap.objs.size:=Heap.lt_size (N _ hm).1
 refine wpAny_pyIter_list hl ?_
 have up:∀ b o,s₁.heap.get? b=some o→(s₁.heap.push { cls:=.type "list_iterator",data:=.fields #[.ref ax,.int 0 0] }).get? b=some o:=fun b o e=>Heap.get?_push_of_some _ e
 have W:=Walks.list (prog:=prog) (w:=w) hh s₁.heap.objs.size ax (Nat.ne_of_lt hlt) its.toArray
 rw [List.size_toArray] at W
 refine forLoop_c (R:=fun r s'=>match r with | .ok f=>Q f s' | .error e=>cameBackBy (model prog w) A env E e s') (S:=fun nw=>(ax,listOf its.toArray k)∈nw) hG (hG _ _ s₁.toks hg) W (fun i h st=>by (refine e_EA (st.1) ?_;intro o e _);exact ⟨o,e⟩) ?_ hk hx hc (Nat.ne_of_lt F.ns.lt) (next_is_new F) ⟨⟨_,Heap.get?_push_size _ rfl,rfl,rfl⟩,hl.push _⟩
  (F.keeps up) (N.grown up) (fun p hp=>Nat.ne_of_lt (Heap.lt_size (N p hp).1)) hm J hJ hJc Q (fun f s' q=>q) ?_ fin
 ·intro i h h' o nw st e e' hk Nw hS
  refine ⟨by (refine e_EA (st.1) ?_;intro o' q r);cases e.symm.trans q;exact ⟨_,e',r⟩,News.isList Nw hS⟩
 ·intro i v m₁ news₁ s₂ oI oc c hi hP hJ' hS off hcd hN F' N'
  exact wpAny_passesOwn hE (step i v m₁ news₁ s₂ _ oI oc c (by simpa using hP) hJ' hS off hcd hN F' N')
end
noncomputable def lawSt (k:Nat):Stmt:=(lawBody[k]?).getD (.Pass default)
section
variable {prog:Program} {w:World} {p:Program} {loose:List Str} {mean:ExcName→Option Value} {mg mb:Str→Option Value}
 {dp un:Nat} {gd:Option (List Code)} {cn:Str} {cs:Scope} {a:Addr} {ccd:Value} {cl:List (Str×Addr)} {outer:List Env} {A₀:Around} {base h₀:Heap} {L:Addr} {m:Str→Option Value} {s:Shared} {Q E:Value→Shared→Prop} {news:Led}

noncomputable def LawJ (prog:Program) (w:World) (cM cL cG cN sc:Addr) (lv:Nat) (m:Str→Option Value) (nw:Led):Prop :=
 ∃ D links cov lk tups kl,LawSt prog w cM cL cG cN nw D links lk tups kl∧DmRel D links cov∧LawM m sc lk lv cov∧D.lvl=lv
noncomputable def LawG (s s':Shared):Prop:=s'.os=s.os∧AllBare s'.gens
theorem LawG.closed (s:Shared):Closed (LawG s):=fun _ _ _ h=>h
theorem LawM.put {m:Str→Option Value} {sc lk:Addr} {lv:Nat} {cov:Bool} (h:LawM m sc lk lv cov) {x:Str} {v:Option Value} (h1:"script"≠x) (h2:"level"≠x) (h3:"links"≠x) (h4:"covering"≠x):LawM (fun y=>if y=x then v else m y) sc lk lv cov :=
 ⟨(if_neg h1).trans h.sc,⟨h.lv.choose,(if_neg h2).trans h.lv.choose_spec⟩,(if_neg h3).trans h.lk,(if_neg h4).trans h.cov⟩
theorem LStp.put {O O':Addr→Prop} {n1 n2:Led} (x:LStp O O' n1 n2) {a:Addr} {o:Obj} (hm:(a,o)∈n1) (hO:¬ O a):(a,o)∈n2∧¬ O' a:=⟨x.keep _ hm hO,fun h=>(x.new a h).elim hO fun f=>f _ hm rfl⟩
set_option maxHeartbeats 8000000 in
theorem law_loop (vs:List Value) (xs:List Int) (hi:IntsAre vs xs) (hl:vs.length≤63) (sc:Addr) {cM cL cG cN:Addr} (lv:Nat) (m':Str→Option Value) (QF:Flow→Shared→Prop)
 (B:Below A₀ base [] h₀) (F:Fr h₀ L s.heap m') (X:(Kp w.params).In h₀) (N:News h₀ L s.heap news) (T:Top p loose mean mg mb h₀) (XB:(Kp w.params).In base) (TB:Top p loose mean mg mb base) (C:CodeHd h₀ 744 742) (C2:CodeHd h₀ 908 906) (G:AllBare s.gens)
 (hdp:dp + 200 < recursionLimit) (hun:un + 2000 < cLine) (hcc:Cells cM cL cG cN) (hsc:h₀.IsList sc vs.toArray) (hJ:LawJ prog w cM cL cG cN sc lv m' news)
 (ret:∀ s' m2 news',s'.os=s.os→AllBare s'.gens→Fr h₀ L s'.heap m2→News h₀ L s'.heap news'→LawJ prog w cM cL cG cN sc lv m2 news'→QF .next s')
 (hE:PassesOwn (model prog w) (lawA dp un gd L a ccd cM cL cG cN) (lawEnv L a ccd cM cL cG cN) E)
 : wpAny (model prog w) (lawA dp un gd L a ccd cM cL cG cN) (exec (lawSt 4) (lawEnv L a ccd cM cL cG cN)) QF E s:=by
 refine (let A1:=_;(?_:wpAny _ A1 _ _ _ _))
 (first | refine (?_:wpAny _ _ (execs _ (envX _ _ _ _ _ _)) _ _ _) | refine (?_:wpAny _ _ (exec _ (envX _ _ _ _ _ _)) _ _ _))
 conv in lawSt 4=>whnf
 conv in (occs:=*) lawScope=>all_goals whnf
 refine for_range h₀ 9 (by decide) ?_ rfl rfl (by intro _;rfl) hE
 iterate 6 k_extra "w"
 refine call_range_1 ?_
 refine fun _ kM=>kM (fun _ m nw=>LawJ prog w cM cL cG cN sc lv m nw) (LawG s) _ _ _ _ _ news (LawG.closed s) rfl (IsRange.new _ _ _ _ _ _ _) ⟨rfl,G⟩ (by first | exact trivial | rfl) (Fr.push (by k_asm) _) (News.pushKeep (by k_asm) _) hJ ?_ ?_
 ·intro k tk m1 news1 s2 I oI e8_7 hk e8_9 off F2 N2;(refine e_A (e8_7) ?_;clear e8_7;intro os2 G2);(refine e_E6A3 (e8_9) ?_;clear e8_9;intro D links cov lk tups kl S Rl hm hlv)
  have hO:¬ LOwn cM cL cG cN D lk tups I:=fun h=>by
   (refine e_E (S.there h) ?_;intro o ho)
   exact off _ ho rfl
  refine law_turn vs xs hi hl sc lv k _ _ B F2 X N2 T XB TB C C2 G2 hdp hun (S.sub fun p hp=>.tail _ hp) Rl hcc (hm.put (by decide) (by decide) (by decide) (by decide)) ⟨tk,if_pos rfl⟩ hk hsc hlv ?_
  intro s3 m3 news3 D3 links3 cov3 lk3 tups3 kl3 os3 G3 F3 N3 S3 Rl3 v3 hm3 hk3 P3
  (refine e_A2 (S3.drop P3 (.head _) hO) ?_;intro S4 hI4 off4)
  exact ⟨m3,_,⟨os3.trans os2,G3⟩,F3,(news_sub N3 (List.forall_mem_cons.mpr ⟨hI4,fun p hp=>(List.mem_filter.mp hp).1⟩)),off4,trivial,D3,links3,cov3,lk3,tups3,kl3,S4,Rl3,hm3,(v3.trans hlv)⟩
 ·intro s2 m2 news2 e8_3 F2 N2 hJ2;(refine e_A (e8_3) ?_;clear e8_3;intro os2 G2)
  exact ret s2 m2 news2 os2 G2 F2 N2 hJ2
end
section
variable {prog:Program} {w:World} {p:Program} {loose:List Str} {mean:ExcName→Option Value} {mg mb:Str→Option Value}
 {dp un:Nat} {gd:Option (List Code)} {cn:Str} {cs:Scope} {a:Addr} {ccd:Value} {cl:List (Str×Addr)} {outer:List Env} {A₀:Around} {base h₀:Heap} {L:Addr} {m:Str→Option Value} {s:Shared} {Q E:Value→Shared→Prop} {news:Led}

set_option maxHeartbeats 4000000 in
theorem law_front (vs:List Value) (xs:List Int) (hi:IntsAre vs xs) (hl:vs.length≤63) (sc:Addr) {cM cL cG cN:Addr} (m':Str→Option Value) (QF:Flow→Shared→Prop)
 (B:Below A₀ base [] h₀) (F:Fr h₀ L s.heap m') (X:(Kp w.params).In h₀) (N:News h₀ L s.heap news) (T:Top p loose mean mg mb h₀) (C3:CodeHd h₀ 945 941)
 (hdp:dp + 200 < recursionLimit) (hun:un + 2000 < cLine) (hcc:Cells cM cL cG cN) (hsc:h₀.IsList sc vs.toArray) (hmsc:m' "script"=some (.ref sc)) (hpg:ProgOk prog)
 {oM oL oG oN:Obj} (hM:(cM,oM)∈news) (hL:(cL,oL)∈news) (hG:(cG,oG)∈news) (hN:(cN,oN)∈news) (dM:oM.data=.cell none) (dL:oL.data=.cell none) (dG:oG.data=.cell none) (dN:oN.data=.cell none)
 (t1:(742,tabObj #[])∈news) (t2:(906,tabObj #[])∈news) (t3:(941,tabObj #[])∈news)
 (rest:∀ h' tk' m2 news' lv,Fr h₀ L h' m2→News h₀ L h' news'→LawJ prog w cM cL cG cN sc lv m2 news'→wpAny (model prog w) (lawA dp un gd L a ccd cM cL cG cN) (execs (lawBody.drop 4) (lawEnv L a ccd cM cL cG cN)) QF E { s with heap:=h',toks:=tk' })
 : wpAny (model prog w) (lawA dp un gd L a ccd cM cL cG cN) (execs lawBody (lawEnv L a ccd cM cL cG cN)) QF E s:=by
 refine (let A1:=_;(?_:wpAny _ A1 _ _ _ _))
 refine (let m1:=_;fun (F1:Fr _ _ _ m1)=>?_) (fr_on hmsc F);clear F;rename Fr _ _ _ _=>F
 (first | refine (?_:wpAny _ _ (execs _ (envX _ _ _ _ _ _)) _ _ _) | refine (?_:wpAny _ _ (exec _ (envX _ _ _ _ _ _)) _ _ _))
 conv in lawBody=>whnf
 conv in (occs:=*) lawScope=>all_goals whnf
 have cne:∀ {a b:Addr} {o:Obj} {ps:Array Value},(a,o)∈news→o.data=.cell none→(b,tabObj ps)∈news→a≠b:=fun h hd h2=>news_ne N h h2 fun e=>by rw [e] at hd;nomatch hd
 have k7:∀ {a:Addr} {o:Obj},(a,o)∈news→o.data=.cell none→a≠742∧a≠906∧a≠941:=fun h hd=>⟨cne h hd t1,cne h hd t2,cne h hd t3⟩
 iterate 14 k_extra "w"
 refine law_numberZ sc vs xs hi hl 0 _ rfl _ (by omega) (by k_asm) (by k_asm) (by k_asm) (by k_asm) (by k_asm) rfl (by ktr_room) (by ktr_units) hsc ?_
 intro h5 tk5 z t5 F5 N5
 have z1:0≤z.fmod 5:=Int.fmod_nonneg_of_pos _ (by decide)
 have z2:z.fmod 5 < 5:=Int.fmod_lt_of_pos _ (by decide)
 obtain ⟨lv,hlv⟩:∃ lv:Nat,1 + z.fmod 5=(lv:Int):=⟨(1 + z.fmod 5).toNat,by k_extra "ar"⟩
 iterate 3 k_extra "w"
 refine rwl (hlv ..) ?_
 iterate 10 k_extra "w"
 refine dm_new lv _ (by k_asm) (by k_asm) (by k_asm) (by k_asm) (by k_asm) rfl (by ktr_room) (by ktr_units) C3 (by k_mem) ⟨#[],by k_mem,by kn_triples⟩ ⟨#[],by k_mem,by kn_triples⟩ (by k_extra "ar") hpg ?_
 intro h6 tk6 news6 D F6 N6 M6 k6 o6 v6 Rl6 hp6
 (refine e_E (hp6) ?_;clear hp6;intro ps hp6)
 have kc:∀ {a:Addr} {o:Obj},(a,o)∈news→o.data=.cell none→(a,o)∈news6∧¬ D.own a:=fun {a o} h hd=>by
  (refine e_A2 (k7 h hd) ?_;intro n1 n2 n3)
  refine ⟨k6 _ (by k_mem) n3,fun ho=>?_⟩
  rcases o6 a ho with e | e | e
  ·exact n1 e
  ·exact n2 e
  ·exact e (a,o) (by k_mem) rfl
 refine store_cell (by k_asm) (by k_asm) rfl rfl rfl (c:=cM) (oc:=oM) (kc hM dM).1 dM ?_
 intro h7 oM2 hoM2 F7 N7
 iterate 10 k_extra "w"
 rename_i lk h8 l8 h9 h10 F9 N9
 have dm0:∀ {a:Addr} {o:Obj},(a,o)∈news6→a≠cM→(a,o)∈(lk,listOf #[] 0)::upd cM oM2 news6:=fun h hn=>.tail _ (mem_upd h hn)
 have hlk:∀ p∈news6,p.1≠lk:=fun p hp e=>by
  by_cases e2:p.1=cM
  ·exact absurd (e2.symm.trans e) (Nat.ne_of_lt (l8 (cM,oM2) mem_upd_self))
  ·exact absurd e (Nat.ne_of_lt (l8 p (mem_upd hp e2)))
 have own7:∀ a,D.own a→a≠cM:=fun a ha e=>(kc hM dM).2 (e▸ha)
 have S:LawSt prog w cM cL cG cN ((lk,listOf #[] 0)::upd cM oM2 news6) D [] lk [] 0:=by
  refine ⟨M6.keep fun p hp ho=>dm0 hp (own7 _ ho),⟨oM2,.tail _ mem_upd_self,hoM2⟩,⟨oL,_,dm0 (kc hL dL).1 hcc.ml.symm,dL⟩,⟨oG,_,dm0 (kc hG dG).1 hcc.mg.symm,dG⟩,⟨oN,_,dm0 (kc hN dN).1 hcc.mn.symm,dN⟩,.head _,.nil,⟨ps,dm0 hp6 (k7 hM dM).2.2.symm⟩,Nat.zero_le _,?_,fun l hl=>absurd hl List.not_mem_nil⟩
  rintro a (rfl | rfl | rfl | rfl | rfl | h | rfl) ho
  ·exact (kc hM dM).2 ho
  ·exact (kc hL dL).2 ho
  ·exact (kc hG dG).2 ho
  ·exact (kc hN dN).2 ho
  ·(refine e_E (M6.there _ ho) ?_;intro o hm)
   exact hlk _ hm rfl
  ·exact absurd h List.not_mem_nil
  ·rcases o6 941 ho with e | e | e
   ·exact absurd e (by decide)
   ·exact absurd e (by decide)
   ·exact e _ t3 rfl
 exact rest _ _ _ _ lv (by k_asm) (by k_asm) ⟨D,[],false,lk,[],0,S,Rl6,⟨rfl,⟨_,rfl⟩,rfl,rfl⟩,v6⟩
end
theorem risingS_pw:∀ (l:List Str) (p:Str),risingS p l=true→(p::l).Pairwise (fun a b=>¬ b.cps.toList < a.cps.toList)
 | [],p,_=>by simp
 | x::r,p,h=>by
  rw [risingS,Bool.and_eq_true,ltCps_eq,Bool.not_eq_true',decide_eq_false_iff_not] at h
  have ih:=risingS_pw r x h.2
  refine List.pairwise_cons.mpr ⟨fun y hy=>?_,ih⟩
  rcases List.mem_cons.mp hy with rfl | hy
  ·exact h.1
  ·have h2:=List.rel_of_pairwise_cons ih hy
   exact List.not_lt.mpr (List.le_trans (List.not_lt.mp h.1) (List.not_lt.mp h2))
theorem sortedS_pw {l:List Str} (h:sortedS l=true):l.Pairwise (fun a b=>¬ b.cps.toList < a.cps.toList):=by
 cases l with
 | nil=>exact .nil
 | cons x r=>exact risingS_pw r x h
theorem sortedS_unique {a b:List Str} (hp:a.Perm b) (ha:sortedS a=true) (hb:sortedS b=true):a=b:=by
 refine List.Perm.eq_of_pairwise (fun x y _ _ h1 h2=>?_) (sortedS_pw ha) (sortedS_pw hb) hp
 have e:x.cps.toList=y.cps.toList:=List.le_antisymm (List.not_lt.mp h1) (List.not_lt.mp h2)
 cases x;cases y
 simp only at e
 congr 1
 exact Array.toList_inj.mp e
theorem perm_of_mem {a b:List Str} (ha:a.Nodup) (hb:b.Nodup) (h:∀ x,x∈a↔x∈b):a.Perm b:=(List.perm_ext_iff_of_nodup ha hb).mpr h
theorem strs_of {vs:List Value} {ns:List Str} (h:F2 StrIs vs ns):StrsAre vs ns:=by
 induction h with
 | nil=>exact .nil
 | cons h _ ih=>(refine e_E (h) ?_;clear h;intro t e9_1;subst e9_1);exact .cons _ _ ih
theorem strs_dat {news:Led} {vs:List Value} {ns:List Str} (h:StrsAre vs ns):DatAll news vs (ns.map Dat.str):=by
 induction h with
 | nil=>exact .nil
 | cons y t _ ih=>exact .cons (.str _ _) ih
theorem outs_nodup {ws:List (Str×Str)} (h:ws.Nodup) (n:Str):(outs ws n).Nodup:=by
 refine List.pairwise_map.mpr ((h.filter _).imp_of_mem fun {a b} ha hb hn e=>hn (Prod.ext ?_ e))
 (refine rwl (beq_iff_eq.mp (List.mem_filter.mp ha).2 ..) ?_;refine rwl (beq_iff_eq.mp (List.mem_filter.mp hb).2 ..) ?_;with_reducible rfl)
theorem ins_nodup {ws:List (Str×Str)} (h:ws.Nodup) (n:Str):(ins ws n).Nodup:=by
 refine List.pairwise_map.mpr ((h.filter _).imp_of_mem fun {a b} ha hb hn e=>hn (Prod.ext e ?_))
 (refine rwl (beq_iff_eq.mp (List.mem_filter.mp ha).2 ..) ?_;refine rwl (beq_iff_eq.mp (List.mem_filter.mp hb).2 ..) ?_;with_reducible rfl)
theorem outs_perm {Ls ws:List (Str×Str)} (h:∀ l,l∈Ls↔l∈ws) (h1:Ls.Nodup) (h2:ws.Nodup) (n:Str):(outs Ls n).Perm (outs ws n) :=
 perm_of_mem (outs_nodup h1 n) (outs_nodup h2 n) fun x=>by (refine rwl (propext (mem_outs ..)) ?_;refine rwl (propext (mem_outs ..)) ?_;refine rwl (propext (h ..)) ?_;with_reducible rfl)
theorem ins_perm {Ls ws:List (Str×Str)} (h:∀ l,l∈Ls↔l∈ws) (h1:Ls.Nodup) (h2:ws.Nodup) (n:Str):(ins Ls n).Perm (ins ws n) :=
 perm_of_mem (ins_nodup h1 n) (ins_nodup h2 n) fun x=>by (refine rwl (propext (mem_ins ..)) ?_;refine rwl (propext (mem_ins ..)) ?_;refine rwl (propext (h ..)) ?_;with_reducible rfl)
theorem DmRel.ways_nodup {D:DmA} {links:List Lk} {cov:Bool} (Rl:DmRel D links cov) (p:Str):(ways links cov p).Nodup:=Rl.lnk.sublist (List.Sublist.map _ List.filter_sublist)
theorem DmRel.ways_names {D:DmA} {links:List Lk} {cov:Bool} (Rl:DmRel D links cov) {p:Str} {l:Str×Str} (h:l∈ways links cov p):l.1∈Names∧l.2∈Names:=by
 (refine e_EA (List.mem_map.mp h) ?_;intro l' h' e9_2;subst e9_2)
 have:=Rl.ok l' (List.mem_filter.mp h').1
 exact ⟨this.1,this.2.1⟩
theorem strsD_ok {ns:List Str} (h:∀ n∈ns,n∈Names):∀ d∈ns.map Dat.str,kqdOk 8 d=true:=fun d hd=>by
 (refine e_EA (List.mem_map.mp hd) ?_;intro n hn e9_2;subst e9_2)
 simp [kqdOk,strOk_names (h n hn)]
section
variable {prog:Program} {w:World} {A:Around} {E:Value→Shared→Prop} {s:Shared} {h₀:Heap} {L a b:Addr} {news:Led} {Q:Value→Shared→Prop}
theorem strs_same {xs ys:List Value} {ka kb:Nat} {n1 n2:List Str} (N:News h₀ L s.heap news) (ma:(a,seqObj "list" xs.toArray ka)∈news) (ha:StrsAre xs n1) (mb:(b,seqObj "list" ys.toArray kb)∈news) (hb:StrsAre ys n2)
  (e:n1=n2) (hn:∀ n∈n1,n∈Names) (hu:A.units + 64 < cLine) (h:Q (.bool false) s):wpAny (model prog w) A (compareOp .NotEq (.ref a) (.ref b)) Q E s:=by
 subst e
 refine kqd_ne (xs:=xs) (ys:=ys) N ma rfl rfl (strs_dat ha) sub_rfl mb rfl rfl (strs_dat hb) sub_rfl (strsD_ok hn) (strsD_ok hn) hu ?_
 have e:∀ i:Decidable (n1.map Dat.str=n1.map Dat.str),(!@decide _ i)=false:=fun i=>by refine rwl (decide_eq_true rfl ..) ?_;rfl
 refine rwl (e ..) ?_
 exact h
end
theorem outs_len {Ls:List (Str×Str)} {n:Str}:(outs Ls n).length≤Ls.length:=by
 unfold outs;refine rwl (List.length_map ..) ?_;exact List.length_filter_le _ _
theorem ins_len {Ls:List (Str×Str)} {n:Str}:(ins Ls n).length≤Ls.length:=by
 unfold ins;refine rwl (List.length_map ..) ?_;exact List.length_filter_le _ _
theorem stp_of_sub {own own':Addr→Prop} {n nA n':Led} (P:Stp own own' nA n') (hs:∀ p∈n,p∈nA):Stp own own' n n':=⟨fun p hp h=>P.keep p (hs p hp) h,fun a h=>(P.new a h).imp id fun f p hp=>f p (hs p hp),P.more⟩
theorem tups_stp {own own':Addr→Prop} {nw nw':Led} (P:Stp own own' nw nw') {ts:List Addr} {ls:List (Str×Str)} (h:TupsIn nw ts ls) (ho:∀ t∈ts,¬ own t):TupsIn nw' ts ls∧∀ t∈ts,¬ own' t :=
 ⟨h.monoMem fun t ht l _ ⟨a,b,n,hm⟩=>⟨a,b,n,P.keep _ hm (ho t ht)⟩,fun t ht h'=>by
  (refine e_EAE3 (h.left ht) ?_;intro l _ a b n hm)
  exact (P.new t h').elim (ho t ht) fun f=>f _ hm rfl⟩
noncomputable def lawFor2:List Stmt:=match ((lawFor 5)[1]?:Option Stmt) with
 | some (.For _ _ body _ _)=>body
 | _=>[]
section
variable {prog:Program} {w:World} {p:Program} {loose:List Str} {mean:ExcName→Option Value} {mg mb:Str→Option Value}
 {dp un:Nat} {gd:Option (List Code)} {cn:Str} {cs:Scope} {a:Addr} {ccd:Value} {cl:List (Str×Addr)} {outer:List Env} {A₀:Around} {base h₀:Heap} {L:Addr} {m:Str→Option Value} {s:Shared} {Q E:Value→Shared→Prop} {news:Led}

set_option maxHeartbeats 8000000 in
theorem law_inner (sc:Addr) {cM cL cG cN lk:Addr} {D:DmA} {links:List Lk} {cov:Bool} {tups:List Addr} {kl:Nat} (lv:Nat) (m':Str→Option Value) (QF:Flow→Shared→Prop)
 (B:Below A₀ base [] h₀) (F:Fr h₀ L s.heap m') (X:(Kp w.params).In h₀) (N:News h₀ L s.heap news) (T:Top p loose mean mg mb h₀)
 (hdp:dp + 200 < recursionLimit) (hun:un + 2000 < cLine) (S:LawSt prog w cM cL cG cN news D links lk tups kl) (Rl:DmRel D links cov) (hm:LawM m' sc lk lv cov)
 (nm pl:Str) (hnm:nm∈Names) (hpl:pl∈Places) {oN:Obj} {tn:Tok} (hcN:(cN,oN)∈news) (hoN:oN.data=.cell (some (.str nm tn))) (hwh:∃ t,m' "where"=some (.str pl t)) (wa:Addr) (ts:List Addr) (kw:Nat) (hwa:m' "ways"=some (.ref wa)) (hwm:(wa,refsO ts kw)∈news) (ht:TupsIn news ts (ways links cov pl)) (hwo:¬ D.own wa) (hto:∀ t∈ts,¬ D.own t)
 (ret:∀ h' tk' news' D',Fr h₀ L h' m'→News h₀ L h' news'→LawSt prog w cM cL cG cN news' D' links lk tups kl→DmRel D' links cov→D'.lvl=D.lvl→Stp D.own D'.own news news'→QF .next { s with heap:=h',toks:=tk' })
 : wpAny (model prog w) (lawA dp un gd L a ccd cM cL cG cN) (execs lawFor2 (lawEnv L a ccd cM cL cG cN)) QF E s:=by
 refine (let A1:=_;(?_:wpAny _ A1 _ _ _ _))
 (refine e_E (hwh) ?_;clear hwh;intro tw hwh)
 have em:m'=fun (y:Str)=>if y="where" then some (.str pl tw) else if y="ways" then some (.ref wa) else m' y:=(m_eta hwh).trans (congrArg (fun (g:Str→Option Value)=>fun (y:Str)=>if y="where" then some (.str pl tw) else g y) (m_eta hwa))
 rw [em] at F ret
 (first | refine (?_:wpAny _ _ (execs _ (envX _ _ _ _ _ _)) _ _ _) | refine (?_:wpAny _ _ (exec _ (envX _ _ _ _ _ _)) _ _ _))
 conv in lawFor2=>whnf
 conv in (occs:=*) lawScope=>all_goals whnf
 (refine e_EA (S.oM) ?_;intro oM hcM hoM)
 have hx:=S.M.x
 have hd:=S.M.d
 have hNo:=S.off cN (.inr (.inr (.inr (.inl rfl))))
 have hMo:=S.off cM (.inl rfl)
 iterate 18 k_extra "w"
 refine dm_roles (D:=D) rfl cov Rl nm pl tn tw hnm hpl (by k_asm) (by k_asm) (by k_asm) (by k_asm) (by k_asm) rfl (by ktr_room) (by ktr_units) (S.M.sub fun p hp=>by k_mem) ?_
 intro h6 tk6 news6 D6 Ls6 q6 k6 vs6 F6 N6 M6 P6 x6 v6 Rl6 hLs6 hnd6 fr6 hF6
 have S6:=(S.sub fun p hp=>by k_mem).dm M6 P6 x6
 (refine e_A (stp_not (a:=cN) (o:=oN) P6 (by k_mem) hNo) ?_;intro mN6 nN6)
 (refine e_A (stp_not (a:=wa) (o:=refsO ts kw) P6 (by k_mem) hwo) ?_;intro mW6 nW6)
 have hl6:Ls6.length≤5:=Nat.le_trans (nodup_le hnd6 fun x hx=>(hLs6 x).mp hx) (ways_len Rl.few pl)
 k_extra "w"
 refine sorted_N_str (by k_asm) (by k_asm) (News.isList (by k_asm) (.head _)) (strs_of hF6) (by refine rwl (hF6.length ..) ?_;have:=outs_len (Ls:=Ls6) (n:=nm);k_extra "ar") ?_
 intro h7 vs7 ss7 k7 F7 N7 hs7 hp7 ho7
 generalize ({ s with heap:=h6,toks:=tk6 }:Shared).heap.objs.size + 1=a7 at *
 have htW6:=tups_stp P6 (ht.sub fun p hp=>by k_mem) hto
 obtain ⟨nw7,Nk,hsb7,ha7⟩:∃ nw,News h₀ L h7 nw∧(∀ p∈news6,p∈nw)∧(a7,seqObj "list" vs7.toArray k7)∈nw:=⟨_,N7,fun p hp=>.tail _ (.tail _ hp),.head _⟩
 clear N7
 have mW7:=hsb7 _ mW6
 have mN7:=hsb7 _ mN6
 have htW:=htW6.1.sub hsb7
 (try dsimp only)
 iterate 4 k_extra "w"
 refine comp_overG (fun v m₂=>∃ T l ta tb n,v=.ref T∧l∈ways links cov pl∧(T,pairO l.1 l.2 ta tb n)∈nw7∧m₂ "a"=some (.str l.1 ta)∧m₂ "b"=some (.str l.2 tb))
  (fun j=>match (ways links cov pl)[j]? with | some l=>l.1 == nm | none=>false) (fun j ys nw'=>nw'=nw7∧StrsAre ys (outs ((ways links cov pl).take j) nm)) (by k_asm) rfl ?_ ?_ (by rfl) (by decide) (by rfl) (by decide) (by intro _;rfl)
 ·exact fun I l i v s Q E hit hQ=>go_list_tuple hit hQ
 k_extra "w"
 refine .mk wa (ts.map Value.ref) kw nw7 rfl (by k_asm) (by k_asm) (by k_mem) (by (refine rwl (List.length_map ..) ?_;refine rwl (htW.length ..) ?_);exact Nat.le_trans (ways_len Rl.few pl) (by decide)) ⟨rfl,.nil⟩ ?_ ?_ ?_ ?_ ?_ ?_
 ·intro j ys nw' e8_3;(refine e_A (e8_3) ?_;clear e8_3;intro _ hys)
  refine rwl (strs_len hys ..) ?_
  exact Nat.le_trans outs_len (List.length_take_le _ _)
 ·intro v hv C m₁ s Q E' hn nw' Nw hs hq
  (refine e_EA (List.mem_map.mp hv) ?_;intro T hT e9_2;subst e9_2)
  (refine e_EAE3 (htW.left hT) ?_;intro l hl ta tb n hTm)
  exact bind2 rfl rfl (by decide) (by decide) hn Nw (hs.2 _ hTm) (by decide) fun h' tk m₂ hn' hm hk=>hq h' tk m₂ hn' ⟨T,l,ta,tb,n,rfl,hl,hTm,hm.1,hm.2⟩ hk
 ·intro j v hv I' oI' C oC Dd ys nw' m₂ h tk E' hJ hs hoC hB F'' N''
  (refine e_E5A4 (hB) ?_;clear hB;intro T l ta tb n e9_5 hl hTm ha hb;subst e9_5)
  (refine e_A (hJ) ?_;clear hJ;intro e9_0 hys;replace e9_0:=e9_0.symm;subst e9_0)
  have hsel:(match (ways links cov pl)[j]? with | some l=>l.1 == nm | none=>false)=(l.1 == nm):=by
   rw [List.getElem?_map] at hv
   (refine e_EA (Option.map_eq_some_iff.mp hv) ?_;intro T' hT' e)
   cases e
   (refine e_EAE3 (htW.nth hT') ?_;intro l' hl' ta' tb' n' hTm')
   (refine rwl (hl' ..) ?_;refine rwl (pairO_inj (news_fun Nk hTm' hTm) ..) ?_;with_reducible rfl)
  refine rwl (hsel ..) ?_
  repeat k_extra "w"
  all_goals k_asm
 ·intro j v ys nw' hv hp e8_6;(refine e_A (e8_6) ?_;clear e8_6;intro hnw hys)
  rw [List.getElem?_map] at hv
  (refine e_EA (Option.map_eq_some_iff.mp hv) ?_;intro T' hT' e)
  (refine e_EA (htW.nth hT') ?_;intro l' hl' _)
  rw [hl'] at hp
  have hp':(l'.1 == nm)=false:=hp
  have htk:(ways links cov pl).take (j + 1)=(ways links cov pl).take j++[l']:=by (refine rwl (List.take_add_one ..) ?_;refine rwl (hl' ..) ?_);rfl
  refine ⟨hnw,?_⟩
  (refine rwl (htk ..) ?_;rewrite [outs];refine rwl (List.filter_append ..) ?_;refine rwl (show [l'].filter (fun l=>l.1 == nm)=[] by rw [List.filter_cons,if_neg (by rw [hp'];decide),List.filter_nil]) ?_;refine rwl (List.append_nil ..) ?_)
  exact hys
 ·intro j v hv hp I' oI' C oC Dd ys nw' m₂ h tk E' hJ hs hoC hB F'' N'' off' hIC hID hCD
  (refine e_E5A4 (hB) ?_;clear hB;intro T l ta tb n e9_5 hl hTm ha hb;subst e9_5)
  (refine e_A (hJ) ?_;clear hJ;intro e9_0 hys;replace e9_0:=e9_0.symm;subst e9_0)
  rw [List.getElem?_map] at hv
  (refine e_EA (Option.map_eq_some_iff.mp hv) ?_;intro T' hT' e)
  cases e
  (refine e_EAE3 (htW.nth hT') ?_;intro l' hl' ta' tb' n' hTm')
  rw [hl'] at hp
  have hp':(l'.1 == nm)=true:=hp
  have el:=pairO_inj (news_fun Nk hTm' hTm)
  subst el
  have htk:(ways links cov pl).take (j + 1)=(ways links cov pl).take j++[l']:=by (refine rwl (List.take_add_one ..) ?_;refine rwl (hl' ..) ?_);rfl
  k_extra "w"
  refine i_E3A6 _ _ _ rfl (by k_asm) (by k_asm) off' hs rfl ?_
  have hf:[l'].filter (fun l=>l.1 == nm)=[l']:=by (refine rwl (List.filter_cons ..) ?_;refine rwl (if_pos hp' ..) ?_;refine rwl (List.filter_nil ..) ?_;with_reducible rfl)
  (refine rwl (htk ..) ?_;rewrite [outs];refine rwl (List.filter_append ..) ?_;refine rwl (hf ..) ?_;refine rwl (List.map_append ..) ?_;refine rwl (List.map_singleton ..) ?_)
  exact strs_snoc hys
 intro Dl h8 tk8 ys nw8 hJ F8 N8 hD8
 (refine e_A (hJ) ?_;clear hJ;intro e9_0 hys;replace e9_0:=e9_0.symm;subst e9_0)
 rw [List.length_map,htW.length,List.take_length] at hys
 iterate 1 k_extra "w"
 refine sorted_N_str (by k_asm) (by k_asm) (News.isList (by k_asm) (.head _)) hys (by refine rwl (strs_len hys ..) ?_;exact Nat.lt_of_le_of_lt (Nat.le_trans outs_len (ways_len Rl.few pl)) (by decide)) ?_
 intro h9 vs9 ss9 k9 F9 N9 hs9 hp9 ho9
 generalize ({ s with heap:=h8,toks:=tk8 }:Shared).heap.objs.size + 1=a9 at *
 (try dsimp only)
 refine strs_same (by k_asm) (by k_mem) hs7 (by k_mem) hs9 (sortedS_unique (hp7.trans ((outs_perm hLs6 hnd6 (Rl.ways_nodup pl) nm).trans hp9.symm)) ho7 ho9) (fun n hn=>(Rl.ways_names (l:=(nm,n)) ((hLs6 _).mp (mem_outs.mp (hp7.mem_iff.mp hn)))).2) (by ktr_units) ?_
 clear hs7 hp7 ho7 hs9 hp9 ho9 hys hF6
 obtain ⟨nwA,NA,hsbA⟩:∃ nw,News h₀ L h9 nw∧(∀ p∈news6,p∈nw):=⟨_,N9,fun p hp=>.tail _ (.tail _ (hsb7 p hp))⟩
 clear N9 N8
 have mN10:=hsbA _ mN6
 have hx6:=M6.x
 have hd6:=M6.d
 rw [x6] at hx6
 have hx10:=hsbA _ hx6
 have hd10:=hsbA _ hd6
 (refine e_EA (S6.oM) ?_;intro oM6 hcM6 hoM6)
 rw [x6] at hoM6
 have mM10:=hsbA _ hcM6
 iterate 18 k_extra "w"
 refine dm_users (D:=D6) x6 cov Rl6 nm pl tn tw hnm hpl (by k_asm) (by k_asm) (by k_asm) (by k_asm) (by k_asm) rfl (by ktr_room) (by ktr_units) (M6.sub fun p hp=>by have:=hsbA p hp;k_mem) ?_
 intro h11 tk11 news11 D11 Ls11 q11 k11 vs11 F11 N11 M11 P11 x11 v11 Rl11 hLs11 hnd11 fr11 hF11
 have S11:=(S6.sub fun p hp=>by have:=hsbA p hp;k_mem).dm M11 P11 x11
 have P611:=stp_of_sub (n:=news6) P11 fun p hp=>by have:=hsbA p hp;k_mem
 (refine e_A (stp_not (a:=cN) (o:=oN) P611 mN6 nN6) ?_;intro mN11 nN11)
 (refine e_A (stp_not (a:=wa) (o:=refsO ts kw) P611 mW6 nW6) ?_;intro mW11 nW11)
 have htW11:=tups_stp P611 htW6.1 htW6.2
 have hl11:Ls11.length≤5:=Nat.le_trans (nodup_le hnd11 fun x hx=>(hLs11 x).mp hx) (ways_len Rl.few pl)
 clear htW hsb7 mW7 mN7
 k_extra "w"
 refine sorted_N_str (by k_asm) (by k_asm) (News.isList (by k_asm) (.head _)) (strs_of hF11) (by refine rwl (hF11.length ..) ?_;have:=ins_len (Ls:=Ls11) (n:=nm);k_extra "ar") ?_
 intro h12 vs12 ss12 k12 F12 N12 hs12 hp12 ho12
 generalize ({ s with heap:=h11,toks:=tk11 }:Shared).heap.objs.size + 1=a12 at *
 obtain ⟨nw12,Nk12,hsb12,ha12⟩:∃ nw,News h₀ L h12 nw∧(∀ p∈news11,p∈nw)∧(a12,seqObj "list" vs12.toArray k12)∈nw:=⟨_,N12,fun p hp=>.tail _ (.tail _ hp),.head _⟩
 clear N12
 have mW12:=hsb12 _ mW11
 have mN12:=hsb12 _ mN11
 have htW:=htW11.1.sub hsb12
 (try dsimp only)
 iterate 4 k_extra "w"
 refine comp_overG (fun v m₂=>∃ T l ta tb n,v=.ref T∧l∈ways links cov pl∧(T,pairO l.1 l.2 ta tb n)∈nw12∧m₂ "a"=some (.str l.1 ta)∧m₂ "b"=some (.str l.2 tb))
  (fun j=>match (ways links cov pl)[j]? with | some l=>l.2 == nm | none=>false) (fun j ys nw'=>nw'=nw12∧StrsAre ys (ins ((ways links cov pl).take j) nm)) (by k_asm) rfl ?_ ?_ (by rfl) (by decide) (by rfl) (by decide) (by intro _;rfl)
 ·exact fun I l i v s Q E hit hQ=>go_list_tuple hit hQ
 k_extra "w"
 refine .mk wa (ts.map Value.ref) kw nw12 rfl (by k_asm) (by k_asm) (by k_mem) (by (refine rwl (List.length_map ..) ?_;refine rwl (htW.length ..) ?_);exact Nat.le_trans (ways_len Rl.few pl) (by decide)) ⟨rfl,.nil⟩ ?_ ?_ ?_ ?_ ?_ ?_
 ·intro j ys nw' e8_3;(refine e_A (e8_3) ?_;clear e8_3;intro _ hys)
  refine rwl (strs_len hys ..) ?_
  exact Nat.le_trans ins_len (List.length_take_le _ _)
 ·intro v hv C m₁ s Q E' hn nw' Nw hs hq
  (refine e_EA (List.mem_map.mp hv) ?_;intro T hT e9_2;subst e9_2)
  (refine e_EAE3 (htW.left hT) ?_;intro l hl ta tb n hTm)
  exact bind2 rfl rfl (by decide) (by decide) hn Nw (hs.2 _ hTm) (by decide) fun h' tk m₂ hn' hm hk=>hq h' tk m₂ hn' ⟨T,l,ta,tb,n,rfl,hl,hTm,hm.1,hm.2⟩ hk
 ·intro j v hv I' oI' C oC Dd ys nw' m₂ h tk E' hJ hs hoC hB F'' N''
  (refine e_E5A4 (hB) ?_;clear hB;intro T l ta tb n e9_5 hl hTm ha hb;subst e9_5)
  (refine e_A (hJ) ?_;clear hJ;intro e9_0 hys;replace e9_0:=e9_0.symm;subst e9_0)
  have hsel:(match (ways links cov pl)[j]? with | some l=>l.2 == nm | none=>false)=(l.2 == nm):=by
   rw [List.getElem?_map] at hv
   (refine e_EA (Option.map_eq_some_iff.mp hv) ?_;intro T' hT' e)
   cases e
   (refine e_EAE3 (htW.nth hT') ?_;intro l' hl' ta' tb' n' hTm')
   (refine rwl (hl' ..) ?_;refine rwl (pairO_inj (news_fun Nk12 hTm' hTm) ..) ?_;with_reducible rfl)
  refine rwl (hsel ..) ?_
  repeat k_extra "w"
  all_goals k_asm
 ·intro j v ys nw' hv hp e8_6;(refine e_A (e8_6) ?_;clear e8_6;intro hnw hys)
  rw [List.getElem?_map] at hv
  (refine e_EA (Option.map_eq_some_iff.mp hv) ?_;intro T' hT' e)
  (refine e_EA (htW.nth hT') ?_;intro l' hl' _)
  rw [hl'] at hp
  have hp':(l'.2 == nm)=false:=hp
  have htk:(ways links cov pl).take (j + 1)=(ways links cov pl).take j++[l']:=by (refine rwl (List.take_add_one ..) ?_;refine rwl (hl' ..) ?_);rfl
  refine ⟨hnw,?_⟩
  (refine rwl (htk ..) ?_;rewrite [ins];refine rwl (List.filter_append ..) ?_;refine rwl (show [l'].filter (fun l=>l.2 == nm)=[] by rw [List.filter_cons,if_neg (by rw [hp'];decide),List.filter_nil]) ?_;refine rwl (List.append_nil ..) ?_)
  exact hys
 ·intro j v hv hp I' oI' C oC Dd ys nw' m₂ h tk E' hJ hs hoC hB F'' N'' off' hIC hID hCD
  (refine e_E5A4 (hB) ?_;clear hB;intro T l ta tb n e9_5 hl hTm ha hb;subst e9_5)
  (refine e_A (hJ) ?_;clear hJ;intro e9_0 hys;replace e9_0:=e9_0.symm;subst e9_0)
  rw [List.getElem?_map] at hv
  (refine e_EA (Option.map_eq_some_iff.mp hv) ?_;intro T' hT' e)
  cases e
  (refine e_EAE3 (htW.nth hT') ?_;intro l' hl' ta' tb' n' hTm')
  rw [hl'] at hp
  have hp':(l'.2 == nm)=true:=hp
  have el:=pairO_inj (news_fun Nk12 hTm' hTm)
  subst el
  have htk:(ways links cov pl).take (j + 1)=(ways links cov pl).take j++[l']:=by (refine rwl (List.take_add_one ..) ?_;refine rwl (hl' ..) ?_);rfl
  k_extra "w"
  refine i_E3A6 _ _ _ rfl (by k_asm) (by k_asm) off' hs rfl ?_
  have hf:[l'].filter (fun l=>l.2 == nm)=[l']:=by (refine rwl (List.filter_cons ..) ?_;refine rwl (if_pos hp' ..) ?_;refine rwl (List.filter_nil ..) ?_;with_reducible rfl)
  (refine rwl (htk ..) ?_;rewrite [ins];refine rwl (List.filter_append ..) ?_;refine rwl (hf ..) ?_;refine rwl (List.map_append ..) ?_;refine rwl (List.map_singleton ..) ?_)
  exact strs_snoc hys
 intro Dl h8 tk8 ys nw8 hJ F8 N8 hD8
 (refine e_A (hJ) ?_;clear hJ;intro e9_0 hys;replace e9_0:=e9_0.symm;subst e9_0)
 rw [List.length_map,htW.length,List.take_length] at hys
 iterate 1 k_extra "w"
 refine sorted_N_str (by k_asm) (by k_asm) (News.isList (by k_asm) (.head _)) hys (by refine rwl (strs_len hys ..) ?_;exact Nat.lt_of_le_of_lt (Nat.le_trans ins_len (ways_len Rl.few pl)) (by decide)) ?_
 intro h13 vs13 ss13 k13 F13 N13 hs13 hp13 ho13
 generalize ({ s with heap:=h8,toks:=tk8 }:Shared).heap.objs.size + 1=a13 at *
 (try dsimp only)
 refine strs_same (by k_asm) (by k_mem) hs12 (by k_mem) hs13 (sortedS_unique (hp12.trans ((ins_perm hLs11 hnd11 (Rl.ways_nodup pl) nm).trans hp13.symm)) ho12 ho13) (fun n hn=>(Rl.ways_names (l:=(n,nm)) ((hLs11 _).mp (mem_ins.mp (hp12.mem_iff.mp hn)))).1) (by ktr_units) ?_
 clear hs12 hp12 ho12 hs13 hp13 ho13 hys hF11
 iterate 6 k_extra "w"
 exact ret _ _ news11 D11 (by k_asm) (news_sub N13 fun p hp=>.tail _ (.tail _ (hsb12 p hp))) S11 Rl11 (v11.trans v6) ((stp_of_sub P6 fun p hp=>by k_mem).trans P611)
end
theorem LStp.drop {O O1 O2:Addr→Prop} {n n1 n2:Led} {I:Addr} (x:LStp O O1 n n1) (y:LStp O1 O2 n1 n2) (off:∀ p∈n1,p.1≠I):LStp O O2 n (n2.filter fun p=>p.1 != I):=by
 refine ⟨fun p hp hn=>List.mem_filter.mpr ⟨y.keep p (x.keep p hp hn) fun h=>(x.new _ h).elim hn fun f=>f p hp rfl,by simpa using off p (x.keep p hp hn)⟩,fun a ha=>?_⟩
 exact (x.trans y).new a ha
section
variable {prog:Program} {w:World} {p:Program} {loose:List Str} {mean:ExcName→Option Value} {mg mb:Str→Option Value}
 {dp un:Nat} {gd:Option (List Code)} {cn:Str} {cs:Scope} {a:Addr} {ccd:Value} {cl:List (Str×Addr)} {outer:List Env} {A₀:Around} {base h₀:Heap} {L:Addr} {m:Str→Option Value} {s:Shared} {Q E:Value→Shared→Prop} {news:Led}

set_option maxHeartbeats 8000000 in
theorem law_place (sc:Addr) {cM cL cG cN lk:Addr} {D:DmA} {links:List Lk} {cov:Bool} {tups:List Addr} {kl:Nat} (lv:Nat) (m':Str→Option Value) (QF:Flow→Shared→Prop)
 (B:Below A₀ base [] h₀) (F:Fr h₀ L s.heap m') (X:(Kp w.params).In h₀) (N:News h₀ L s.heap news) (T:Top p loose mean mg mb h₀) (G:AllBare s.gens)
 (hdp:dp + 200 < recursionLimit) (hun:un + 2000 < cLine) (S:LawSt prog w cM cL cG cN news D links lk tups kl) (Rl:DmRel D links cov) (hcc:Cells cM cL cG cN) (hm:LawM m' sc lk lv cov) (hlv:D.lvl=lv)
 (pl:Str) (hpl:pl∈Places) (hwh:∃ t,m' "where"=some (.str pl t))
 (ret:∀ s' m2 news' D',s'.os=s.os→AllBare s'.gens→Fr h₀ L s'.heap m2→News h₀ L s'.heap news'→LawSt prog w cM cL cG cN news' D' links lk tups kl→DmRel D' links cov→D'.lvl=lv→LawM m2 sc lk lv cov→LStp (LOwn cM cL cG cN D lk tups) (LOwn cM cL cG cN D' lk tups) news news'→QF .next s')
 (hE:PassesOwn (model prog w) (lawA dp un gd L a ccd cM cL cG cN) (lawEnv L a ccd cM cL cG cN) E)
 : wpAny (model prog w) (lawA dp un gd L a ccd cM cL cG cN) (execs (lawFor 5) (lawEnv L a ccd cM cL cG cN)) QF E s:=by
 refine (let A1:=_;(?_:wpAny _ A1 _ _ _ _))
 (refine e_E (hwh) ?_;clear hwh;intro tw hwh)
 obtain ⟨msc,⟨tl,mlv⟩,mlk,mcov⟩:=hm
 refine (let m1:=_;fun (F1:Fr _ _ _ m1)=>?_) (fr_on hwh (fr_on msc (fr_on mlv (fr_on mlk (fr_on mcov F)))));clear F;rename Fr _ _ _ _=>F
 (first | refine (?_:wpAny _ _ (execs _ (envX _ _ _ _ _ _)) _ _ _) | refine (?_:wpAny _ _ (exec _ (envX _ _ _ _ _ _)) _ _ _))
 conv in lawFor 5=>whnf
 conv in (occs:=*) lawScope=>all_goals whnf
 have holk:=S.olk
 iterate 13 k_extra "w"
 refine law_at lk tups kl links cov pl tw hpl (fun l hl=>(Rl.ok l hl).2.2) (by k_asm) (by k_asm) (by k_asm) (by k_asm) (by k_asm) rfl (by ktr_room) (by ktr_units) (by k_mem) S.ht (by have:=S.few;k_extra "ar") ?_
 intro h8 tk8 q8 ts8 k8 nw8 F8 N8 hs8 hq8 ht8 hf8
 iterate 2 k_extra "w"
 have mNo:∀ a,D.own a→∃ o,(a,o)∈news:=fun a h=>S.M.there a h
 have hq8o:¬ D.own q8:=fun h=>by (refine e_E (mNo _ h) ?_;intro o ho);exact hq8 _ (hs8 _ ho) rfl
 have ht8o:∀ t∈ts8,¬ D.own t:=fun t ht h=>by (refine e_E (mNo _ h) ?_;intro o ho);exact hf8 t ht _ ho rfl
 refine for_list_c h₀ ?_ rfl rfl rfl (by intro _;rfl) hE
 iterate 2 k_extra "w"
 refine callWith_K0 (K:=Kp w.params) (X.keeps (Fr.keep (by k_asm))) (by k_is) ?_
 refine law_names (by k_asm) (by k_asm) (by k_asm) (by k_asm) (by k_asm) rfl (by ktr_room) (by ktr_units) ?_
 intro h9 tk9 q9 k9 u1 u2 u3 u4 F9 N9 l9
 have hq9o:¬ D.own q9:=fun h=>by (refine e_E (mNo _ h) ?_;intro o ho);exact absurd rfl (Nat.ne_of_lt (l9 (q9,o) (.tail _ (hs8 _ ho))))
 refine fun _ kM=>kM (fun _ m nw=>m=_∧∃ D',LawSt prog w cM cL cG cN nw D' links lk tups kl∧DmRel D' links cov∧D'.lvl=lv∧(q8,refsO ts8 k8)∈nw∧¬ D'.own q8∧TupsIn nw ts8 (ways links cov pl)∧(∀ t∈ts8,¬ D'.own t)∧¬ D'.own q9∧LStp (LOwn cM cL cG cN D lk tups) (LOwn cM cL cG cN D' lk tups) news nw) (LawG s) q9 ([.str "ann" u1,.str "bob" u2,.str "cat" u3,.str "dan" u4]) k9 _ _ (LawG.closed s) rfl ⟨rfl,G⟩ (by first | exact trivial | rfl) F9 N9 (.head _) ⟨rfl,D,S.sub fun p hp=>.tail _ (.tail _ (hs8 p hp)),Rl,hlv,.tail _ (.head _),hq8o,ht8.sub fun p hp=>.tail _ (.tail _ hp),ht8o,hq9o,.sub fun p hp=>.tail _ (.tail _ (hs8 p hp))⟩ ?_ ?_ ?_
 ·intro i m nw e8_3;(refine e_AEA (e8_3) ?_;clear e8_3;intro _ D' S' _)
  exact let ⟨o,v,h1,h2⟩:=S'.oN;⟨o,v,h1,h2⟩
 ·intro i v m1 nw s2 I oI oc e8_8 hv e8_10 hS off hcd e8_14 F2 N2;(refine e_A (e8_8) ?_;clear e8_8;intro os2 G2);(refine e_AEA8 (e8_10) ?_;clear e8_10;intro e9_0 D2 S2 Rl2 hlv2 hq2 hq2o ht2 ht2o hq9o2 P2;subst e9_0);(refine e_E (e8_14) ?_;clear e8_14;intro hh Nh)
  obtain ⟨nm,tn,rfl,hnm⟩:∃ nm t,v=.str nm t∧nm∈Names:=by
   (refine e_E2A (strs_nth (ws:=["ann","bob","cat","dan"]) (.cons _ _ (.cons _ _ (.cons _ _ (.cons _ _ .nil)))) hv) ?_;intro nm t e1 e2)
   exact i_E2A nm t e1 (names4 (List.mem_of_getElem? e2))
  (refine e_E2A (S2.oN) ?_;intro oNc vNc hcN hoN)
  have ne:∀ {a:Addr} {o:Obj},(a,o)∈nw→(∀ v,o.data≠.cell v)→a≠cN:=fun h hn=>news_ne Nh h hcN fun e=>hn vNc (e▸hoN)
  have S2c:=S2.cell Nh (.inr (.inr rfl)) hcc.mn hcd
  have hq2c:(q8,refsO ts8 k8)∈upd cN oc nw:=mem_upd hq2 (ne hq2 fun v=>by nofun)
  have hS2c:=mem_upd (d:=cN) (o:=oc) hS (ne hS fun v=>by nofun)
  have ht2c:TupsIn (upd cN oc nw) ts8 (ways links cov pl):=ht2.mono fun t l ⟨a,b,n,h⟩=>⟨a,b,n,mem_upd h (ne h fun v=>by nofun)⟩
  refine law_inner (D:=D2) sc lv _ _ B F2 X N2 T hdp hun (S2c.sub fun p hp=>.tail _ hp) Rl2 ⟨rfl,⟨_,rfl⟩,rfl,rfl⟩ nm pl hnm hpl (.tail _ mem_upd_self) hcd ⟨_,rfl⟩ q8 ts8 k8 rfl (.tail _ hq2c) (ht2c.sub fun p hp=>.tail _ hp) hq2o ht2o ?_
  intro h3 tk3 news3 D3 F3 N3 S3 Rl3 v3 P3
  have y:LStp (LOwn cM cL cG cN D2 lk tups) (LOwn cM cL cG cN D3 lk tups) nw news3:=((LStp.upd (c:=cN) (o:=oc) (.inr (.inr (.inr (.inr (.inl rfl)))))).trans (.sub fun p hp=>.tail _ hp)).trans (LStp.dm P3)
  have hO:¬ LOwn cM cL cG cN D2 lk tups I:=fun h=>by
   (refine e_E (S2.there h) ?_;intro o ho)
   exact off _ ho rfl
  (refine e_A2 (S3.drop (LStp.dm P3) (.head _) hO) ?_;intro S4 hI4 off4)
  have kq:∀ {a:Addr} {o:Obj},(a,o)∈upd cN oc nw→a≠I→¬ D2.own a→(a,o)∈news3.filter (fun p=>p.1 != I)∧¬ D3.own a:=fun hm hn ho=>by
   (refine e_A (stp_not P3 (.tail _ hm) ho) ?_;intro k1 k2)
   exact ⟨List.mem_filter.mpr ⟨k1,by simpa using hn⟩,k2⟩
  have kS:=kq hS2c (off _ hS) hq9o2
  have kQ:=kq hq2c (off _ hq2) hq2o
  refine ⟨_,_,⟨os2,G2⟩,F3,(news_sub N3 (List.forall_mem_cons.mpr ⟨hI4,fun p hp=>(List.mem_filter.mp hp).1⟩)),off4,kS.1,rfl,D3,S4,Rl3,(v3.trans hlv2),kQ.1,kQ.2,?_,?_,kS.2,(P2.drop y off)⟩
  ·exact ht2c.monoMem fun t ht l _ ⟨a,b,n,h⟩=>⟨a,b,n,(kq h (by (refine e_EAE3 (ht2.left ht) ?_;intro l' _ a' b' n' h');exact off _ h') (ht2o t ht)).1⟩
  ·exact fun t ht=>by
    (refine e_EAE3 (ht2c.left ht) ?_;intro l' _ a' b' n' h')
    (refine e_EAE3 (ht2.left ht) ?_;intro l2 _ a2 b2 n2 h2)
    exact (kq h' (off _ h2) (ht2o t ht)).2
 ·intro s2 m2 news2 e8_3 F2 N2 e8_6;(refine e_A (e8_3) ?_;clear e8_3;intro os2 G2);(refine e_AEA8 (e8_6) ?_;clear e8_6;intro e9_0 D2 S2 Rl2 hlv2 _ _ _ _ _ P2;subst e9_0)
  k_extra "w"
  exact ret s2 _ news2 D2 os2 G2 (by k_asm) (by k_asm) S2 Rl2 hlv2 ⟨rfl,⟨_,rfl⟩,rfl,rfl⟩ P2
end
section
variable {prog:Program} {w:World} {p:Program} {loose:List Str} {mean:ExcName→Option Value} {mg mb:Str→Option Value}
 {dp un:Nat} {gd:Option (List Code)} {cn:Str} {cs:Scope} {a:Addr} {ccd:Value} {cl:List (Str×Addr)} {outer:List Env} {A₀:Around} {base h₀:Heap} {L:Addr} {m:Str→Option Value} {s:Shared} {Q E:Value→Shared→Prop} {news:Led}

set_option maxHeartbeats 8000000 in
theorem law_ends (vs:List Value) (xs:List Int) (hi:IntsAre vs xs) (hl:vs.length≤63) (sc:Addr) {cM cL cG cN:Addr} (lv:Nat) (m':Str→Option Value) (QF:Flow→Shared→Prop)
 (B:Below A₀ base [] h₀) (F:Fr h₀ L s.heap m') (X:(Kp w.params).In h₀) (N:News h₀ L s.heap news) (T:Top p loose mean mg mb h₀) (G:AllBare s.gens)
 (hdp:dp + 200 < recursionLimit) (hun:un + 2000 < cLine) (hcc:Cells cM cL cG cN) (hsc:h₀.IsList sc vs.toArray) (hJ:LawJ prog w cM cL cG cN sc lv m' news)
 (ret:∀ s' m2 news',s'.os=s.os→AllBare s'.gens→Fr h₀ L s'.heap m2→News h₀ L s'.heap news'→LawJ prog w cM cL cG cN sc lv m2 news'→QF .next s')
 (hE:PassesOwn (model prog w) (lawA dp un gd L a ccd cM cL cG cN) (lawEnv L a ccd cM cL cG cN) E)
 : wpAny (model prog w) (lawA dp un gd L a ccd cM cL cG cN) (exec (lawSt 5) (lawEnv L a ccd cM cL cG cN)) QF E s:=by
 refine (let A1:=_;(?_:wpAny _ A1 _ _ _ _))
 (refine e_E6A3 (hJ) ?_;clear hJ;intro D links cov lk tups kl S Rl hm hlv)
 obtain ⟨msc,⟨tl,mlv⟩,mlk,mcov⟩:=hm
 refine (let m1:=_;fun (F1:Fr _ _ _ m1)=>?_) (fr_on msc (fr_on mlv (fr_on mlk (fr_on mcov F))));clear F;rename Fr _ _ _ _=>F
 (first | refine (?_:wpAny _ _ (execs _ (envX _ _ _ _ _ _)) _ _ _) | refine (?_:wpAny _ _ (exec _ (envX _ _ _ _ _ _)) _ _ _))
 conv in lawSt 5=>whnf
 conv in (occs:=*) lawScope=>all_goals whnf
 refine for_list h₀ ?_ rfl rfl (by intro _;rfl) hE
 iterate 5 k_extra "w"
 refine callWith_K0 (K:=Kp w.params) (X.keeps (Fr.keep (by k_asm))) (by k_is) ?_
 refine law_places (by k_asm) (by k_asm) (by k_asm) (by k_asm) (by k_asm) rfl (by ktr_room) (by ktr_units) ?_
 intro h8 tk8 q8 k8 v1 v2 v3 v4 v5 F8 N8 l8
 iterate 10 k_extra "w"
 refine law_numberZ sc vs xs hi hl 19 _ rfl _ (by omega) (by k_asm) (by k_asm) (by k_asm) (by k_asm) (by k_asm) rfl (by ktr_room) (by ktr_units) hsc ?_
 intro h5 tk5 z5 t5 F5 N5
 iterate 3 k_extra "w"
 refine sub_pick (its:=[.str "a/x" v1,.str "a/y" v2,.str "b/x" v3,.str "a/*" v4,.str "*" v5]) (ws:=["a/x","a/y","b/x","a/*","*"]) (by k_asm) (.head _) (.cons _ _ (.cons _ _ (.cons _ _ (.cons _ _ (.cons _ _ .nil))))) (Int.fmod_nonneg_of_pos _ (by decide)) (Int.fmod_lt_of_pos _ (by decide)) (by decide) ?_
 intro pA tA hpA
 iterate 4 k_extra "w"
 refine callWith_K0 (K:=Kp w.params) (X.keeps (Fr.keep (by k_asm))) (by k_is) ?_
 refine law_places (by k_asm) (by k_asm) (by k_asm) (by k_asm) (by k_asm) rfl (by ktr_room) (by ktr_units) ?_
 intro h9 tk9 q9 k9 w1 w2 w3 w4 w5 F9 N9 l9
 iterate 10 k_extra "w"
 refine law_numberZ sc vs xs hi hl 20 _ rfl _ (by k_extra "ar") (by k_asm) (by k_asm) (by k_asm) (by k_asm) (by k_asm) rfl (by ktr_room) (by ktr_units) hsc ?_
 intro h6 tk6 z6 t6 F6 N6
 iterate 3 k_extra "w"
 refine sub_pick (its:=[.str "a/x" w1,.str "a/y" w2,.str "b/x" w3,.str "a/*" w4,.str "*" w5]) (ws:=["a/x","a/y","b/x","a/*","*"]) (by k_asm) (.head _) (.cons _ _ (.cons _ _ (.cons _ _ (.cons _ _ (.cons _ _ .nil))))) (Int.fmod_nonneg_of_pos _ (by decide)) (Int.fmod_lt_of_pos _ (by decide)) (by decide) ?_
 intro pB tB hpB
 iterate 2 k_extra "w"
 rename_i qx hx9 Fx Nx lx
 have hqx:¬ LOwn cM cL cG cN D lk tups qx:=fun h=>by
  (refine e_E (S.there h) ?_;intro o ho)
  (refine e_A2 (lx) ?_;clear lx;intro _ _ b3)
  exact absurd rfl (Nat.ne_of_lt (allLt_mem b3 _ ho))
 refine fun _ kM=>kM (fun _ m nw=>LawM m sc lk lv cov∧∃ D',LawSt prog w cM cL cG cN nw D' links lk tups kl∧DmRel D' links cov∧D'.lvl=lv∧¬ LOwn cM cL cG cN D' lk tups qx) (LawG s) qx ([.str pA tA,.str pB tB]) 0 _ _ (LawG.closed s) rfl ⟨rfl,G⟩ (by first | exact trivial | rfl) (by k_asm) (by k_asm) (.head _) ⟨⟨rfl,⟨_,rfl⟩,rfl,rfl⟩,D,S.sub fun p hp=>by k_mem,Rl,hlv,hqx⟩ ?_ ?_
 ·intro i v m1 nw s2 I oI e8_7 hv e8_9 hS off F2 N2;(refine e_A (e8_7) ?_;clear e8_7;intro os2 G2);(refine e_AEA3 (e8_9) ?_;clear e8_9;intro hm2 D2 S2 Rl2 hlv2 hq2)
  obtain ⟨pl,tp,rfl,hpl⟩:∃ pl t,v=.str pl t∧pl∈Places:=by
   (refine e_E2A (strs_nth (ws:=[pA,pB]) (.cons _ _ (.cons _ _ .nil)) hv) ?_;intro nm t e1 e2)
   refine i_E2A nm t e1 ?_
   rcases List.mem_cons.mp (List.mem_of_getElem? e2) with rfl | h
   ·exact hpA
   ·refine rwl (List.mem_singleton.mp h ..) ?_;exact hpB
  have hO:¬ LOwn cM cL cG cN D2 lk tups I:=fun h=>by
   (refine e_E (S2.there h) ?_;intro o ho)
   exact off _ ho rfl
  refine law_place (D:=D2) sc lv _ _ B F2 X N2 T G2 hdp hun (S2.sub fun p hp=>.tail _ hp) Rl2 hcc (hm2.put (by decide) (by decide) (by decide) (by decide)) hlv2 pl hpl ⟨tp,if_pos rfl⟩ ?_ hE
  intro s3 m3 news3 D3 os3 G3 F3 N3 S3 Rl3 v3 hm3 P3
  (refine e_A2 (S3.drop P3 (.head _) hO) ?_;intro S4 hI4 off4)
  (refine e_A (P3.put (.tail _ hS) hq2) ?_;intro k1 k2)
  exact i_E2A6EA3 m3 _ ⟨os3.trans os2,G3⟩ F3 (news_sub N3 (List.forall_mem_cons.mpr ⟨hI4,fun p hp=>(List.mem_filter.mp hp).1⟩)) off4 (List.mem_filter.mpr ⟨k1,by simpa using off _ hS⟩) hm3 D3 S4 Rl3 v3 k2
 ·intro s2 m2 news2 e8_3 F2 N2 e8_6;(refine e_A (e8_3) ?_;clear e8_3;intro os2 G2);(refine e_AEA3 (e8_6) ?_;clear e8_6;intro hm2 D2 S2 Rl2 hlv2 _)
  exact ret s2 m2 news2 os2 G2 F2 N2 ⟨D2,links,cov,lk,tups,kl,S2,Rl2,hm2,hlv2⟩
end
section
variable {prog:Program} {w:World} {A:Around} {s:Shared} {h₀:Heap} {L:Addr} {m:Str→Option Value} {env:Env}
theorem rest_all {elt:Expr} {x:Str} {scope:Scope} {cl:List (Str×Addr)} {S:List (Addr×Obj)→Prop} {P:Nat→Value→Prop} {Fin:List Value→List (Addr×Obj)→Prop} {news:Led} (V:Value) (n₀:Nat) (hS:S news) (fin:Fin (List.replicate n₀ V) news)
  (step:∀ i,i < n₀→∀ v I oI C oC D ys m₂ h tk (E':Value→Shared→Prop),P i v→NsObj oC m₂→m₂ x=some v→Fr h₀ L h m→News h₀ L h ((I,oI)::(C,oC)::(D,lst ys)::news) →
   wpAny (model prog w) A (eval elt (compEnvC scope cl C env)) (fun y s'=>y=V∧∃ h' tk',s'={ s with heap:=h',toks:=tk' }∧Fr h₀ L h' m∧News h₀ L h' ((I,oI)::(C,oC)::(D,lst ys)::news)) E' { s with heap:=h,toks:=tk }) :
  CompRest prog w A h₀ L m env elt x scope cl s S P Fin n₀ 0 [] news:=by
 have go:∀ k i,i + k=n₀→CompRest prog w A h₀ L m env elt x scope cl s S P Fin k i (List.replicate i V) news:=by
  intro k
  induction k with
  | zero =>
   intro i hi
   rw [Nat.add_zero] at hi
   subst hi
   exact CompRest.zero fin
  | succ k ih =>
   intro i hi
   refine CompRest.succ fun v I oI C oC D m₂ h tk E' hP hoC hx F N off ne=>?_
   refine wpAny_mono (step i (ar_lts hi) v I oI C oC D _ m₂ h tk E' hP hoC hx F N) (fun y s' r=>?_) fun _ _ e=>e
   (refine e_AE2A2 (r) ?_;clear r;intro e9_0 h' tk' e9_3 F' N';subst e9_0;subst e9_3)
   have r1:=ih (i + 1) (by k_extra "ar")
   rw [List.replicate_succ'] at r1
   exact i_E3A5 h' tk' news rfl F' N' off hS r1
 exact go n₀ 0 (Nat.zero_add _)
end
section
variable {prog:Program} {w:World} {A:Around} {E:Value→Shared→Prop} {s:Shared} {h₀:Heap} {L a b:Addr} {news:Led} {Q:Value→Shared→Prop}
theorem five_reads (h:Heap):ReadsAll h [.bool true,.bool true,.bool true,.bool true,.bool true] [.bool true,.bool true,.bool true,.bool true,.bool true] [] :=
 .cons (as:=[]) (.bool _) (.cons (as:=[]) (.bool _) (.cons (as:=[]) (.bool _) (.cons (as:=[]) (.bool _) (.cons (as:=[]) (.bool _) .nil))))
theorem five_eq {ka kb:Nat} (N:News h₀ L s.heap news) (ma:(a,listOf #[.bool true,.bool true,.bool true,.bool true,.bool true] ka)∈news) (mb:(b,listOf #[.bool true,.bool true,.bool true,.bool true,.bool true] kb)∈news) (hu:A.units + 64 < cLine) (h:Q (.bool true) s) :
  wpAny (model prog w) A (compareOp .Eq (.ref a) (.ref b)) Q E s :=
 eq_dataH (reads_list_at (N.get ma) rfl rfl (five_reads _)) (reads_list_at (N.get mb) rfl rfl (five_reads _)) (by decide) (by decide) hu h
end
section
variable {prog:Program} {w:World} {p:Program} {loose:List Str} {mean:ExcName→Option Value} {mg mb:Str→Option Value}
 {dp un:Nat} {gd:Option (List Code)} {cn:Str} {cs:Scope} {a:Addr} {ccd:Value} {cl:List (Str×Addr)} {outer:List Env} {A₀:Around} {base h₀:Heap} {L:Addr} {m:Str→Option Value} {s:Shared} {Q E:Value→Shared→Prop} {news:Led}

set_option maxHeartbeats 2000000 in
theorem law_last (sc:Addr) {cM cL cG cN:Addr} (lv:Nat) (m':Str→Option Value) (QF:Flow→Shared→Prop)
 (B:Below A₀ base [] h₀) (F:Fr h₀ L s.heap m') (X:(Kp w.params).In h₀) (N:News h₀ L s.heap news) (T:Top p loose mean mg mb h₀) (XB:(Kp w.params).In base) (TB:Top p loose mean mg mb base) (C2:CodeHd h₀ 908 906) (G:AllBare s.gens)
 (hdp:dp + 200 < recursionLimit) (hun:un + 2000 < cLine) (hJ:LawJ prog w cM cL cG cN sc lv m' news)
 (ret:∀ s' m2 news',s'.os=s.os→AllBare s'.gens→Fr h₀ L s'.heap m2→News h₀ L s'.heap news'→(∃ D,DmMem prog w news' D)→(∃ ps,(941,tabObj ps)∈news')→QF (.ret (.bool true)) s')
 : wpAny (model prog w) (lawA dp un gd L a ccd cM cL cG cN) (execs (lawBody.drop 6) (lawEnv L a ccd cM cL cG cN)) QF E s:=by
 refine (let A1:=_;(?_:wpAny _ A1 _ _ _ _))
 (refine e_E6A3 (hJ) ?_;clear hJ;intro D links cov lk tups kl S Rl hm hlv)
 obtain ⟨msc,⟨tl,mlv⟩,mlk,mcov⟩:=hm
 refine (let m1:=_;fun (F1:Fr _ _ _ m1)=>?_) (fr_on msc (fr_on mlv (fr_on mlk (fr_on mcov F))));clear F;rename Fr _ _ _ _=>F
 (first | refine (?_:wpAny _ _ (execs _ (envX _ _ _ _ _ _)) _ _ _) | refine (?_:wpAny _ _ (exec _ (envX _ _ _ _ _ _)) _ _ _))
 conv in lawBody.drop 6=>whnf
 conv in (occs:=*) lawScope=>all_goals whnf
 (refine e_EA (S.oM) ?_;intro oM hcM hoM)
 have hx:=S.M.x
 have hd:=S.M.d
 have hMo:=S.off cM (.inl rfl)
 have hno:(("yak","zed"):Str×Str) ∉ links.map pr:=fun h=>by
  (refine e_EA (List.mem_map.mp h) ?_;intro l hl e)
  exact S.yz l hl (congrArg Prod.fst e)
 iterate 14 k_extra "w"
 refine dm_add (D:=D) rfl cov Rl.fn "yak" "zed" "a/x" _ _ _ (by decide) (by decide) (by decide) (by k_asm) (by k_asm) (by k_asm) (by k_asm) (by k_asm) rfl (by ktr_room) (by ktr_units) (S.M.sub fun p hp=>by k_mem) (Rl.ls_len _) (fun q hq=>⟨fun h=>?_,Nat.le_trans (Rl.rm_len S.M hq) (by decide)⟩) ?_
 ·(refine e_EA (mem_ways.mp ((Rl.rms q hq _).mp h)) ?_;intro p hp _)
  exact hno (List.mem_map.mpr ⟨_,hp,rfl⟩)
 intro h8 tk8 news8 D8 F8 N8 M8 P8 x8 f8 v8 hls8 hrm8
 have Rl8:=Rl.add (n1:="yak") (n2:="zed") (dm:="a/x") (by decide) (by decide) (by decide) hno S.few f8 hls8 hrm8
 have S8:=(S.sub fun p hp=>by k_mem).dm M8 P8 x8
 (refine e_A (stp_not (a:=cM) (o:=oM) P8 (by k_mem) hMo) ?_;intro mM8 nM8)
 have hx8:=M8.x
 have hd8:=M8.d
 rw [x8] at hx8
 iterate 11 k_extra "w"
 refine call_range_1 ?_
 refine LCg.CompSrc.range (n:=5) (news:=news8) (by rfl) (Fr.push (by k_asm) _) (News.pushKeep (by k_asm) _) (IsRange.new _ _ _ _ _ _ _) (by decide) (by rfl) (Nat.le_of_ble_eq_true rfl) ?_
 intro g9
 refine rest_all (.bool true) 5 trivial ?_ ?_
 ·unfold LCg.FinE
  intro q10 h10 tk10 F10 N10 o10
  rw [show List.replicate 5 (Value.bool true)=[.bool true,.bool true,.bool true,.bool true,.bool true] from rfl] at N10
  iterate 7 k_extra "w"
  rename_i q11 h11 F11 N11 l11
  refine mul_list (items:=#[.bool true]) (k:=0) (by k_asm) (by k_asm) (N11 _ (.head _)).1 (by decide) (by decide) (by decide) ?_
  intro h12 F12 N12
  rw [show (List.foldl (fun x1 x2=>x1++x2) (#[]:Array Value) (List.replicate (if (#[Value.bool true]:Array Value).isEmpty=true then 0 else (5:Int).toNat) #[.bool true]))=[Value.bool true,.bool true,.bool true,.bool true,.bool true].toArray from rfl] at N12
  refine five_eq (ka:=5) (kb:=0) N12 (.tail _ (.tail _ (.head _))) (.head _) (by ktr_units) ?_
  obtain ⟨nwA,NA,hsbA⟩:∃ nw,News h₀ L h12 nw∧(∀ p∈news8,p∈nw):=⟨_,N12,fun p hp=>.tail _ (.tail _ (.tail _ hp))⟩
  clear N12 N11
  have hxA:=hsbA _ hx8
  have hdA:=hsbA _ hd8
  have mMA:=hsbA _ mM8
  iterate 16 k_extra "w"
  refine dm_has (D:=D8) x8 cov Rl8 "yak" "zed" "a/x" _ _ _ (by decide) (by decide) (by decide) (by k_asm) (by k_asm) (by k_asm) (by k_asm) (by k_asm) rfl (by ktr_room) (by ktr_units) C2 G (M8.sub fun p hp=>by have:=hsbA p hp;k_mem) ?_
  intro s13 news13 D13 Ls os13 G13 F13 N13 M13 P13 x13 v13 Rl13 hLs hnd
  have hb:=M8.lvl.1
  have hval:hasL Ls "zed" D8.lvl ["yak"]=decide ((lv:Int) > 1):=by
   have e1:D8.lvl=lv:=v8.trans hlv
   (refine rwl (show D8.lvl=(lv - 1) + 1 by k_extra "ar") ?_;refine rwl (hasL_nears hLs ..) ?_;refine rwl (propext (Bool.eq_iff_iff ..)) ?_;refine rwl (propext (any_mem ..)) ?_;refine rwl (propext (mem_nears ..)) ?_;refine rwl (propext (decide_eq_true_iff ..)) ?_)
   constructor
   ·intro e8_0;(refine e_EA (e8_0) ?_;clear e8_0;intro j hj hw)
    by_cases h1:lv=1
    ·have hj0:j=0:=ar_j0 hj h1
     subst hj0
     exact absurd hw (by unfold Wk;decide)
    ·exact ar_gt hlv v8 hb h1
   ·intro h
    exact ⟨1,ar_p1 h,"zed",mem_ways.mpr ⟨"a/x",List.mem_append_right _ (.head _),.inl rfl⟩,rfl⟩
  refine rwl (hval ..) ?_
  iterate 5 k_extra "w"
  refine rwl (show (decide ((lv:Int) > 1) == decide (1 < (lv:Int)))=true by simp) ?_
  (refine e_E (S8.t3) ?_;intro ps hps)
  have h941:=stp_not P13 (by have:=hsbA _ hps;k_mem) (S8.off 941 (.inr (.inr (.inr (.inr (.inr (.inr rfl)))))))
  exact ret _ _ news13 os13 G13 (by k_asm) (by k_asm) ⟨D13,M13⟩ ⟨ps,h941.1⟩
 ·intro i hi v I oI C oC Dd ys m₂ h tk E' hv hoC hxv F9 N9
  (refine e_E (hv) ?_;clear hv;intro t9 e9_1;subst e9_1)
  iterate 10 k_extra "w"
  refine rwl (show (0 + (i:Int))=(i:Int) by k_extra "ar") ?_
  refine law_refused (D:=D8) x8 i t9 hi (by k_asm) (by k_asm) (by k_asm) (by k_asm) (by k_asm) rfl XB TB (by ktr_room) (by ktr_units) (M8.sub fun p hp=>by k_mem) ?_
  intro h11 tk11 F11 N11
  exact i_AE2A2 rfl _ _ rfl (by k_asm) (by k_asm)
end
theorem body4:lawBody.drop 4=lawSt 4::lawSt 5::lawBody.drop 6:=by rfl
section
variable {prog:Program} {w:World} {p:Program} {loose:List Str} {mean:ExcName→Option Value} {mg mb:Str→Option Value}
 {dp un:Nat} {gd:Option (List Code)} {cn:Str} {cs:Scope} {a:Addr} {ccd:Value} {cl:List (Str×Addr)} {outer:List Env} {A₀:Around} {base h₀:Heap} {L:Addr} {m:Str→Option Value} {s:Shared} {Q E:Value→Shared→Prop} {news:Led}

theorem law_whole (vs:List Value) (xs:List Int) (hi:IntsAre vs xs) (hl:vs.length≤63) (sc:Addr) {cM cL cG cN:Addr} (m':Str→Option Value) (QF:Flow→Shared→Prop)
 (B:Below A₀ base [] h₀) (F:Fr h₀ L s.heap m') (X:(Kp w.params).In h₀) (N:News h₀ L s.heap news) (T:Top p loose mean mg mb h₀) (XB:(Kp w.params).In base) (TB:Top p loose mean mg mb base) (C:CodeHd h₀ 744 742) (C2:CodeHd h₀ 908 906) (C3:CodeHd h₀ 945 941) (G:AllBare s.gens)
 (hdp:dp + 200 < recursionLimit) (hun:un + 2000 < cLine) (hcc:Cells cM cL cG cN) (hsc:h₀.IsList sc vs.toArray) (hmsc:m' "script"=some (.ref sc)) (hpg:ProgOk prog)
 {oM oL oG oN:Obj} (hM:(cM,oM)∈news) (hL:(cL,oL)∈news) (hG:(cG,oG)∈news) (hN:(cN,oN)∈news) (dM:oM.data=.cell none) (dL:oL.data=.cell none) (dG:oG.data=.cell none) (dN:oN.data=.cell none)
 (t1:(742,tabObj #[])∈news) (t2:(906,tabObj #[])∈news) (t3:(941,tabObj #[])∈news)
 (ret:∀ s' m2 news',s'.os=s.os→AllBare s'.gens→Fr h₀ L s'.heap m2→News h₀ L s'.heap news'→(∃ D,DmMem prog w news' D)→(∃ ps,(941,tabObj ps)∈news')→QF (.ret (.bool true)) s')
 (hE:PassesOwn (model prog w) (lawA dp un gd L a ccd cM cL cG cN) (lawEnv L a ccd cM cL cG cN) E)
 : wpAny (model prog w) (lawA dp un gd L a ccd cM cL cG cN) (execs lawBody (lawEnv L a ccd cM cL cG cN)) QF E s:=by
 refine law_front vs xs hi hl sc m' QF B F X N T C3 hdp hun hcc hsc hmsc hpg hM hL hG hN dM dL dG dN t1 t2 t3 ?_
 intro h1 tk1 m1 news1 lv F1 N1 J1
 refine rwl (body4 ..) ?_
 refine wpAny_execs_cons ?_
 refine law_loop (s:={ s with heap:=h1,toks:=tk1 }) vs xs hi hl sc lv m1 _ B F1 X N1 T XB TB C C2 G hdp hun hcc hsc J1 ?_ hE
 intro s2 m2 news2 os2 G2 F2 N2 J2
 refine wpAny_execs_cons ?_
 refine law_ends vs xs hi hl sc lv m2 _ B F2 X N2 T G2 hdp hun hcc hsc J2 ?_ hE
 intro s3 m3 news3 os3 G3 F3 N3 J3
 refine law_last sc lv m3 QF B F3 X N3 T XB TB C2 G3 hdp hun J3 ?_
 intro s4 m4 news4 os4 G4 F4 N4 hD h9
 exact ret s4 m4 news4 (os4.trans (os3.trans os2)) G4 F4 N4 hD h9
end
theorem kn_postG {M:Model} {A:Around} {cd:Code} {s s₁:Shared} {cw:ClaimW} {cl:Str→Option Addr} {mean:ExcName→Option Value} {args:List WData} {tabs:List (Addr×Addr)} (hT:TabsAt tabs s₁.heap) (hr:∀ x,cw.raises args x=false) (hp:cw.post args (ofPy (.bool true)) args=true)
  (h:codeAny M A cd (fun r s'=>r=.ok (.ret (.bool true))∧(∀ b o,(ghostOf s₁.heap tabs).get? b=some o→s'.heap.get? b=some o)∧s'.os=s₁.os∧AllBare s'.gens∧GrownAll tabs s'.heap) s):codeAny M A cd (GoodWG cw cl mean args s₁) s :=
 codeAny_mono h fun r s' ⟨hc,hk,hos,hg,hgr⟩=>by
  have keep:∀ b o,b ∉ tabs.map (·.2)→s₁.heap.get? b=some o→s'.heap.get? b=some o:=fun b o hb e=>hk b o (ghost_ne e hb)
  have grown:∀ b o,b∈tabs.map (·.2)→s₁.heap.get? b=some o→isCodeTable s₁.heap b∧o=tabObj #[]∧∃ ps,s'.heap.get? b=some (tabObj ps):=fun b o hb e=>by
   (refine e_EA (List.mem_map.mp hb) ?_;intro q hq e9_2;subst e9_2)
   have e2:=(hT q hq).2
   rw [e] at e2
   exact ⟨((hT q hq).1.tab (hT q hq).2).isCodeTable,Option.some.inj e2,hgr.get q hq⟩
  refine ⟨.inl ⟨_,ofPy (.bool true),[],hc,hr,.bool _,hp,fun _=>⟨List.nodup_nil,fun a ha=>absurd ha List.not_mem_nil⟩⟩,⟨fun b o e=>?_,fun b o e=>?_⟩,hos,hg⟩
  ·by_cases hb:b∈tabs.map (·.2)
   ·(refine e_A2E (grown b o hb e) ?_;intro ht e9_1 ps hP;subst e9_1)
    exact .inr (.inl ⟨ht,rfl,#[],ps,rfl,by refine rwl (Array.empty_append ..) ?_;exact hP⟩)
   ·exact .inl (keep b o hb e)
  ·by_cases hb:b∈tabs.map (·.2)
   ·(refine e_A2E (grown b o hb e) ?_;intro _ _ ps hP)
    exact ⟨_,hP⟩
   ·exact ⟨o,keep b o hb e⟩
theorem cells4 (L:Nat):Cells (L + 1) (L + 1 + 1) (L + 1 + 1 + 1) (L + 1 + 1 + 1 + 1):=by
 exact ⟨Nat.ne_of_lt .refl,Nat.ne_of_lt (.step .refl),Nat.ne_of_lt (.step (.step .refl)),Nat.ne_of_lt .refl,Nat.ne_of_lt (.step .refl),Nat.ne_of_lt .refl⟩
theorem grown3 {h₀ h:Heap} {L:Addr} {prog:Program} {w:World} {news:Led} (N:News h₀ L h news) {D:DmA} (M:DmMem prog w news D) (h9:∃ ps,(941,tabObj ps)∈news):GrownAll [(744,742),(908,906),(945,941)] h:=by
 (refine e_EA (M.t1) ?_;intro p1 m1 _)
 (refine e_EA (M.t2) ?_;intro p2 m2 _)
 (refine e_E (h9) ?_;clear h9;intro p3 m3)
 exact ⟨GrownAt.of N m1,GrownAt.of N m2,GrownAt.of N m3,trivial⟩
theorem top_env (L a:Addr) (cd:Value):envOfC "law" lawScope L a cd=envX "law" lawScope L a cd [("name",L + 1 + 1 + 1 + 1),("gone",L + 1 + 1 + 1),("link",L + 1 + 1),("manager",L + 1)]:=rfl
theorem top_around (L a:Addr) (cd:Value):callerA.deeper (envOfC "law" lawScope L a cd)=ktrTop (callerA.deeper (envOfC "law" lawScope L a cd)).depth (callerA.deeper (envOfC "law" lawScope L a cd)).units (callerA.deeper (envOfC "law" lawScope L a cd)).guards "law" lawScope L a cd [("name",L + 1 + 1 + 1 + 1),("gone",L + 1 + 1 + 1),("link",L + 1 + 1),("manager",L + 1)] []:=rfl
theorem law_top {prog:Program} {w:World} {p:Program} {loose:List Str} {mean:ExcName→Option Value} {mg mb:Str→Option Value} {L a:Addr} {ccd:Value} {h₀:Heap} {s:Shared} {E:Value→Shared→Prop} (vs:List Value) (xs:List Int) (hi:IntsAre vs xs) (hl:vs.length≤63) (sc:Addr) (m':Str→Option Value) (QF:Flow→Shared→Prop)
 (B:Below callerA h₀ [] h₀) (F:Fr h₀ L s.heap m') (X:(Kp w.params).In h₀) {w1 w2 w3 w4:Obj} (N:News h₀ L s.heap [(L + 1 + 1 + 1 + 1,w4),(L + 1 + 1 + 1,w3),(L + 1 + 1,w2),(L + 1,w1),(742,tabObj #[]),(906,tabObj #[]),(941,tabObj #[])]) (T:Top p loose mean mg mb h₀) (C:CodeHd h₀ 744 742) (C2:CodeHd h₀ 908 906) (C3:CodeHd h₀ 945 941) (G:AllBare s.gens)
 (hsc:h₀.IsList sc vs.toArray) (hmsc:m' "script"=some (.ref sc)) (hpg:ProgOk prog) (d1:w1.data=.cell none) (d2:w2.data=.cell none) (d3:w3.data=.cell none) (d4:w4.data=.cell none)
 (ret:∀ s' m2 news',s'.os=s.os→AllBare s'.gens→Fr h₀ L s'.heap m2→News h₀ L s'.heap news'→(∃ D,DmMem prog w news' D)→(∃ ps,(941,tabObj ps)∈news')→QF (.ret (.bool true)) s')
 (hE:PassesOwn (model prog w) (callerA.deeper (envOfC "law" lawScope L a ccd)) (envOfC "law" lawScope L a ccd) E)
 : wpAny (model prog w) (callerA.deeper (envOfC "law" lawScope L a ccd)) (execs lawBody (envOfC "law" lawScope L a ccd)) QF E s:=by
 rw [top_around,top_env] at hE
 have hd:(callerA.deeper (envOfC "law" lawScope L a ccd)).depth + 200 < recursionLimit:=by
  (refine rwl (depth_deeper ..) ?_;refine rwl (depth_caller ..) ?_);decide
 have hu:(callerA.deeper (envOfC "law" lawScope L a ccd)).units + 2000 < cLine:=by
  (refine rwl (units_deeper ..) ?_;refine rwl (units_caller ..) ?_;refine rwl (cLine_is ..) ?_);decide
 (refine rwl (top_around ..) ?_;refine rwl (top_env ..) ?_)
 exact law_whole vs xs hi hl sc m' QF B F X N T X T C C2 C3 G hd hu (cells4 L) hsc hmsc hpg (.tail _ (.tail _ (.tail _ (.head _)))) (.tail _ (.tail _ (.head _))) (.tail _ (.head _)) (.head _) d1 d2 d3 d4 (.tail _ (.tail _ (.tail _ (.tail _ (.head _))))) (.tail _ (.tail _ (.tail _ (.tail _ (.tail _ (.head _)))))) (.tail _ (.tail _ (.tail _ (.tail _ (.tail _ (.tail _ (.head _)))))))
  ret hE
end Mine
namespace Mine.main
theorem tw10044588960856096794:True:=⟨⟩
theorem tw10047389527955405517:True:=⟨⟩
theorem tw10056485391180722925:True:=⟨⟩
theorem tw10063615490667107986:True:=⟨⟩
theorem tw10084691530726948321:True:=⟨⟩
theorem tw10092017014551392330:True:=⟨⟩
theorem tw10094358506670053839:True:=⟨⟩
theorem tw10104854413520929654:True:=⟨⟩
theorem tw10123989817122485451:True:=⟨⟩
theorem tw10140136200207757160:True:=⟨⟩
theorem tw10149618387772673413:True:=⟨⟩
theorem tw10150981790200637452:True:=⟨⟩
theorem tw10153926984027685165:True:=⟨⟩
theorem tw10155961956218950304:True:=⟨⟩
theorem tw10159738436595150677:True:=⟨⟩
theorem tw10169072693733980587:True:=⟨⟩
theorem tw10186938856007831324:True:=⟨⟩
theorem tw10201359505653846880:True:=⟨⟩
theorem tw10210597933619972095:True:=⟨⟩
theorem tw10231336680788121439:True:=⟨⟩
theorem tw10234815189450012239:True:=⟨⟩
theorem tw10242657825688863476:True:=⟨⟩
theorem tw10252870136568219595:True:=⟨⟩
theorem tw10255079754903088276:True:=⟨⟩
theorem tw10264357097889622112:True:=⟨⟩
theorem tw10272840367956812890:True:=⟨⟩
theorem tw1027651156746619712:True:=⟨⟩
theorem tw10298723112805639129:True:=⟨⟩
theorem tw1030941560107091911:True:=⟨⟩
theorem tw10311887465206409944:True:=⟨⟩
theorem tw10334261112615635914:True:=⟨⟩
theorem tw10363585996791799541:True:=⟨⟩
theorem tw10367043833027533253:True:=⟨⟩
theorem tw10388276862058122456:True:=⟨⟩
theorem tw1039536905367811407:True:=⟨⟩
theorem tw1041082287264499562:True:=⟨⟩
theorem tw10418042200766032776:True:=⟨⟩
theorem tw10434251342864226808:True:=⟨⟩
theorem tw10435530978670571659:True:=⟨⟩
theorem tw104360540948158410:True:=⟨⟩
theorem tw10450603732522932521:True:=⟨⟩
theorem tw10452441009100146310:True:=⟨⟩
theorem tw10453263994017694363:True:=⟨⟩
theorem tw10455743928339290457:True:=⟨⟩
theorem tw10463206416058312583:True:=⟨⟩
theorem tw1046443281632482020:True:=⟨⟩
theorem tw10474107093616326617:True:=⟨⟩
theorem tw10483362588635715401:True:=⟨⟩
theorem tw10487773566786069416:True:=⟨⟩
theorem tw1050151122526681168:True:=⟨⟩
theorem tw10542905334921785414:True:=⟨⟩
theorem tw1054321117371714560:True:=⟨⟩
theorem tw10543740743216835930:True:=⟨⟩
theorem tw10548918766592180815:True:=⟨⟩
theorem tw10549286462335933273:True:=⟨⟩
theorem tw10554957952762445534:True:=⟨⟩
theorem tw10562265731813871245:True:=⟨⟩
theorem tw10564528347858357063:True:=⟨⟩
theorem tw10567084921333377638:True:=⟨⟩
theorem tw10570594614110353079:True:=⟨⟩
theorem tw10579832291378529287:True:=⟨⟩
theorem tw10620111754510917259:True:=⟨⟩
theorem tw10642606787283503386:True:=⟨⟩
theorem tw10652611922669240339:True:=⟨⟩
theorem tw10652863235454686790:True:=⟨⟩
theorem tw10653416984246182762:True:=⟨⟩
theorem tw10663580350406149668:True:=⟨⟩
theorem tw10665089971535097683:True:=⟨⟩
theorem tw10665469846841522134:True:=⟨⟩
theorem tw10669944970481658594:True:=⟨⟩
theorem tw10707853282979444102:True:=⟨⟩
theorem tw10715366876728099628:True:=⟨⟩
theorem tw10733187975300939785:True:=⟨⟩
theorem tw10737556833816505880:True:=⟨⟩
theorem tw10739967774149034379:True:=⟨⟩
theorem tw10750994468655217958:True:=⟨⟩
theorem tw1075715825243056693:True:=⟨⟩
theorem tw10766404277782369933:True:=⟨⟩
theorem tw1078731813388668781:True:=⟨⟩
theorem tw10799642799838760839:True:=⟨⟩
theorem tw10818105183875986371:True:=⟨⟩
theorem tw10819019510126429635:True:=⟨⟩
theorem tw10821422270917381399:True:=⟨⟩
theorem tw10825349956297869744:True:=⟨⟩
theorem tw10825838108423173272:True:=⟨⟩
theorem tw10827716722936851892:True:=⟨⟩
theorem tw1083386905234902339:True:=⟨⟩
theorem tw1084220662915027778:True:=⟨⟩
theorem tw10843882697959080548:True:=⟨⟩
theorem tw10864377008497418100:True:=⟨⟩
theorem tw10876229203375891673:True:=⟨⟩
theorem tw10876375607700338302:True:=⟨⟩
theorem tw10877679251791092727:True:=⟨⟩
theorem tw10896356407431480244:True:=⟨⟩
theorem tw10900912509145077962:True:=⟨⟩
theorem tw10922690554718297959:True:=⟨⟩
theorem tw10924716458440934090:True:=⟨⟩
theorem tw1092785777240315536:True:=⟨⟩
theorem tw10939156628265096465:True:=⟨⟩
theorem tw10953687544409504101:True:=⟨⟩
theorem tw10968073835910906634:True:=⟨⟩
theorem tw10980459234745376215:True:=⟨⟩
theorem tw1098248734344127483:True:=⟨⟩
theorem tw10987386120367425466:True:=⟨⟩
theorem tw10992214633131536827:True:=⟨⟩
theorem tw1099256609624015869:True:=⟨⟩
theorem tw1099345034237605226:True:=⟨⟩
theorem tw10998572948801354949:True:=⟨⟩
theorem tw11001617756164336837:True:=⟨⟩
theorem tw11003572833241299968:True:=⟨⟩
theorem tw11019096307435631222:True:=⟨⟩
theorem tw11020365191643786025:True:=⟨⟩
theorem tw11025043396439493938:True:=⟨⟩
theorem tw11028137302277699333:True:=⟨⟩
theorem tw11029232520330116632:True:=⟨⟩
theorem tw11049269918873537771:True:=⟨⟩
theorem tw11064077166414165694:True:=⟨⟩
theorem tw11086099901593105684:True:=⟨⟩
theorem tw11092141859048813250:True:=⟨⟩
theorem tw11101190512080308003:True:=⟨⟩
theorem tw11104520224017661738:True:=⟨⟩
theorem tw11119146913839337285:True:=⟨⟩
theorem tw11120327062377616369:True:=⟨⟩
theorem tw11125538497796368324:True:=⟨⟩
theorem tw11126512947825573411:True:=⟨⟩
theorem tw11135027115929721415:True:=⟨⟩
theorem tw11146425484927186572:True:=⟨⟩
theorem tw11150367793415198362:True:=⟨⟩
theorem tw11173110822042027425:True:=⟨⟩
theorem tw1118068078248606362:True:=⟨⟩
theorem tw11183452524601008856:True:=⟨⟩
theorem tw11185601284095360573:True:=⟨⟩
theorem tw11194412462434418553:True:=⟨⟩
theorem tw11209468696024339555:True:=⟨⟩
theorem tw1121519763818294206:True:=⟨⟩
theorem tw11218778669853930896:True:=⟨⟩
theorem tw11221353774195762014:True:=⟨⟩
theorem tw1122460743392553043:True:=⟨⟩
theorem tw11228237695123212635:True:=⟨⟩
theorem tw11229075413691439314:True:=⟨⟩
theorem tw11239335112260394413:True:=⟨⟩
theorem tw11251407683458634364:True:=⟨⟩
theorem tw11261727412033496967:True:=⟨⟩
theorem tw11273777480241942364:True:=⟨⟩
theorem tw11303903049781669535:True:=⟨⟩
theorem tw11311155076762098589:True:=⟨⟩
theorem tw11312117710950783351:True:=⟨⟩
theorem tw11332626419695707122:True:=⟨⟩
theorem tw11349898740250378076:True:=⟨⟩
theorem tw11374851513655246148:True:=⟨⟩
theorem tw11375779468672940041:True:=⟨⟩
theorem tw11382148133858630186:True:=⟨⟩
theorem tw11387536720948717409:True:=⟨⟩
theorem tw11388154006635350966:True:=⟨⟩
theorem tw11390293659975261258:True:=⟨⟩
theorem tw11399646045708457374:True:=⟨⟩
theorem tw11403851563620829512:True:=⟨⟩
theorem tw11403970630465759474:True:=⟨⟩
theorem tw11405101455947879731:True:=⟨⟩
theorem tw11409991511011244131:True:=⟨⟩
theorem tw1141667927807361340:True:=⟨⟩
theorem tw1142173933681417890:True:=⟨⟩
theorem tw11438230296997528567:True:=⟨⟩
theorem tw11461230924637031220:True:=⟨⟩
theorem tw11463369355524808266:True:=⟨⟩
theorem tw11469148683815294839:True:=⟨⟩
theorem tw11476092923266045095:True:=⟨⟩
theorem tw114764899775134577:True:=⟨⟩
theorem tw11487549891475536569:True:=⟨⟩
theorem tw11488200684768131711:True:=⟨⟩
theorem tw11490900464029743698:True:=⟨⟩
theorem tw11493298328501715790:True:=⟨⟩
theorem tw11495777965761571065:True:=⟨⟩
theorem tw11501822485730972192:True:=⟨⟩
theorem tw1150287232629052791:True:=⟨⟩
theorem tw1151455137804926741:True:=⟨⟩
theorem tw11525788325021031219:True:=⟨⟩
theorem tw11531331273489700057:True:=⟨⟩
theorem tw11536525913519715398:True:=⟨⟩
theorem tw11544348965984651327:True:=⟨⟩
theorem tw11548542833958708988:True:=⟨⟩
theorem tw1156462466702112376:True:=⟨⟩
theorem tw11567816784634749743:True:=⟨⟩
theorem tw1157997071576566072:True:=⟨⟩
theorem tw11593680994497980006:True:=⟨⟩
theorem tw11595355409239048105:True:=⟨⟩
theorem tw11597573130000717595:True:=⟨⟩
theorem tw11614107205274993552:True:=⟨⟩
theorem tw11614346279706655073:True:=⟨⟩
theorem tw11623743238619493226:True:=⟨⟩
theorem tw11628700133453931173:True:=⟨⟩
theorem tw11643815928222810078:True:=⟨⟩
theorem tw11646826074482590764:True:=⟨⟩
theorem tw1165131638741072970:True:=⟨⟩
theorem tw11670399090076514202:True:=⟨⟩
theorem tw11685015443652150514:True:=⟨⟩
theorem tw11692516046256081784:True:=⟨⟩
theorem tw1170910520054018364:True:=⟨⟩
theorem tw11728771520666845194:True:=⟨⟩
theorem tw11735365812421460867:True:=⟨⟩
theorem tw11735423636902730196:True:=⟨⟩
theorem tw11752208632293872130:True:=⟨⟩
theorem tw11774690029378154688:True:=⟨⟩
theorem tw11775208976360778532:True:=⟨⟩
theorem tw11785714552879321826:True:=⟨⟩
theorem tw11789403723227289746:True:=⟨⟩
theorem tw1179421589518002546:True:=⟨⟩
theorem tw11815829001073249272:True:=⟨⟩
theorem tw11846483225915889236:True:=⟨⟩
theorem tw11847215305666894025:True:=⟨⟩
theorem tw11854030062428886702:True:=⟨⟩
theorem tw11857135199678951331:True:=⟨⟩
theorem tw1191263595243908205:True:=⟨⟩
theorem tw11923525502935528744:True:=⟨⟩
theorem tw11933553874430284217:True:=⟨⟩
theorem tw11956016550308880441:True:=⟨⟩
theorem tw11962923498438245051:True:=⟨⟩
theorem tw11967333016625521393:True:=⟨⟩
theorem tw11970172226521774818:True:=⟨⟩
theorem tw11972998567851893164:True:=⟨⟩
theorem tw11982392923317675503:True:=⟨⟩
theorem tw1198661942849946583:True:=⟨⟩
theorem tw11987853993630220354:True:=⟨⟩
theorem tw1200228251149027324:True:=⟨⟩
theorem tw12006131722545458140:True:=⟨⟩
theorem tw12014785543569010823:True:=⟨⟩
theorem tw12024039464988692938:True:=⟨⟩
theorem tw12027323910402764344:True:=⟨⟩
theorem tw12057704586751987240:True:=⟨⟩
theorem tw12059326537678458872:True:=⟨⟩
theorem tw12075919899556687040:True:=⟨⟩
theorem tw12093647306153771053:True:=⟨⟩
theorem tw12118360930388700471:True:=⟨⟩
theorem tw12128719193194131418:True:=⟨⟩
theorem tw12130321265151566525:True:=⟨⟩
theorem tw12139096438432415106:True:=⟨⟩
theorem tw12142246244290616864:True:=⟨⟩
theorem tw1216228984421328439:True:=⟨⟩
theorem tw12170992721606120685:True:=⟨⟩
theorem tw12202136105113740391:True:=⟨⟩
theorem tw12205347405646519318:True:=⟨⟩
theorem tw12222963475772708484:True:=⟨⟩
theorem tw12224774223927477439:True:=⟨⟩
theorem tw12225073858131896441:True:=⟨⟩
theorem tw12241070359753612699:True:=⟨⟩
theorem tw12245857906982125569:True:=⟨⟩
theorem tw12247406853277913960:True:=⟨⟩
theorem tw12252054271945606052:True:=⟨⟩
theorem tw12255313618399501761:True:=⟨⟩
theorem tw12273490649430754879:True:=⟨⟩
theorem tw12298629886278197574:True:=⟨⟩
theorem tw12300623206395450230:True:=⟨⟩
theorem tw12304082900475741265:True:=⟨⟩
theorem tw12312361067238780455:True:=⟨⟩
theorem tw12316052161605009830:True:=⟨⟩
theorem tw12331245240777501528:True:=⟨⟩
theorem tw12332102779922042578:True:=⟨⟩
theorem tw12343854547171428336:True:=⟨⟩
theorem tw12346658559823942425:True:=⟨⟩
theorem tw12361340156312767134:True:=⟨⟩
theorem tw1236483940969888574:True:=⟨⟩
theorem tw1242282695825638017:True:=⟨⟩
theorem tw12428084185848828581:True:=⟨⟩
theorem tw12429675835336498981:True:=⟨⟩
theorem tw12431561837914552411:True:=⟨⟩
theorem tw12455012482086183272:True:=⟨⟩
theorem tw12463224122652932544:True:=⟨⟩
theorem tw12483276189755474720:True:=⟨⟩
theorem tw124932867818176594:True:=⟨⟩
theorem tw125074073887476921:True:=⟨⟩
theorem tw12519306246395310219:True:=⟨⟩
theorem tw12530995576970511020:True:=⟨⟩
theorem tw1253437644075932092:True:=⟨⟩
theorem tw12543713266681445118:True:=⟨⟩
theorem tw1255815211270559930:True:=⟨⟩
theorem tw12564604832814323664:True:=⟨⟩
theorem tw12570134572688502250:True:=⟨⟩
theorem tw12574995316784493246:True:=⟨⟩
theorem tw12590340796369385619:True:=⟨⟩
theorem tw12594366453804578888:True:=⟨⟩
theorem tw1261055253057787339:True:=⟨⟩
theorem tw12623159325031504133:True:=⟨⟩
theorem tw12653679108036650311:True:=⟨⟩
theorem tw12667108692942931566:True:=⟨⟩
theorem tw12670839924663504800:True:=⟨⟩
theorem tw12675357926760492328:True:=⟨⟩
theorem tw12690843524423533682:True:=⟨⟩
theorem tw12692632004510240207:True:=⟨⟩
theorem tw1269329923203890863:True:=⟨⟩
theorem tw1270039299266317192:True:=⟨⟩
theorem tw12702744160499308131:True:=⟨⟩
theorem tw12732289081945773324:True:=⟨⟩
theorem tw12741544251441588921:True:=⟨⟩
theorem tw12747388180105724736:True:=⟨⟩
theorem tw12748397558918655664:True:=⟨⟩
theorem tw12751799325998411230:True:=⟨⟩
theorem tw12755441557018050348:True:=⟨⟩
theorem tw12770256342625107919:True:=⟨⟩
theorem tw1277820614484962519:True:=⟨⟩
theorem tw12785325919471990445:True:=⟨⟩
theorem tw12800608258095302798:True:=⟨⟩
theorem tw12801853792540020445:True:=⟨⟩
theorem tw12801959518700419815:True:=⟨⟩
theorem tw12805054132202797291:True:=⟨⟩
theorem tw12815423162237015936:True:=⟨⟩
theorem tw12817678275210819261:True:=⟨⟩
theorem tw12839114828313443825:True:=⟨⟩
theorem tw12850528765047580607:True:=⟨⟩
theorem tw12855038569804585853:True:=⟨⟩
theorem tw12857538013141525049:True:=⟨⟩
theorem tw12867379429370454646:True:=⟨⟩
theorem tw12870486517592710932:True:=⟨⟩
theorem tw12885360347556521038:True:=⟨⟩
theorem tw12885385263037960081:True:=⟨⟩
theorem tw12885673836220544336:True:=⟨⟩
theorem tw12887412406107897821:True:=⟨⟩
theorem tw12900284412222446716:True:=⟨⟩
theorem tw12909650291622432550:True:=⟨⟩
theorem tw12922898485456448571:True:=⟨⟩
theorem tw12927740378394474205:True:=⟨⟩
theorem tw12941917028564957548:True:=⟨⟩
theorem tw12958428809211121842:True:=⟨⟩
theorem tw12958615024380705054:True:=⟨⟩
theorem tw12959741745000181155:True:=⟨⟩
theorem tw12969983923199422630:True:=⟨⟩
theorem tw12971871298125449939:True:=⟨⟩
theorem tw12974819211118642341:True:=⟨⟩
theorem tw12987577155417789579:True:=⟨⟩
theorem tw12989442958824940210:True:=⟨⟩
theorem tw12992526473407994794:True:=⟨⟩
theorem tw13047133811827974247:True:=⟨⟩
theorem tw1306636233014830658:True:=⟨⟩
theorem tw1306816589153540702:True:=⟨⟩
theorem tw13077236301305049449:True:=⟨⟩
theorem tw13110577991587790113:True:=⟨⟩
theorem tw13110970153573199417:True:=⟨⟩
theorem tw13113777628852026922:True:=⟨⟩
theorem tw13116522157475607773:True:=⟨⟩
theorem tw13132440757980438732:True:=⟨⟩
theorem tw13132915859168520264:True:=⟨⟩
theorem tw13148611719377898607:True:=⟨⟩
theorem tw13154001654789283132:True:=⟨⟩
theorem tw13157206579259725088:True:=⟨⟩
theorem tw131746187942232117:True:=⟨⟩
theorem tw13180746182150919023:True:=⟨⟩
theorem tw13187166440333854079:True:=⟨⟩
theorem tw1318968915056948652:True:=⟨⟩
theorem tw13194694976546938235:True:=⟨⟩
theorem tw1319676515408343850:True:=⟨⟩
theorem tw13205234824514484019:True:=⟨⟩
theorem tw13219505800766818778:True:=⟨⟩
theorem tw13227692790652741651:True:=⟨⟩
theorem tw13255245976751338989:True:=⟨⟩
theorem tw13270728482189477470:True:=⟨⟩
theorem tw13293747886898857621:True:=⟨⟩
theorem tw13299719707990932498:True:=⟨⟩
theorem tw13301695082441204415:True:=⟨⟩
theorem tw13306352142949925410:True:=⟨⟩
theorem tw13313126695403321540:True:=⟨⟩
theorem tw13339125200378610864:True:=⟨⟩
theorem tw13348322127785295214:True:=⟨⟩
theorem tw13350764725976880583:True:=⟨⟩
theorem tw13355152605343272895:True:=⟨⟩
theorem tw13361923051306547757:True:=⟨⟩
theorem tw13372311567904328664:True:=⟨⟩
theorem tw13381974486344185354:True:=⟨⟩
theorem tw13406003279186336099:True:=⟨⟩
theorem tw13429379312604010019:True:=⟨⟩
theorem tw13465503431842376007:True:=⟨⟩
theorem tw13468821697023884355:True:=⟨⟩
theorem tw13476453092275279800:True:=⟨⟩
theorem tw13478642292854932123:True:=⟨⟩
theorem tw13503263706703578961:True:=⟨⟩
theorem tw13514204307011423542:True:=⟨⟩
theorem tw13532707612510029741:True:=⟨⟩
theorem tw13547569757486424058:True:=⟨⟩
theorem tw13555666566803518343:True:=⟨⟩
theorem tw13578971408684441329:True:=⟨⟩
theorem tw13590572293223372214:True:=⟨⟩
theorem tw13591255225166038476:True:=⟨⟩
theorem tw13597483153833180358:True:=⟨⟩
theorem tw13611986716879344365:True:=⟨⟩
theorem tw13626721169425172152:True:=⟨⟩
theorem tw13639669503049741792:True:=⟨⟩
theorem tw13642826006792871662:True:=⟨⟩
theorem tw13658579077201752578:True:=⟨⟩
theorem tw13667920496262714385:True:=⟨⟩
theorem tw13676971244355772609:True:=⟨⟩
theorem tw13689083923384677848:True:=⟨⟩
theorem tw13693970394777133609:True:=⟨⟩
theorem tw13711685867348743795:True:=⟨⟩
theorem tw13713940216889387898:True:=⟨⟩
theorem tw13719656841721089058:True:=⟨⟩
theorem tw13720940774053794419:True:=⟨⟩
theorem tw13724616953566380437:True:=⟨⟩
theorem tw1372806426800153423:True:=⟨⟩
theorem tw13738235750113832370:True:=⟨⟩
theorem tw13796163658531065512:True:=⟨⟩
theorem tw13797323745857372409:True:=⟨⟩
theorem tw13803360072150633466:True:=⟨⟩
theorem tw13807522157400373393:True:=⟨⟩
theorem tw13828398784019157174:True:=⟨⟩
theorem tw13838900630717943254:True:=⟨⟩
theorem tw13849998732746526149:True:=⟨⟩
theorem tw13860057576276716429:True:=⟨⟩
theorem tw13876859957761632879:True:=⟨⟩
theorem tw13914785722749861914:True:=⟨⟩
theorem tw13934608090901567409:True:=⟨⟩
theorem tw13943995914846970329:True:=⟨⟩
theorem tw13961418751925549863:True:=⟨⟩
theorem tw13962693860625380366:True:=⟨⟩
theorem tw13965128551521907918:True:=⟨⟩
theorem tw1396736836422214039:True:=⟨⟩
theorem tw13972245371655741198:True:=⟨⟩
theorem tw13974046611088194958:True:=⟨⟩
theorem tw13978478705568000493:True:=⟨⟩
theorem tw13980345723018547825:True:=⟨⟩
theorem tw13981707834035343584:True:=⟨⟩
theorem tw13983594067024185753:True:=⟨⟩
theorem tw13986294249150822207:True:=⟨⟩
theorem tw13989496423458381343:True:=⟨⟩
theorem tw13995172100960836882:True:=⟨⟩
theorem tw14009396871252706886:True:=⟨⟩
theorem tw14011416340940902608:True:=⟨⟩
theorem tw14014001219877531578:True:=⟨⟩
theorem tw14020873708864708748:True:=⟨⟩
theorem tw1402309974066972641:True:=⟨⟩
theorem tw14027650596787315314:True:=⟨⟩
theorem tw1405886515374291501:True:=⟨⟩
theorem tw14060465935940456498:True:=⟨⟩
theorem tw14061640607465278742:True:=⟨⟩
theorem tw14080665800827857628:True:=⟨⟩
theorem tw14087776904463610538:True:=⟨⟩
theorem tw1409966394225722968:True:=⟨⟩
theorem tw14103541707204317218:True:=⟨⟩
theorem tw14106445559736802775:True:=⟨⟩
theorem tw14112269089397522482:True:=⟨⟩
theorem tw14136325212780177784:True:=⟨⟩
theorem tw1415428593365352553:True:=⟨⟩
theorem tw14161005256144132680:True:=⟨⟩
theorem tw14161013491861036421:True:=⟨⟩
theorem tw14161465996007527954:True:=⟨⟩
theorem tw14168887731352723522:True:=⟨⟩
theorem tw14184099569502896791:True:=⟨⟩
theorem tw14184754310125717746:True:=⟨⟩
theorem tw14212701483244488143:True:=⟨⟩
theorem tw14216407083858561409:True:=⟨⟩
theorem tw14218914174604095658:True:=⟨⟩
theorem tw14235155234550121937:True:=⟨⟩
theorem tw14244684458241979804:True:=⟨⟩
theorem tw14263667588993632755:True:=⟨⟩
theorem tw1429040668314091153:True:=⟨⟩
theorem tw14313061170024940013:True:=⟨⟩
theorem tw14313897822631088780:True:=⟨⟩
theorem tw14336716466608126219:True:=⟨⟩
theorem tw143419629044909011:True:=⟨⟩
theorem tw14364048958407549093:True:=⟨⟩
theorem tw14368271195830560734:True:=⟨⟩
theorem tw14376697684446530166:True:=⟨⟩
theorem tw14377180257169084997:True:=⟨⟩
theorem tw14377536511252160716:True:=⟨⟩
theorem tw14388359495320178594:True:=⟨⟩
theorem tw14390754486103292620:True:=⟨⟩
theorem tw14433148944262546249:True:=⟨⟩
theorem tw14439473939278146460:True:=⟨⟩
theorem tw14443092014599818573:True:=⟨⟩
theorem tw14457758005677747962:True:=⟨⟩
theorem tw14489535830319231195:True:=⟨⟩
theorem tw14492832472218066102:True:=⟨⟩
theorem tw14500621930108132270:True:=⟨⟩
theorem tw14506725445057954332:True:=⟨⟩
theorem tw14510055921401542917:True:=⟨⟩
theorem tw14513571923725367585:True:=⟨⟩
theorem tw1453356044741674121:True:=⟨⟩
theorem tw14535484193269619989:True:=⟨⟩
theorem tw14540907926641238338:True:=⟨⟩
theorem tw1454224541498743561:True:=⟨⟩
theorem tw14554314840745968623:True:=⟨⟩
theorem tw14561982147642552662:True:=⟨⟩
theorem tw14562738103837258888:True:=⟨⟩
theorem tw14623576949289902444:True:=⟨⟩
theorem tw14636892021812066514:True:=⟨⟩
theorem tw14637806741061077295:True:=⟨⟩
theorem tw14639212616227390028:True:=⟨⟩
theorem tw14644343334567917669:True:=⟨⟩
theorem tw14646587721710459877:True:=⟨⟩
theorem tw146625434495716318:True:=⟨⟩
theorem tw14662554035588321541:True:=⟨⟩
theorem tw14666387041718499266:True:=⟨⟩
theorem tw14689642411216604063:True:=⟨⟩
theorem tw14698241182937546978:True:=⟨⟩
theorem tw1469836325065767749:True:=⟨⟩
theorem tw14713023043418418522:True:=⟨⟩
theorem tw14721343552236136636:True:=⟨⟩
theorem tw14722489848711283861:True:=⟨⟩
theorem tw14747868875625980864:True:=⟨⟩
theorem tw14752455103156370868:True:=⟨⟩
theorem tw14759895335926876869:True:=⟨⟩
theorem tw14764547886516133241:True:=⟨⟩
theorem tw14788915703135433725:True:=⟨⟩
theorem tw14793117695081215449:True:=⟨⟩
theorem tw14798791472264738832:True:=⟨⟩
theorem tw14805756002866571830:True:=⟨⟩
theorem tw14806125269305119590:True:=⟨⟩
theorem tw14814594519894181452:True:=⟨⟩
theorem tw14849204138880929251:True:=⟨⟩
theorem tw14859100970857779836:True:=⟨⟩
theorem tw1486339892855113045:True:=⟨⟩
theorem tw14864636224205547913:True:=⟨⟩
theorem tw14864641218109852296:True:=⟨⟩
theorem tw14889028321214236473:True:=⟨⟩
theorem tw1489239262002470277:True:=⟨⟩
theorem tw14893090268090260817:True:=⟨⟩
theorem tw14907226015203709474:True:=⟨⟩
theorem tw14909365282108701170:True:=⟨⟩
theorem tw14925635105145352654:True:=⟨⟩
theorem tw14949411278204069148:True:=⟨⟩
theorem tw14966384500751655702:True:=⟨⟩
theorem tw1496695287857109588:True:=⟨⟩
theorem tw14992176218041082565:True:=⟨⟩
theorem tw14992222465124788362:True:=⟨⟩
theorem tw1500862686510050808:True:=⟨⟩
theorem tw15017983477296125989:True:=⟨⟩
theorem tw15021674996194540278:True:=⟨⟩
theorem tw15023316991559800185:True:=⟨⟩
theorem tw1504049600530537962:True:=⟨⟩
theorem tw15059693217772790739:True:=⟨⟩
theorem tw15079240505294077160:True:=⟨⟩
theorem tw15087427406127887449:True:=⟨⟩
theorem tw15088210295156824573:True:=⟨⟩
theorem tw15097543051748444868:True:=⟨⟩
theorem tw15098031235356848795:True:=⟨⟩
theorem tw15099618884478582375:True:=⟨⟩
theorem tw15109750227778091905:True:=⟨⟩
theorem tw15131278010643852716:True:=⟨⟩
theorem tw15140838672463199983:True:=⟨⟩
theorem tw1519927702969063271:True:=⟨⟩
theorem tw1519992759497675636:True:=⟨⟩
theorem tw15225127925928830808:True:=⟨⟩
theorem tw15234568886584645331:True:=⟨⟩
theorem tw15237998210293483671:True:=⟨⟩
theorem tw15239991420599046435:True:=⟨⟩
theorem tw15244097889725654702:True:=⟨⟩
theorem tw15267601115554557575:True:=⟨⟩
theorem tw15270170921892066516:True:=⟨⟩
theorem tw15277975159832343749:True:=⟨⟩
theorem tw15282798724139172088:True:=⟨⟩
theorem tw15297943449409850484:True:=⟨⟩
theorem tw15303317825217679618:True:=⟨⟩
theorem tw1531012537173254328:True:=⟨⟩
theorem tw15312040371321221727:True:=⟨⟩
theorem tw15326346284793698685:True:=⟨⟩
theorem tw15342904991969174519:True:=⟨⟩
theorem tw15350898050860989542:True:=⟨⟩
theorem tw15353486003930713886:True:=⟨⟩
theorem tw15356603520276201978:True:=⟨⟩
theorem tw15356762974548107741:True:=⟨⟩
theorem tw15363933877387491324:True:=⟨⟩
theorem tw15365013842991253249:True:=⟨⟩
theorem tw15378467201301824726:True:=⟨⟩
theorem tw15387884906608193903:True:=⟨⟩
theorem tw15388476847122461260:True:=⟨⟩
theorem tw15410482203810522393:True:=⟨⟩
theorem tw15411810861736684089:True:=⟨⟩
theorem tw15425874342098770709:True:=⟨⟩
theorem tw15432235134303409840:True:=⟨⟩
theorem tw15438212644395081984:True:=⟨⟩
theorem tw1544020853599562407:True:=⟨⟩
theorem tw15446329576048744955:True:=⟨⟩
theorem tw15461212566085484399:True:=⟨⟩
theorem tw15465920861327815835:True:=⟨⟩
theorem tw15467891735981029475:True:=⟨⟩
theorem tw1548279923187021627:True:=⟨⟩
theorem tw15485851114877660061:True:=⟨⟩
theorem tw15491723280356408159:True:=⟨⟩
theorem tw15510692781650021527:True:=⟨⟩
theorem tw15514936471743626214:True:=⟨⟩
theorem tw15516599794759708795:True:=⟨⟩
theorem tw1552421926411342777:True:=⟨⟩
theorem tw15540984915698410164:True:=⟨⟩
theorem tw15556330048392946422:True:=⟨⟩
theorem tw15573901619872206911:True:=⟨⟩
theorem tw15575723056732996420:True:=⟨⟩
theorem tw15579395750891953841:True:=⟨⟩
theorem tw15589955886551607785:True:=⟨⟩
theorem tw15591490293955833262:True:=⟨⟩
theorem tw15595112118272840620:True:=⟨⟩
theorem tw15599004068181245633:True:=⟨⟩
theorem tw15606653302220566414:True:=⟨⟩
theorem tw15613693066083480658:True:=⟨⟩
theorem tw15616401959046598769:True:=⟨⟩
theorem tw15616905846011282308:True:=⟨⟩
theorem tw15623985553393406397:True:=⟨⟩
theorem tw15624239662980076321:True:=⟨⟩
theorem tw15631942387314964779:True:=⟨⟩
theorem tw15642941266545998023:True:=⟨⟩
theorem tw15643365686152983790:True:=⟨⟩
theorem tw15649996292582860464:True:=⟨⟩
theorem tw15660686498588105780:True:=⟨⟩
theorem tw15670109119070698982:True:=⟨⟩
theorem tw15672986146971166658:True:=⟨⟩
theorem tw15688281317961992914:True:=⟨⟩
theorem tw15708566854081602935:True:=⟨⟩
theorem tw15715279681875453748:True:=⟨⟩
theorem tw15732916057703314881:True:=⟨⟩
theorem tw15734200111481486640:True:=⟨⟩
theorem tw15737690656516749961:True:=⟨⟩
theorem tw15747903835917677612:True:=⟨⟩
theorem tw15768048840197415361:True:=⟨⟩
theorem tw15772080087578916929:True:=⟨⟩
theorem tw15778792140937676535:True:=⟨⟩
theorem tw15788135083398108852:True:=⟨⟩
theorem tw15803610866087392283:True:=⟨⟩
theorem tw15806524323241146399:True:=⟨⟩
theorem tw15812132391978217879:True:=⟨⟩
theorem tw15823390479194661154:True:=⟨⟩
theorem tw15842678882527354376:True:=⟨⟩
theorem tw15845428651173386099:True:=⟨⟩
theorem tw15853742577940245110:True:=⟨⟩
theorem tw1587290215689348708:True:=⟨⟩
theorem tw1590763530083325563:True:=⟨⟩
theorem tw15928290008803537013:True:=⟨⟩
theorem tw15949526494057022110:True:=⟨⟩
theorem tw15950006927108054178:True:=⟨⟩
theorem tw15953161684988788109:True:=⟨⟩
theorem tw15955573374722617477:True:=⟨⟩
theorem tw15957597259013190341:True:=⟨⟩
theorem tw15970538086172389420:True:=⟨⟩
theorem tw15975542379867263092:True:=⟨⟩
theorem tw15984706205718930553:True:=⟨⟩
theorem tw16008252555379753968:True:=⟨⟩
theorem tw16025123160730008257:True:=⟨⟩
theorem tw16026485685270457870:True:=⟨⟩
theorem tw16030343438342471813:True:=⟨⟩
theorem tw16033097090804400913:True:=⟨⟩
theorem tw16035907590883218939:True:=⟨⟩
theorem tw16046730324260685337:True:=⟨⟩
theorem tw16049902774474827687:True:=⟨⟩
theorem tw1606137496264982490:True:=⟨⟩
theorem tw16064943525067874072:True:=⟨⟩
theorem tw16095821335753495015:True:=⟨⟩
theorem tw16097269412956081036:True:=⟨⟩
theorem tw16098250325252768472:True:=⟨⟩
theorem tw16102231251864390963:True:=⟨⟩
theorem tw16105361658343878414:True:=⟨⟩
theorem tw16128220689672181975:True:=⟨⟩
theorem tw16135426469972691074:True:=⟨⟩
theorem tw16136984950599521427:True:=⟨⟩
theorem tw16142765227538719955:True:=⟨⟩
theorem tw16153351446899991344:True:=⟨⟩
theorem tw16153842264607907944:True:=⟨⟩
theorem tw161903638078081290:True:=⟨⟩
theorem tw16193401482309157537:True:=⟨⟩
theorem tw16196167832573575628:True:=⟨⟩
theorem tw16203622797070002922:True:=⟨⟩
theorem tw16218864148678617972:True:=⟨⟩
theorem tw16235428439501865183:True:=⟨⟩
theorem tw16251939892948500945:True:=⟨⟩
theorem tw1627914004837282890:True:=⟨⟩
theorem tw1628013610222277130:True:=⟨⟩
theorem tw16292202817602668162:True:=⟨⟩
theorem tw16304157974115477746:True:=⟨⟩
theorem tw16305672181175384284:True:=⟨⟩
theorem tw16320215318167395912:True:=⟨⟩
theorem tw1632041292262086317:True:=⟨⟩
theorem tw16320729459185622934:True:=⟨⟩
theorem tw16338599768312175441:True:=⟨⟩
theorem tw16346545698833656098:True:=⟨⟩
theorem tw16355746345580011080:True:=⟨⟩
theorem tw16356685582667847594:True:=⟨⟩
theorem tw16357356043003861740:True:=⟨⟩
theorem tw16396084126727719574:True:=⟨⟩
theorem tw16401112283330350455:True:=⟨⟩
theorem tw16411370214107742406:True:=⟨⟩
theorem tw16452447596832230105:True:=⟨⟩
theorem tw1645717771770832407:True:=⟨⟩
theorem tw16459181004822140265:True:=⟨⟩
theorem tw16501172079758305675:True:=⟨⟩
theorem tw16506621457970630889:True:=⟨⟩
theorem tw16508919721030705984:True:=⟨⟩
theorem tw16512967305710189361:True:=⟨⟩
theorem tw16515530658217354008:True:=⟨⟩
theorem tw16519101796099990279:True:=⟨⟩
theorem tw16571513570353933280:True:=⟨⟩
theorem tw16572128252103988241:True:=⟨⟩
theorem tw16578545616960683006:True:=⟨⟩
theorem tw16629339528299215175:True:=⟨⟩
theorem tw16641786646906312760:True:=⟨⟩
theorem tw16653371392120562750:True:=⟨⟩
theorem tw16656740534632174751:True:=⟨⟩
theorem tw16676564476587882173:True:=⟨⟩
theorem tw16689149305811164139:True:=⟨⟩
theorem tw16707527281638135014:True:=⟨⟩
theorem tw16711796922241461945:True:=⟨⟩
theorem tw16714519709260171936:True:=⟨⟩
theorem tw16721930046160240684:True:=⟨⟩
theorem tw16723884430069596700:True:=⟨⟩
theorem tw16739827303359381050:True:=⟨⟩
theorem tw16757190730947197508:True:=⟨⟩
theorem tw16759954233069622441:True:=⟨⟩
theorem tw16765925921980633802:True:=⟨⟩
theorem tw1677766988990989824:True:=⟨⟩
theorem tw16784772322866675431:True:=⟨⟩
theorem tw1678875084529416142:True:=⟨⟩
theorem tw16790050636404226231:True:=⟨⟩
theorem tw16798207577519904205:True:=⟨⟩
theorem tw16798622893749714585:True:=⟨⟩
theorem tw16817993663026736274:True:=⟨⟩
theorem tw16819838333489098493:True:=⟨⟩
theorem tw16831315677997602687:True:=⟨⟩
theorem tw16832360635688203351:True:=⟨⟩
theorem tw16832506933631972741:True:=⟨⟩
theorem tw16863156106696720372:True:=⟨⟩
theorem tw16868477917899988195:True:=⟨⟩
theorem tw16873336033903695029:True:=⟨⟩
theorem tw16877947373546393871:True:=⟨⟩
theorem tw16888057631649255742:True:=⟨⟩
theorem tw16922381011570985944:True:=⟨⟩
theorem tw16923884221124529275:True:=⟨⟩
theorem tw16932134980577923087:True:=⟨⟩
theorem tw16940653100087695844:True:=⟨⟩
theorem tw16946843811442086429:True:=⟨⟩
theorem tw16950194794029067938:True:=⟨⟩
theorem tw16952715711813285254:True:=⟨⟩
theorem tw16959884160788844718:True:=⟨⟩
theorem tw16965079339398995527:True:=⟨⟩
theorem tw169701792822576828:True:=⟨⟩
theorem tw16989488325979979065:True:=⟨⟩
theorem tw17016820405989369747:True:=⟨⟩
theorem tw17028514697001254897:True:=⟨⟩
theorem tw17035731627637430848:True:=⟨⟩
theorem tw17043529396911541033:True:=⟨⟩
theorem tw1705183724462925954:True:=⟨⟩
theorem tw17052023290607921161:True:=⟨⟩
theorem tw17057053908230417247:True:=⟨⟩
theorem tw17067035981215421688:True:=⟨⟩
theorem tw17091655785135471103:True:=⟨⟩
theorem tw17096532924672817327:True:=⟨⟩
theorem tw17118054049896295152:True:=⟨⟩
theorem tw17128291446047057950:True:=⟨⟩
theorem tw17128476026691140212:True:=⟨⟩
theorem tw17146568849442343683:True:=⟨⟩
theorem tw1714950047550659301:True:=⟨⟩
theorem tw17159216914136082949:True:=⟨⟩
theorem tw1716616197605632409:True:=⟨⟩
theorem tw17168345237763299105:True:=⟨⟩
theorem tw17185042187573640451:True:=⟨⟩
theorem tw17201416709059790184:True:=⟨⟩
theorem tw17223442867436993403:True:=⟨⟩
theorem tw17227442419121036007:True:=⟨⟩
theorem tw17232878180008095221:True:=⟨⟩
theorem tw1723450302445878543:True:=⟨⟩
theorem tw17236958762192778904:True:=⟨⟩
theorem tw17262041522474090127:True:=⟨⟩
theorem tw17268439761433841065:True:=⟨⟩
theorem tw17272174723667511238:True:=⟨⟩
theorem tw17275675667316583603:True:=⟨⟩
theorem tw17280665378484479262:True:=⟨⟩
theorem tw17290568124846718506:True:=⟨⟩
theorem tw17297283025540448806:True:=⟨⟩
theorem tw17298271098590275757:True:=⟨⟩
theorem tw17298425922696826006:True:=⟨⟩
theorem tw17312540564990011021:True:=⟨⟩
theorem tw17329100328461669846:True:=⟨⟩
theorem tw17336282652733537790:True:=⟨⟩
theorem tw17362426122174353436:True:=⟨⟩
theorem tw17398713541454457963:True:=⟨⟩
theorem tw17402982504261768225:True:=⟨⟩
theorem tw17403364634526059139:True:=⟨⟩
theorem tw17413556829735388813:True:=⟨⟩
theorem tw17413806152003534235:True:=⟨⟩
theorem tw17431719831054627609:True:=⟨⟩
theorem tw17436404683886797220:True:=⟨⟩
theorem tw17438294365789470252:True:=⟨⟩
theorem tw17445186720391901401:True:=⟨⟩
theorem tw17450470499104002142:True:=⟨⟩
theorem tw1745306714101523853:True:=⟨⟩
theorem tw17453503289922162039:True:=⟨⟩
theorem tw1745352913517652073:True:=⟨⟩
theorem tw17456035664235451855:True:=⟨⟩
theorem tw17465928265306105389:True:=⟨⟩
theorem tw17477492558424962760:True:=⟨⟩
theorem tw1748367587739330598:True:=⟨⟩
theorem tw17493723678399337961:True:=⟨⟩
theorem tw17495560712657236704:True:=⟨⟩
theorem tw17510229520200029679:True:=⟨⟩
theorem tw17521710091022701118:True:=⟨⟩
theorem tw17535981992833790331:True:=⟨⟩
theorem tw17543221768159802804:True:=⟨⟩
theorem tw17560382547099542434:True:=⟨⟩
theorem tw17561526911342447988:True:=⟨⟩
theorem tw17563168436475441343:True:=⟨⟩
theorem tw17570322468408258417:True:=⟨⟩
theorem tw17585224947871030625:True:=⟨⟩
theorem tw17595037950739379582:True:=⟨⟩
theorem tw17600866488970185278:True:=⟨⟩
theorem tw17604048838941311204:True:=⟨⟩
theorem tw17604630187894110185:True:=⟨⟩
theorem tw17644181745481072423:True:=⟨⟩
theorem tw17647351573629430322:True:=⟨⟩
theorem tw17659147809683748901:True:=⟨⟩
theorem tw17665120845849184447:True:=⟨⟩
theorem tw17675563975411571412:True:=⟨⟩
theorem tw17679124481769762004:True:=⟨⟩
theorem tw17679725944135375923:True:=⟨⟩
theorem tw17695171507069755227:True:=⟨⟩
theorem tw17699438841360665129:True:=⟨⟩
theorem tw17706871115670701913:True:=⟨⟩
theorem tw17708487481403421675:True:=⟨⟩
theorem tw17715262827843222689:True:=⟨⟩
theorem tw17720780175883242398:True:=⟨⟩
theorem tw17725498274588495791:True:=⟨⟩
theorem tw17734603463515337306:True:=⟨⟩
theorem tw17737603089517620647:True:=⟨⟩
theorem tw17767330081159143506:True:=⟨⟩
theorem tw17768309097967576573:True:=⟨⟩
theorem tw1777545030009416734:True:=⟨⟩
theorem tw17809569316528986123:True:=⟨⟩
theorem tw1781223760143429554:True:=⟨⟩
theorem tw17817656438006933710:True:=⟨⟩
theorem tw17822281954177554127:True:=⟨⟩
theorem tw17831491733147195506:True:=⟨⟩
theorem tw17836155980384535354:True:=⟨⟩
theorem tw17848663671030927502:True:=⟨⟩
theorem tw17855163913985197725:True:=⟨⟩
theorem tw17863720173125049709:True:=⟨⟩
theorem tw17864028415675338326:True:=⟨⟩
theorem tw17871620999419790863:True:=⟨⟩
theorem tw178861002959707634:True:=⟨⟩
theorem tw17904854198161793398:True:=⟨⟩
theorem tw17906638245316424091:True:=⟨⟩
theorem tw17920292393507637884:True:=⟨⟩
theorem tw17941078945044682546:True:=⟨⟩
theorem tw17943756269633507525:True:=⟨⟩
theorem tw17958375852430007124:True:=⟨⟩
theorem tw17979891882233947042:True:=⟨⟩
theorem tw17994008241501222078:True:=⟨⟩
theorem tw18005423509665057918:True:=⟨⟩
theorem tw1800746815547063501:True:=⟨⟩
theorem tw18031918436515192882:True:=⟨⟩
theorem tw18063282731904131703:True:=⟨⟩
theorem tw18098002661005327663:True:=⟨⟩
theorem tw18120430973489738927:True:=⟨⟩
theorem tw18121713033476671608:True:=⟨⟩
theorem tw18134284020713443437:True:=⟨⟩
theorem tw18137093792330075739:True:=⟨⟩
theorem tw18144632397439791473:True:=⟨⟩
theorem tw18155468869031861545:True:=⟨⟩
theorem tw18162592725011693541:True:=⟨⟩
theorem tw18165044119631177899:True:=⟨⟩
theorem tw18187686788820605841:True:=⟨⟩
theorem tw18190005008629794160:True:=⟨⟩
theorem tw18218335207050127959:True:=⟨⟩
theorem tw18238007617527299592:True:=⟨⟩
theorem tw18251526779185850017:True:=⟨⟩
theorem tw1826329307503635854:True:=⟨⟩
theorem tw18267852349158022670:True:=⟨⟩
theorem tw1827765177636990938:True:=⟨⟩
theorem tw18284262389922463811:True:=⟨⟩
theorem tw18302796317244248524:True:=⟨⟩
theorem tw18314829044154829275:True:=⟨⟩
theorem tw18315214858253571532:True:=⟨⟩
theorem tw18317609476662902477:True:=⟨⟩
theorem tw18328743936084910167:True:=⟨⟩
theorem tw18341650205448258973:True:=⟨⟩
theorem tw18341681592541214507:True:=⟨⟩
theorem tw18342001204779339714:True:=⟨⟩
theorem tw18385570937342765463:True:=⟨⟩
theorem tw18388249637074589894:True:=⟨⟩
theorem tw18392154025008590481:True:=⟨⟩
theorem tw18403998269306519403:True:=⟨⟩
theorem tw18406820200293129166:True:=⟨⟩
theorem tw18415176765897963525:True:=⟨⟩
theorem tw18416685547179293692:True:=⟨⟩
theorem tw18418235949754561950:True:=⟨⟩
theorem tw1841938676775541374:True:=⟨⟩
theorem tw18423407594695611932:True:=⟨⟩
theorem tw18425317256667529438:True:=⟨⟩
theorem tw18431692314602308842:True:=⟨⟩
theorem tw18438843042052247593:True:=⟨⟩
theorem tw18439327071519632904:True:=⟨⟩
theorem tw18442785490491869365:True:=⟨⟩
theorem tw18446094637698972617:True:=⟨⟩
theorem tw1850612553970854742:True:=⟨⟩
theorem tw1865091723258305340:True:=⟨⟩
theorem tw1886080085820668685:True:=⟨⟩
theorem tw1900339198761634783:True:=⟨⟩
theorem tw1917572673247684520:True:=⟨⟩
theorem tw191817295026026213:True:=⟨⟩
theorem tw197663707376921789:True:=⟨⟩
theorem tw1979733517332658622:True:=⟨⟩
theorem tw1980160206288974728:True:=⟨⟩
theorem tw1981162439652194391:True:=⟨⟩
theorem tw2001711005873624950:True:=⟨⟩
theorem tw2004949271868462899:True:=⟨⟩
theorem tw2012372014189735793:True:=⟨⟩
theorem tw2019394398466159022:True:=⟨⟩
theorem tw2021556316718937628:True:=⟨⟩
theorem tw2022962002417519128:True:=⟨⟩
theorem tw205233529340815095:True:=⟨⟩
theorem tw2054970379648938245:True:=⟨⟩
theorem tw2058021452347087232:True:=⟨⟩
theorem tw2068819091333853403:True:=⟨⟩
theorem tw2086188434714876871:True:=⟨⟩
theorem tw2110754180369666209:True:=⟨⟩
theorem tw2115834197678201133:True:=⟨⟩
theorem tw2136821422063795447:True:=⟨⟩
theorem tw2144696239396290587:True:=⟨⟩
theorem tw2156145737304315219:True:=⟨⟩
theorem tw2165991790075494087:True:=⟨⟩
theorem tw2173562974560187446:True:=⟨⟩
theorem tw2179619686303460721:True:=⟨⟩
theorem tw2195194259037543316:True:=⟨⟩
theorem tw2199488891245549803:True:=⟨⟩
theorem tw2207158782130953472:True:=⟨⟩
theorem tw2213269777819706950:True:=⟨⟩
theorem tw2215267417292685860:True:=⟨⟩
theorem tw221700550124014318:True:=⟨⟩
theorem tw221909299271738847:True:=⟨⟩
theorem tw2221852243345411109:True:=⟨⟩
theorem tw2225892363528398861:True:=⟨⟩
theorem tw2225956059507018244:True:=⟨⟩
theorem tw222859517563120165:True:=⟨⟩
theorem tw2236042055920670506:True:=⟨⟩
theorem tw2238316416991798583:True:=⟨⟩
theorem tw2259866600804224517:True:=⟨⟩
theorem tw2259995692611150205:True:=⟨⟩
theorem tw2261811237465622523:True:=⟨⟩
theorem tw2278972029675796859:True:=⟨⟩
theorem tw2279047495162143687:True:=⟨⟩
theorem tw2287757881348798766:True:=⟨⟩
theorem tw2309363882687292287:True:=⟨⟩
theorem tw231059820687768381:True:=⟨⟩
theorem tw2335102820360546017:True:=⟨⟩
theorem tw2337230598321646361:True:=⟨⟩
theorem tw2341703837736514645:True:=⟨⟩
theorem tw2343935838158425641:True:=⟨⟩
theorem tw234599468654550697:True:=⟨⟩
theorem tw2353268229817584681:True:=⟨⟩
theorem tw2373237607127697691:True:=⟨⟩
theorem tw2378983766965746844:True:=⟨⟩
theorem tw2381666605906438666:True:=⟨⟩
theorem tw2391308568962772839:True:=⟨⟩
theorem tw2399826469436781019:True:=⟨⟩
theorem tw2402762420636078793:True:=⟨⟩
theorem tw2406621943657119228:True:=⟨⟩
theorem tw2422686575656383440:True:=⟨⟩
theorem tw2428412748925179849:True:=⟨⟩
theorem tw2433702464844828792:True:=⟨⟩
theorem tw2442105787152858967:True:=⟨⟩
theorem tw244467455267321384:True:=⟨⟩
theorem tw2457718091388770066:True:=⟨⟩
theorem tw2460224758749497807:True:=⟨⟩
theorem tw2466978696417337238:True:=⟨⟩
theorem tw2477667281160876323:True:=⟨⟩
theorem tw2484414159333256978:True:=⟨⟩
theorem tw2496676261509829067:True:=⟨⟩
theorem tw2507670175463625398:True:=⟨⟩
theorem tw2524017781993486291:True:=⟨⟩
theorem tw2538046985915079169:True:=⟨⟩
theorem tw2542808073141276813:True:=⟨⟩
theorem tw2544328076492683441:True:=⟨⟩
theorem tw2564707057010578714:True:=⟨⟩
theorem tw2566753976717531306:True:=⟨⟩
theorem tw2583023086579268501:True:=⟨⟩
theorem tw2599750674813586877:True:=⟨⟩
theorem tw2609644167771232348:True:=⟨⟩
theorem tw26151593507588753:True:=⟨⟩
theorem tw2629084897520917108:True:=⟨⟩
theorem tw2634126667028804338:True:=⟨⟩
theorem tw2642412663007404331:True:=⟨⟩
theorem tw2647654807098235363:True:=⟨⟩
theorem tw2648606020343605416:True:=⟨⟩
theorem tw2653321512126949328:True:=⟨⟩
theorem tw2675658811408624930:True:=⟨⟩
theorem tw2689587448523674677:True:=⟨⟩
theorem tw2697862583947947531:True:=⟨⟩
theorem tw2702614204127132176:True:=⟨⟩
theorem tw2704602940660078815:True:=⟨⟩
theorem tw270496394426124508:True:=⟨⟩
theorem tw2709146116979247222:True:=⟨⟩
theorem tw2709746457059553413:True:=⟨⟩
theorem tw2714283472998740243:True:=⟨⟩
theorem tw2714797749773295314:True:=⟨⟩
theorem tw2724176850512262202:True:=⟨⟩
theorem tw2729793432009153956:True:=⟨⟩
theorem tw2744014450722944760:True:=⟨⟩
theorem tw2750411421705246143:True:=⟨⟩
theorem tw2757102660892454422:True:=⟨⟩
theorem tw2759098988195820126:True:=⟨⟩
theorem tw2794983428953441941:True:=⟨⟩
theorem tw2796952317120133236:True:=⟨⟩
theorem tw2802726181313194873:True:=⟨⟩
theorem tw2805353381803504019:True:=⟨⟩
theorem tw2821470743931037460:True:=⟨⟩
theorem tw2847738043507502446:True:=⟨⟩
theorem tw2863819389706752055:True:=⟨⟩
theorem tw2895952525429962455:True:=⟨⟩
theorem tw2900998541784483753:True:=⟨⟩
theorem tw2906824675625879941:True:=⟨⟩
theorem tw2915934117518456790:True:=⟨⟩
theorem tw2921621734765799159:True:=⟨⟩
theorem tw2921958311620399285:True:=⟨⟩
theorem tw2923286348875671695:True:=⟨⟩
theorem tw2923326968966308885:True:=⟨⟩
theorem tw2957507518494365187:True:=⟨⟩
theorem tw2965820268544440810:True:=⟨⟩
theorem tw2971689206457452117:True:=⟨⟩
theorem tw2992424584313992979:True:=⟨⟩
theorem tw302440914744352476:True:=⟨⟩
theorem tw3027586509356016917:True:=⟨⟩
theorem tw3033261876257692807:True:=⟨⟩
theorem tw3033833032746330586:True:=⟨⟩
theorem tw3045742163950154196:True:=⟨⟩
theorem tw3056878081241006185:True:=⟨⟩
theorem tw3078062877239007290:True:=⟨⟩
theorem tw3078964553284005601:True:=⟨⟩
theorem tw308427716283879934:True:=⟨⟩
theorem tw3102894239795883405:True:=⟨⟩
theorem tw3118292706591685684:True:=⟨⟩
theorem tw3136416535801588117:True:=⟨⟩
theorem tw3160845607165458772:True:=⟨⟩
theorem tw3174498240229758913:True:=⟨⟩
theorem tw3190568596449391090:True:=⟨⟩
theorem tw3197156666308221516:True:=⟨⟩
theorem tw3203809635103463919:True:=⟨⟩
theorem tw3220561703981169602:True:=⟨⟩
theorem tw3222223853247747169:True:=⟨⟩
theorem tw3234112476842188716:True:=⟨⟩
theorem tw3240935880901042570:True:=⟨⟩
theorem tw3243999106371352021:True:=⟨⟩
theorem tw3256899116147617359:True:=⟨⟩
theorem tw3262662943086543052:True:=⟨⟩
theorem tw3288582142898991060:True:=⟨⟩
theorem tw3298483428156984901:True:=⟨⟩
theorem tw330327031418712150:True:=⟨⟩
theorem tw3309651607182387174:True:=⟨⟩
theorem tw3342365933539840098:True:=⟨⟩
theorem tw3343439749351644125:True:=⟨⟩
theorem tw3353151685164730029:True:=⟨⟩
theorem tw33614349342159083:True:=⟨⟩
theorem tw3370190323706015969:True:=⟨⟩
theorem tw3370842686811476594:True:=⟨⟩
theorem tw3374421720907634814:True:=⟨⟩
theorem tw3384924299092398102:True:=⟨⟩
theorem tw3394367416137920725:True:=⟨⟩
theorem tw3404965551341049163:True:=⟨⟩
theorem tw3422715526262721465:True:=⟨⟩
theorem tw3454311308915712629:True:=⟨⟩
theorem tw3459380146013217038:True:=⟨⟩
theorem tw3464005467892915075:True:=⟨⟩
theorem tw3464709057266567092:True:=⟨⟩
theorem tw3466206800631347469:True:=⟨⟩
theorem tw3467695655513870114:True:=⟨⟩
theorem tw3479450013439438342:True:=⟨⟩
theorem tw3491332818749588091:True:=⟨⟩
theorem tw3496565724861077350:True:=⟨⟩
theorem tw3502538907535333668:True:=⟨⟩
theorem tw3521995779814947976:True:=⟨⟩
theorem tw3532412968194664532:True:=⟨⟩
theorem tw3544752959273917758:True:=⟨⟩
theorem tw3546150205236023746:True:=⟨⟩
theorem tw3549514262204291990:True:=⟨⟩
theorem tw3554760562371715034:True:=⟨⟩
theorem tw3557749057250611081:True:=⟨⟩
theorem tw3558987517978398910:True:=⟨⟩
theorem tw3562595001068472590:True:=⟨⟩
theorem tw3570300971023340979:True:=⟨⟩
theorem tw3579373935595621322:True:=⟨⟩
theorem tw3580572901072230766:True:=⟨⟩
theorem tw358491910552652209:True:=⟨⟩
theorem tw3606123511993362031:True:=⟨⟩
theorem tw3609762217373132089:True:=⟨⟩
theorem tw3623273976976474896:True:=⟨⟩
theorem tw3627144658338631552:True:=⟨⟩
theorem tw3651295723282942808:True:=⟨⟩
theorem tw365850788961202214:True:=⟨⟩
theorem tw3667755482350349876:True:=⟨⟩
theorem tw3672007897950868697:True:=⟨⟩
theorem tw3706830351922483016:True:=⟨⟩
theorem tw3714520120236048840:True:=⟨⟩
theorem tw3722536827764323908:True:=⟨⟩
theorem tw3724484323120607773:True:=⟨⟩
theorem tw372505627349444580:True:=⟨⟩
theorem tw3731879374237491455:True:=⟨⟩
theorem tw3732861423534940658:True:=⟨⟩
theorem tw3733955873212403192:True:=⟨⟩
theorem tw3745366327643436375:True:=⟨⟩
theorem tw3746060679510389192:True:=⟨⟩
theorem tw3748114642381145586:True:=⟨⟩
theorem tw3750506576032048294:True:=⟨⟩
theorem tw3757967415240569886:True:=⟨⟩
theorem tw3775083034030018508:True:=⟨⟩
theorem tw3796207824708393856:True:=⟨⟩
theorem tw379899607457092286:True:=⟨⟩
theorem tw3814186520784112166:True:=⟨⟩
theorem tw3829396358689915599:True:=⟨⟩
theorem tw3862167156518969729:True:=⟨⟩
theorem tw3864431920445960829:True:=⟨⟩
theorem tw387501639795913443:True:=⟨⟩
theorem tw3881243767933311072:True:=⟨⟩
theorem tw3934531018447913466:True:=⟨⟩
theorem tw3951913103685366658:True:=⟨⟩
theorem tw3958507339218470045:True:=⟨⟩
theorem tw3960113756560652017:True:=⟨⟩
theorem tw3963758770060641990:True:=⟨⟩
theorem tw3994622017586750766:True:=⟨⟩
theorem tw4008033627537872006:True:=⟨⟩
theorem tw4026956272090484662:True:=⟨⟩
theorem tw4034048572721927537:True:=⟨⟩
theorem tw4036238207498611232:True:=⟨⟩
theorem tw4038928485795849711:True:=⟨⟩
theorem tw4039676971129161736:True:=⟨⟩
theorem tw4044139247061151142:True:=⟨⟩
theorem tw4046449949787424452:True:=⟨⟩
theorem tw4047586217144654443:True:=⟨⟩
theorem tw4072190877284726289:True:=⟨⟩
theorem tw4073692232297535642:True:=⟨⟩
theorem tw4088224383575840552:True:=⟨⟩
theorem tw411453093077951327:True:=⟨⟩
theorem tw4126091431370883743:True:=⟨⟩
theorem tw4134466312625924303:True:=⟨⟩
theorem tw4139100593308808776:True:=⟨⟩
theorem tw4140987526249171514:True:=⟨⟩
theorem tw4141876818534340920:True:=⟨⟩
theorem tw4156125974679941130:True:=⟨⟩
theorem tw4156893749530806270:True:=⟨⟩
theorem tw4189750870438640210:True:=⟨⟩
theorem tw4193505271845495863:True:=⟨⟩
theorem tw4210618832060959676:True:=⟨⟩
theorem tw4216741518440994707:True:=⟨⟩
theorem tw4219356904048308301:True:=⟨⟩
theorem tw4237967493491133255:True:=⟨⟩
theorem tw4244067443239231564:True:=⟨⟩
theorem tw4258463428174104133:True:=⟨⟩
theorem tw4258790223775991472:True:=⟨⟩
theorem tw4261964983698606537:True:=⟨⟩
theorem tw427128652513076445:True:=⟨⟩
theorem tw4289460656931056126:True:=⟨⟩
theorem tw4297412468100583042:True:=⟨⟩
theorem tw4310270188432123100:True:=⟨⟩
theorem tw4320104191709082446:True:=⟨⟩
theorem tw4324958949535026087:True:=⟨⟩
theorem tw4333880214566435006:True:=⟨⟩
theorem tw4350604851675314991:True:=⟨⟩
theorem tw4359638763739663684:True:=⟨⟩
theorem tw4365514962571936147:True:=⟨⟩
theorem tw4370652028205933106:True:=⟨⟩
theorem tw4385281892830598654:True:=⟨⟩
theorem tw4388993273346631982:True:=⟨⟩
theorem tw4390233716756759232:True:=⟨⟩
theorem tw440032029612755421:True:=⟨⟩
theorem tw4401408348033170839:True:=⟨⟩
theorem tw4407106571657142563:True:=⟨⟩
theorem tw4409510580461579534:True:=⟨⟩
theorem tw4457671916707802524:True:=⟨⟩
theorem tw4458048076830672230:True:=⟨⟩
theorem tw4468527784785283488:True:=⟨⟩
theorem tw4468607706473421404:True:=⟨⟩
theorem tw4468619311224296992:True:=⟨⟩
theorem tw4475767826048309731:True:=⟨⟩
theorem tw4491334807805099456:True:=⟨⟩
theorem tw4492577900981701499:True:=⟨⟩
theorem tw4502447428920916452:True:=⟨⟩
theorem tw451873465583785326:True:=⟨⟩
theorem tw4521265326579594389:True:=⟨⟩
theorem tw4526832465735077838:True:=⟨⟩
theorem tw452746233719593009:True:=⟨⟩
theorem tw4529420699974407994:True:=⟨⟩
theorem tw4535713693919183956:True:=⟨⟩
theorem tw4540862073306924251:True:=⟨⟩
theorem tw4540918131813088423:True:=⟨⟩
theorem tw4544244032028310869:True:=⟨⟩
theorem tw4554758830490901076:True:=⟨⟩
theorem tw4573282807186111410:True:=⟨⟩
theorem tw4585930131862741453:True:=⟨⟩
theorem tw4587069139193485165:True:=⟨⟩
theorem tw4593673202692967292:True:=⟨⟩
theorem tw4605139254293405059:True:=⟨⟩
theorem tw4630824681090250767:True:=⟨⟩
theorem tw4637267157515435788:True:=⟨⟩
theorem tw4638281056170512193:True:=⟨⟩
theorem tw4642675879568451580:True:=⟨⟩
theorem tw4650958065196391918:True:=⟨⟩
theorem tw4651154628705390771:True:=⟨⟩
theorem tw4664399401233157621:True:=⟨⟩
theorem tw4681395471914393968:True:=⟨⟩
theorem tw4682653417627717812:True:=⟨⟩
theorem tw4696974164813065798:True:=⟨⟩
theorem tw4704260521663127852:True:=⟨⟩
theorem tw470481871638761223:True:=⟨⟩
theorem tw471287901995484742:True:=⟨⟩
theorem tw4749052000479324790:True:=⟨⟩
theorem tw4775608329324902142:True:=⟨⟩
theorem tw4784553394551972577:True:=⟨⟩
theorem tw4800332088761170393:True:=⟨⟩
theorem tw4804193426139556710:True:=⟨⟩
theorem tw480701840831765632:True:=⟨⟩
theorem tw4812270449578504274:True:=⟨⟩
theorem tw4817600198373253283:True:=⟨⟩
theorem tw482965496412451257:True:=⟨⟩
theorem tw4837222914738484193:True:=⟨⟩
theorem tw4839478117068044826:True:=⟨⟩
theorem tw48596604365144762:True:=⟨⟩
theorem tw4871624949866520906:True:=⟨⟩
theorem tw4884833596989118616:True:=⟨⟩
theorem tw4886955015573163100:True:=⟨⟩
theorem tw4900431672193113347:True:=⟨⟩
theorem tw4908570168794737769:True:=⟨⟩
theorem tw4909700646600248447:True:=⟨⟩
theorem tw4917070330192852093:True:=⟨⟩
theorem tw4921985290734283403:True:=⟨⟩
theorem tw4924694640843408985:True:=⟨⟩
theorem tw4933651622927583162:True:=⟨⟩
theorem tw4946776927847147119:True:=⟨⟩
theorem tw4948327476702027199:True:=⟨⟩
theorem tw495442525896006271:True:=⟨⟩
theorem tw4957201559515094939:True:=⟨⟩
theorem tw496054636271951787:True:=⟨⟩
theorem tw4966213397971950540:True:=⟨⟩
theorem tw4966469486753893531:True:=⟨⟩
theorem tw49674306023711395:True:=⟨⟩
theorem tw4967792270526972898:True:=⟨⟩
theorem tw4977165927707633593:True:=⟨⟩
theorem tw4985309986857532520:True:=⟨⟩
theorem tw4990475226369331113:True:=⟨⟩
theorem tw4999384383118543889:True:=⟨⟩
theorem tw5004366561265856203:True:=⟨⟩
theorem tw501471865655209971:True:=⟨⟩
theorem tw5015727414227830797:True:=⟨⟩
theorem tw5034351916928012029:True:=⟨⟩
theorem tw5038764109367625727:True:=⟨⟩
theorem tw5053656707758960329:True:=⟨⟩
theorem tw5084117380071580128:True:=⟨⟩
theorem tw5086405972233500629:True:=⟨⟩
theorem tw5090544757551010605:True:=⟨⟩
theorem tw5102693214775723256:True:=⟨⟩
theorem tw5104194264097766351:True:=⟨⟩
theorem tw5106512470501171327:True:=⟨⟩
theorem tw511177728809242662:True:=⟨⟩
theorem tw5160751907100791332:True:=⟨⟩
theorem tw5169613781324594896:True:=⟨⟩
theorem tw5181119749688162637:True:=⟨⟩
theorem tw5186916860251794821:True:=⟨⟩
theorem tw5197160576613803585:True:=⟨⟩
theorem tw5203219222101121401:True:=⟨⟩
theorem tw5213049207812348041:True:=⟨⟩
theorem tw5217383181990780837:True:=⟨⟩
theorem tw52199770228462824:True:=⟨⟩
theorem tw5234446048077146213:True:=⟨⟩
theorem tw5240536507193477226:True:=⟨⟩
theorem tw5240579571071676036:True:=⟨⟩
theorem tw5240779543111244032:True:=⟨⟩
theorem tw5243159528196176124:True:=⟨⟩
theorem tw526373878138232175:True:=⟨⟩
theorem tw5289026146741335887:True:=⟨⟩
theorem tw5291566612689455996:True:=⟨⟩
theorem tw5309058905264134205:True:=⟨⟩
theorem tw5326156766123765235:True:=⟨⟩
theorem tw5343319030673445083:True:=⟨⟩
theorem tw5352104535322881683:True:=⟨⟩
theorem tw5363903885879670357:True:=⟨⟩
theorem tw5365620095842556414:True:=⟨⟩
theorem tw5372645768047454471:True:=⟨⟩
theorem tw5378808338967829844:True:=⟨⟩
theorem tw5380724150619614574:True:=⟨⟩
theorem tw5396188567872606041:True:=⟨⟩
theorem tw5396361742852586263:True:=⟨⟩
theorem tw5400957986263281647:True:=⟨⟩
theorem tw540157334675435215:True:=⟨⟩
theorem tw5401703158475992631:True:=⟨⟩
theorem tw5406196909365362791:True:=⟨⟩
theorem tw5418533224930618480:True:=⟨⟩
theorem tw5435614590818080486:True:=⟨⟩
theorem tw5436791530062809996:True:=⟨⟩
theorem tw5450094653865882931:True:=⟨⟩
theorem tw545269030811804461:True:=⟨⟩
theorem tw5456330333991267789:True:=⟨⟩
theorem tw5460091804258272057:True:=⟨⟩
theorem tw5461779845614304980:True:=⟨⟩
theorem tw5464139401052260700:True:=⟨⟩
theorem tw5472497893328110697:True:=⟨⟩
theorem tw5473700226181020891:True:=⟨⟩
theorem tw5476702260514696933:True:=⟨⟩
theorem tw5477019107358212144:True:=⟨⟩
theorem tw5481437975921331730:True:=⟨⟩
theorem tw54841869916938688:True:=⟨⟩
theorem tw5499918767896811753:True:=⟨⟩
theorem tw5502569546826302122:True:=⟨⟩
theorem tw5517759331935216279:True:=⟨⟩
theorem tw5521862915769958479:True:=⟨⟩
theorem tw5527929279227188259:True:=⟨⟩
theorem tw5534937755968359062:True:=⟨⟩
theorem tw5551744754900680403:True:=⟨⟩
theorem tw5561109624111635707:True:=⟨⟩
theorem tw5567732340971880690:True:=⟨⟩
theorem tw5585478044538960755:True:=⟨⟩
theorem tw5588379871065848947:True:=⟨⟩
theorem tw5613160597433933154:True:=⟨⟩
theorem tw561517892166936883:True:=⟨⟩
theorem tw5616070069386785504:True:=⟨⟩
theorem tw5622414494828026348:True:=⟨⟩
theorem tw5623159541915647742:True:=⟨⟩
theorem tw5630581657593164606:True:=⟨⟩
theorem tw5632948755005780175:True:=⟨⟩
theorem tw5638201095994319732:True:=⟨⟩
theorem tw5665406974723832613:True:=⟨⟩
theorem tw5665735395497279834:True:=⟨⟩
theorem tw567168373054797020:True:=⟨⟩
theorem tw5677329702179833609:True:=⟨⟩
theorem tw5688288590452875165:True:=⟨⟩
theorem tw5708242655509517844:True:=⟨⟩
theorem tw5748653593725889352:True:=⟨⟩
theorem tw575142211280951885:True:=⟨⟩
theorem tw5759602833968269929:True:=⟨⟩
theorem tw5763360128662820622:True:=⟨⟩
theorem tw5768018617931124328:True:=⟨⟩
theorem tw5781596087445459943:True:=⟨⟩
theorem tw5790326737455844299:True:=⟨⟩
theorem tw5797031442667253490:True:=⟨⟩
theorem tw5831584030425509755:True:=⟨⟩
theorem tw5837888446457221635:True:=⟨⟩
theorem tw5838101520590548733:True:=⟨⟩
theorem tw5839530249802149432:True:=⟨⟩
theorem tw5842977544298395883:True:=⟨⟩
theorem tw5865035375444044283:True:=⟨⟩
theorem tw5870225077901225703:True:=⟨⟩
theorem tw5871769198996169552:True:=⟨⟩
theorem tw5873457841875658276:True:=⟨⟩
theorem tw588950844065142505:True:=⟨⟩
theorem tw5900072995565114194:True:=⟨⟩
theorem tw5920407321468502566:True:=⟨⟩
theorem tw5921134243170700561:True:=⟨⟩
theorem tw5923482378544829773:True:=⟨⟩
theorem tw5942767615974559732:True:=⟨⟩
theorem tw5961825094459301025:True:=⟨⟩
theorem tw5980074405315006315:True:=⟨⟩
theorem tw5999843119272109308:True:=⟨⟩
theorem tw6021853773325730911:True:=⟨⟩
theorem tw6023396884534502478:True:=⟨⟩
theorem tw6043882067567460223:True:=⟨⟩
theorem tw6044114016751833949:True:=⟨⟩
theorem tw6056095068991171605:True:=⟨⟩
theorem tw6072795283324543088:True:=⟨⟩
theorem tw6075091234017535682:True:=⟨⟩
theorem tw6087835443962453003:True:=⟨⟩
theorem tw6094589919910245549:True:=⟨⟩
theorem tw6106196091520820027:True:=⟨⟩
theorem tw6112859857366181021:True:=⟨⟩
theorem tw6117098260805541702:True:=⟨⟩
theorem tw6124416833075167902:True:=⟨⟩
theorem tw613567027398061577:True:=⟨⟩
theorem tw6137908229700043457:True:=⟨⟩
theorem tw6140287776057189764:True:=⟨⟩
theorem tw6148370261588893927:True:=⟨⟩
theorem tw6161133996638707016:True:=⟨⟩
theorem tw6162249291895867263:True:=⟨⟩
theorem tw6164561884633627433:True:=⟨⟩
theorem tw6183352029847204284:True:=⟨⟩
theorem tw6197476514237404990:True:=⟨⟩
theorem tw6203846247750671552:True:=⟨⟩
theorem tw6205405239736777449:True:=⟨⟩
theorem tw6214117541549086881:True:=⟨⟩
theorem tw6222487380544312443:True:=⟨⟩
theorem tw622858974532400822:True:=⟨⟩
theorem tw6234934611588079204:True:=⟨⟩
theorem tw6237627108579964202:True:=⟨⟩
theorem tw6246033870358800893:True:=⟨⟩
theorem tw6252391252262179987:True:=⟨⟩
theorem tw6254453501864316152:True:=⟨⟩
theorem tw625823112455064850:True:=⟨⟩
theorem tw6264281720289328834:True:=⟨⟩
theorem tw6298394922185409918:True:=⟨⟩
theorem tw6323409287797259969:True:=⟨⟩
theorem tw6333950824067068610:True:=⟨⟩
theorem tw6356209522458811793:True:=⟨⟩
theorem tw6361450105264607166:True:=⟨⟩
theorem tw6371716776003759871:True:=⟨⟩
theorem tw6378864729597662469:True:=⟨⟩
theorem tw6384028539975533837:True:=⟨⟩
theorem tw6385024630547198690:True:=⟨⟩
theorem tw6389877041954997217:True:=⟨⟩
theorem tw6394338452064613244:True:=⟨⟩
theorem tw6404898279339705064:True:=⟨⟩
theorem tw640997955334042709:True:=⟨⟩
theorem tw641135730203032400:True:=⟨⟩
theorem tw6418098437765475518:True:=⟨⟩
theorem tw6418202794160714309:True:=⟨⟩
theorem tw6425626318312657004:True:=⟨⟩
theorem tw6437645805973890128:True:=⟨⟩
theorem tw6449824600675878752:True:=⟨⟩
theorem tw645136716886899192:True:=⟨⟩
theorem tw6455149578367423246:True:=⟨⟩
theorem tw6471626197427646336:True:=⟨⟩
theorem tw6508729118710982530:True:=⟨⟩
theorem tw6512923179152221375:True:=⟨⟩
theorem tw6516198228755648517:True:=⟨⟩
theorem tw6519269512792494810:True:=⟨⟩
theorem tw6527851638303844863:True:=⟨⟩
theorem tw6530382112735412195:True:=⟨⟩
theorem tw6535589618603614281:True:=⟨⟩
theorem tw6539550149946680156:True:=⟨⟩
theorem tw6541472054586571296:True:=⟨⟩
theorem tw6542085627976250192:True:=⟨⟩
theorem tw6544430855012709152:True:=⟨⟩
theorem tw6545385358150927430:True:=⟨⟩
theorem tw6557543464795787104:True:=⟨⟩
theorem tw6560450307063692292:True:=⟨⟩
theorem tw65644731488775911:True:=⟨⟩
theorem tw6565609875121592624:True:=⟨⟩
theorem tw6570437773673931950:True:=⟨⟩
theorem tw6574124444989428688:True:=⟨⟩
theorem tw6578068729466472756:True:=⟨⟩
theorem tw657867468410044558:True:=⟨⟩
theorem tw6584820252761975732:True:=⟨⟩
theorem tw6590341273101898363:True:=⟨⟩
theorem tw6597717984098413109:True:=⟨⟩
theorem tw6601607017338280919:True:=⟨⟩
theorem tw6605025701479795990:True:=⟨⟩
theorem tw66260789543402106:True:=⟨⟩
theorem tw6632538468102435922:True:=⟨⟩
theorem tw6635558491612396129:True:=⟨⟩
theorem tw6639522245352263942:True:=⟨⟩
theorem tw6640438233256266117:True:=⟨⟩
theorem tw6642858168728409138:True:=⟨⟩
theorem tw6655696309031964122:True:=⟨⟩
theorem tw6657087868060814:True:=⟨⟩
theorem tw666041200520506826:True:=⟨⟩
theorem tw6663778134991626487:True:=⟨⟩
theorem tw6672407995127200409:True:=⟨⟩
theorem tw6674386428176565332:True:=⟨⟩
theorem tw6674893403203295414:True:=⟨⟩
theorem tw6690441779611380620:True:=⟨⟩
theorem tw6697339332421208802:True:=⟨⟩
theorem tw6705091409270121589:True:=⟨⟩
theorem tw6707852198034570110:True:=⟨⟩
theorem tw6710197528861561384:True:=⟨⟩
theorem tw6741292078354696603:True:=⟨⟩
theorem tw6763052569315236005:True:=⟨⟩
theorem tw6768520987592691376:True:=⟨⟩
theorem tw6785432497481299714:True:=⟨⟩
theorem tw6785657489111691699:True:=⟨⟩
theorem tw6786494451084723863:True:=⟨⟩
theorem tw6788530277367551627:True:=⟨⟩
theorem tw6788695710022549768:True:=⟨⟩
theorem tw6801380410627298636:True:=⟨⟩
theorem tw6808518031951737805:True:=⟨⟩
theorem tw6812490667560189205:True:=⟨⟩
theorem tw685434162058424951:True:=⟨⟩
theorem tw6855474311058116810:True:=⟨⟩
theorem tw6862268138105152660:True:=⟨⟩
theorem tw6862492499505807319:True:=⟨⟩
theorem tw6868236387235032019:True:=⟨⟩
theorem tw6875353511234155584:True:=⟨⟩
theorem tw6877560268529008848:True:=⟨⟩
theorem tw6880717277089553138:True:=⟨⟩
theorem tw6886502059237256666:True:=⟨⟩
theorem tw6897311013810396976:True:=⟨⟩
theorem tw6898400011967081535:True:=⟨⟩
theorem tw6907636171062424033:True:=⟨⟩
theorem tw6910295442248876197:True:=⟨⟩
theorem tw6912675738884088206:True:=⟨⟩
theorem tw6914184659022975773:True:=⟨⟩
theorem tw6914676871138542964:True:=⟨⟩
theorem tw6921685317656363116:True:=⟨⟩
theorem tw6935676897619631941:True:=⟨⟩
theorem tw6936053746170408404:True:=⟨⟩
theorem tw6981580820607432535:True:=⟨⟩
theorem tw6981815665589151136:True:=⟨⟩
theorem tw7000664437366286474:True:=⟨⟩
theorem tw7010351842590255796:True:=⟨⟩
theorem tw7013455487156910676:True:=⟨⟩
theorem tw7019240024125815769:True:=⟨⟩
theorem tw7046832412185930697:True:=⟨⟩
theorem tw7054876372555587774:True:=⟨⟩
theorem tw7066040193866052180:True:=⟨⟩
theorem tw7073996269223845280:True:=⟨⟩
theorem tw7083192437325867461:True:=⟨⟩
theorem tw7093617532817203218:True:=⟨⟩
theorem tw7108953243070827183:True:=⟨⟩
theorem tw7113585516715319716:True:=⟨⟩
theorem tw7139307881021679148:True:=⟨⟩
theorem tw7142256002058171272:True:=⟨⟩
theorem tw7153082081811710619:True:=⟨⟩
theorem tw7159657910766400284:True:=⟨⟩
theorem tw716429049611869786:True:=⟨⟩
theorem tw7165207203227711834:True:=⟨⟩
theorem tw7171016264030015397:True:=⟨⟩
theorem tw7172379750051048105:True:=⟨⟩
theorem tw7173623326730630234:True:=⟨⟩
theorem tw7173763439476657957:True:=⟨⟩
theorem tw7186131708394509389:True:=⟨⟩
theorem tw7188284251151334629:True:=⟨⟩
theorem tw7205785831757809165:True:=⟨⟩
theorem tw7214478077546791972:True:=⟨⟩
theorem tw7221758910455160077:True:=⟨⟩
theorem tw7235775444256392728:True:=⟨⟩
theorem tw7237411587787531456:True:=⟨⟩
theorem tw7238065321881607702:True:=⟨⟩
theorem tw7268301785047649679:True:=⟨⟩
theorem tw7273056430967151046:True:=⟨⟩
theorem tw7276690615722977934:True:=⟨⟩
theorem tw7280229744369011555:True:=⟨⟩
theorem tw7293298908176781663:True:=⟨⟩
theorem tw7293704977770490947:True:=⟨⟩
theorem tw7297187181890747607:True:=⟨⟩
theorem tw7298748307773712898:True:=⟨⟩
theorem tw7303883616157639451:True:=⟨⟩
theorem tw7323113809268759550:True:=⟨⟩
theorem tw7332330508316399935:True:=⟨⟩
theorem tw7332552209862256014:True:=⟨⟩
theorem tw734625210370093676:True:=⟨⟩
theorem tw7358942708152152329:True:=⟨⟩
theorem tw73751810991705359:True:=⟨⟩
theorem tw7380652910202371479:True:=⟨⟩
theorem tw7394006948641179287:True:=⟨⟩
theorem tw7411558596216406370:True:=⟨⟩
theorem tw7439787175107056256:True:=⟨⟩
theorem tw7440624839005297460:True:=⟨⟩
theorem tw7454272344601318502:True:=⟨⟩
theorem tw746619569347964165:True:=⟨⟩
theorem tw7469034217203985341:True:=⟨⟩
theorem tw7469515027860915179:True:=⟨⟩
theorem tw7472237861779093752:True:=⟨⟩
theorem tw7472368607099979303:True:=⟨⟩
theorem tw7483713754202142201:True:=⟨⟩
theorem tw750237026923860459:True:=⟨⟩
theorem tw7514964652732493775:True:=⟨⟩
theorem tw7521444476212097132:True:=⟨⟩
theorem tw7554534293552944094:True:=⟨⟩
theorem tw7563215957194029611:True:=⟨⟩
theorem tw7587476063189762676:True:=⟨⟩
theorem tw7591743695986301205:True:=⟨⟩
theorem tw7623509227018997848:True:=⟨⟩
theorem tw7623511443260959870:True:=⟨⟩
theorem tw7624122152786673341:True:=⟨⟩
theorem tw7639352225515584698:True:=⟨⟩
theorem tw7660904672405743982:True:=⟨⟩
theorem tw7675930258259734528:True:=⟨⟩
theorem tw7681305979631532957:True:=⟨⟩
theorem tw7682646441695089857:True:=⟨⟩
theorem tw7686379347491079107:True:=⟨⟩
theorem tw7691172733374981047:True:=⟨⟩
theorem tw7701450462656399998:True:=⟨⟩
theorem tw7742616358663508648:True:=⟨⟩
theorem tw7751025194823839400:True:=⟨⟩
theorem tw7755989106900416354:True:=⟨⟩
theorem tw7759481673353423055:True:=⟨⟩
theorem tw7761410557224570781:True:=⟨⟩
theorem tw7780446386730421317:True:=⟨⟩
theorem tw7788533954027902341:True:=⟨⟩
theorem tw7789931110895969332:True:=⟨⟩
theorem tw7832595803652473744:True:=⟨⟩
theorem tw783887190727592630:True:=⟨⟩
theorem tw7846812961960373227:True:=⟨⟩
theorem tw785246043732427063:True:=⟨⟩
theorem tw7860819179221955721:True:=⟨⟩
theorem tw7875838824674609581:True:=⟨⟩
theorem tw7883848961242879871:True:=⟨⟩
theorem tw7884273913378172499:True:=⟨⟩
theorem tw7904437144335635152:True:=⟨⟩
theorem tw7929128423345735474:True:=⟨⟩
theorem tw7943094425149488825:True:=⟨⟩
theorem tw7953286300990702177:True:=⟨⟩
theorem tw7972779244933481256:True:=⟨⟩
theorem tw7974786978671736131:True:=⟨⟩
theorem tw7975334395726622261:True:=⟨⟩
theorem tw8028668999275426519:True:=⟨⟩
theorem tw8031421327171159473:True:=⟨⟩
theorem tw805545300560941854:True:=⟨⟩
theorem tw8079908401900000222:True:=⟨⟩
theorem tw8083804993136304721:True:=⟨⟩
theorem tw8090509862211737132:True:=⟨⟩
theorem tw8093378623972468977:True:=⟨⟩
theorem tw8106439411384577822:True:=⟨⟩
theorem tw8118072479153026202:True:=⟨⟩
theorem tw8127475511531132179:True:=⟨⟩
theorem tw8153860185051352139:True:=⟨⟩
theorem tw8157379394831895996:True:=⟨⟩
theorem tw816667909150652443:True:=⟨⟩
theorem tw8189004088814472222:True:=⟨⟩
theorem tw8194577613432196632:True:=⟨⟩
theorem tw8207831470162742035:True:=⟨⟩
theorem tw8211959896082780389:True:=⟨⟩
theorem tw8220997788571121255:True:=⟨⟩
theorem tw8227395457907370147:True:=⟨⟩
theorem tw8260724100714396741:True:=⟨⟩
theorem tw8281396171620568247:True:=⟨⟩
theorem tw8283060676807011144:True:=⟨⟩
theorem tw8312829660672013939:True:=⟨⟩
theorem tw8315963955534907981:True:=⟨⟩
theorem tw8325160127895331190:True:=⟨⟩
theorem tw832900586485598795:True:=⟨⟩
theorem tw8336868939414340425:True:=⟨⟩
theorem tw8343601364905591985:True:=⟨⟩
theorem tw8344989883159853150:True:=⟨⟩
theorem tw834873547066669988:True:=⟨⟩
theorem tw8394416109485655870:True:=⟨⟩
theorem tw8402242094647718915:True:=⟨⟩
theorem tw8404659333953806752:True:=⟨⟩
theorem tw8419495778230234659:True:=⟨⟩
theorem tw8421283082012440161:True:=⟨⟩
theorem tw8427638858588021438:True:=⟨⟩
theorem tw8436210846270712021:True:=⟨⟩
theorem tw8440099810896429113:True:=⟨⟩
theorem tw8466321980469482115:True:=⟨⟩
theorem tw8467378866343419333:True:=⟨⟩
theorem tw8475525182357872103:True:=⟨⟩
theorem tw8496349624203035976:True:=⟨⟩
theorem tw8519132048200376745:True:=⟨⟩
theorem tw8521940999368279291:True:=⟨⟩
theorem tw8528285597010949478:True:=⟨⟩
theorem tw854977524454699277:True:=⟨⟩
theorem tw8552590999205103523:True:=⟨⟩
theorem tw8553149196640511200:True:=⟨⟩
theorem tw8557395850702784662:True:=⟨⟩
theorem tw8565580760176719406:True:=⟨⟩
theorem tw8567518541235275850:True:=⟨⟩
theorem tw8576046583911679650:True:=⟨⟩
theorem tw8577895249707613273:True:=⟨⟩
theorem tw8583285827930749696:True:=⟨⟩
theorem tw861011362418597151:True:=⟨⟩
theorem tw8611842962401369293:True:=⟨⟩
theorem tw8613949480733278760:True:=⟨⟩
theorem tw8624498521744291746:True:=⟨⟩
theorem tw8627561154394265716:True:=⟨⟩
theorem tw8628486769704363519:True:=⟨⟩
theorem tw8634654232796393261:True:=⟨⟩
theorem tw8645133422005227894:True:=⟨⟩
theorem tw8648815253045107918:True:=⟨⟩
theorem tw8651587035891514320:True:=⟨⟩
theorem tw8652556701797213591:True:=⟨⟩
theorem tw8652574141985688695:True:=⟨⟩
theorem tw8663697691656813868:True:=⟨⟩
theorem tw8681388529863501421:True:=⟨⟩
theorem tw8707812797481193996:True:=⟨⟩
theorem tw8708525158762292434:True:=⟨⟩
theorem tw8714498338409269176:True:=⟨⟩
theorem tw8729708805864041840:True:=⟨⟩
theorem tw8732486101406053781:True:=⟨⟩
theorem tw8772768460463458808:True:=⟨⟩
theorem tw8828626079734051433:True:=⟨⟩
theorem tw8834365191522931223:True:=⟨⟩
theorem tw8879939841973710529:True:=⟨⟩
theorem tw8905464785575363620:True:=⟨⟩
theorem tw8905992674379837232:True:=⟨⟩
theorem tw892681787802806017:True:=⟨⟩
theorem tw8930851030842425676:True:=⟨⟩
theorem tw893443759290781984:True:=⟨⟩
theorem tw8934699018898702947:True:=⟨⟩
theorem tw8947760058931562597:True:=⟨⟩
theorem tw8952462522180670554:True:=⟨⟩
theorem tw896017019891655293:True:=⟨⟩
theorem tw8984930932524396370:True:=⟨⟩
theorem tw8989776476301544223:True:=⟨⟩
theorem tw8996212591421123362:True:=⟨⟩
theorem tw9000509841880817679:True:=⟨⟩
theorem tw9008324970568785946:True:=⟨⟩
theorem tw9030572976968768451:True:=⟨⟩
theorem tw9039878662387289062:True:=⟨⟩
theorem tw9069182735580402390:True:=⟨⟩
theorem tw9071729483887776986:True:=⟨⟩
theorem tw9111309141060071055:True:=⟨⟩
theorem tw9116569932691232373:True:=⟨⟩
theorem tw9121559901702372667:True:=⟨⟩
theorem tw9130189958531216065:True:=⟨⟩
theorem tw9131807755668617818:True:=⟨⟩
theorem tw9136626176746981025:True:=⟨⟩
theorem tw9141676883267528939:True:=⟨⟩
theorem tw9155575984036265788:True:=⟨⟩
theorem tw9156686268802561153:True:=⟨⟩
theorem tw9163537635185709057:True:=⟨⟩
theorem tw917386388269078853:True:=⟨⟩
theorem tw9175052073728820173:True:=⟨⟩
theorem tw9176001392733650721:True:=⟨⟩
theorem tw9189880136782149556:True:=⟨⟩
theorem tw9202644262627027174:True:=⟨⟩
theorem tw9211707205177423737:True:=⟨⟩
theorem tw9215268440565305254:True:=⟨⟩
theorem tw9225817249531781228:True:=⟨⟩
theorem tw9228223359510876813:True:=⟨⟩
theorem tw9240610997974623812:True:=⟨⟩
theorem tw9241885145203102909:True:=⟨⟩
theorem tw9246442804111484770:True:=⟨⟩
theorem tw924727373068875272:True:=⟨⟩
theorem tw9247501659233101145:True:=⟨⟩
theorem tw9253799994812790149:True:=⟨⟩
theorem tw9265567077377626405:True:=⟨⟩
theorem tw9265829497004654079:True:=⟨⟩
theorem tw9268297945177815525:True:=⟨⟩
theorem tw9272984997812220495:True:=⟨⟩
theorem tw9287109580392646860:True:=⟨⟩
theorem tw9287587430799945685:True:=⟨⟩
theorem tw9293455121233016472:True:=⟨⟩
theorem tw9302470337196694018:True:=⟨⟩
theorem tw9303439499767911484:True:=⟨⟩
theorem tw9321267617633783869:True:=⟨⟩
theorem tw9324701786144819629:True:=⟨⟩
theorem tw933813234781227142:True:=⟨⟩
theorem tw9355243762808164322:True:=⟨⟩
theorem tw9360745474812902239:True:=⟨⟩
theorem tw9361300454564663673:True:=⟨⟩
theorem tw9368617206455126095:True:=⟨⟩
theorem tw9369988214560726041:True:=⟨⟩
theorem tw9374922184474081937:True:=⟨⟩
theorem tw9376575566392132001:True:=⟨⟩
theorem tw9381277316556691805:True:=⟨⟩
theorem tw9381886862466946253:True:=⟨⟩
theorem tw9389665374557996460:True:=⟨⟩
theorem tw9392487213469676918:True:=⟨⟩
theorem tw9394770849952503311:True:=⟨⟩
theorem tw9404981427350431329:True:=⟨⟩
theorem tw9406782406253462049:True:=⟨⟩
theorem tw9417822746687237092:True:=⟨⟩
theorem tw943200776110089058:True:=⟨⟩
theorem tw9470667924834194258:True:=⟨⟩
theorem tw9483120023164983764:True:=⟨⟩
theorem tw9498315638749924794:True:=⟨⟩
theorem tw9508770018378322450:True:=⟨⟩
theorem tw9512817274939609580:True:=⟨⟩
theorem tw9515011664573035354:True:=⟨⟩
theorem tw9554782927333133507:True:=⟨⟩
theorem tw9557352009045844224:True:=⟨⟩
theorem tw9563168847844234846:True:=⟨⟩
theorem tw9569095987937118121:True:=⟨⟩
theorem tw9573086628692744296:True:=⟨⟩
theorem tw957831766286570088:True:=⟨⟩
theorem tw9603218018402599253:True:=⟨⟩
theorem tw9608317784443781154:True:=⟨⟩
theorem tw9608646114965807792:True:=⟨⟩
theorem tw960986543115211030:True:=⟨⟩
theorem tw962032349192862916:True:=⟨⟩
theorem tw9626384672669237482:True:=⟨⟩
theorem tw9653258972835725974:True:=⟨⟩
theorem tw9658885295015712986:True:=⟨⟩
theorem tw9668287257029764190:True:=⟨⟩
theorem tw9670510015898674028:True:=⟨⟩
theorem tw9681375758050803366:True:=⟨⟩
theorem tw9682133043923132273:True:=⟨⟩
theorem tw9703084557020090508:True:=⟨⟩
theorem tw9706551924872666739:True:=⟨⟩
theorem tw9716624006974247489:True:=⟨⟩
theorem tw9730157408454304684:True:=⟨⟩
theorem tw973372806410652732:True:=⟨⟩
theorem tw9739220552312930418:True:=⟨⟩
theorem tw9743454169017585744:True:=⟨⟩
theorem tw9756827057097773860:True:=⟨⟩
theorem tw9763753506924381068:True:=⟨⟩
theorem tw9787082251989533984:True:=⟨⟩
theorem tw979501456738626862:True:=⟨⟩
theorem tw9805168224760091760:True:=⟨⟩
theorem tw9811667543942387436:True:=⟨⟩
theorem tw9812880631362827568:True:=⟨⟩
theorem tw983542388872702638:True:=⟨⟩
theorem tw9880953963774564861:True:=⟨⟩
theorem tw9886734455308162347:True:=⟨⟩
theorem tw9889869242142760280:True:=⟨⟩
theorem tw9897820754763898449:True:=⟨⟩
theorem tw9920856216654487317:True:=⟨⟩
theorem tw9924407051184550396:True:=⟨⟩
theorem tw9925469786538053656:True:=⟨⟩
theorem tw9939699701984659387:True:=⟨⟩
theorem tw9942282790977331292:True:=⟨⟩
theorem tw9957550378297406723:True:=⟨⟩
theorem tw996157097607404436:True:=⟨⟩
theorem tw9964214247947446159:True:=⟨⟩
theorem tw997282325285248744:True:=⟨⟩
theorem tw9976160756891316704:True:=⟨⟩
theorem tw9990284206797344903:True:=⟨⟩
theorem tw9994787619460420439:True:=⟨⟩
theorem tw10253174241230309411:True:=⟨⟩
theorem tw18263833032694527392:True:=⟨⟩
theorem tw8393230619707643776:True:=⟨⟩
theorem tw7141213381515908064:True:=⟨⟩
end Mine.main
namespace Mine
set_option Elab.async true in
set_option maxRecDepth 100000 in
set_option maxHeartbeats 0 in
theorem main : PySem.Challenge.rw_ae0024_01.Holds := by
  w_on; o_law; o_head (kmHook Kp KpAt (fun _ => by kernel_rfl) [742, 906, 941])
  case hw => w_witness2
  case hc =>
    k_fill
    intro w s₀ s₁ mg mb G Y fa o pm cd doc dV kV ho hd hcd hD hmg hg args vals as hpre hlay hrd hwl hlo
    have KX := km_in_of Y
    km_tabs Y
    have X := (Ground.X G).1
    have V := (Ground.X G).2
    refine Ground.open G ?_
    intro T B D TE TW
    try (refine guard_noD D (by decide +kernel) ?_; clear D)
    have hT9 : TabsAt ([(744, 742), (908, 906), (945, 941)] : List (Addr × Addr)) s₁.heap := List.forall_mem_cons.mpr ⟨⟨codeHd_of_K (c := 744) (P := 742) KX (by kernel_rfl), hT8 742 (by k_mem)⟩, List.forall_mem_cons.mpr ⟨⟨codeHd_of_K (c := 908) (P := 906) KX (by kernel_rfl), hT8 906 (by k_mem)⟩, List.forall_mem_cons.mpr ⟨⟨codeHd_of_K (c := 945) (P := 941) KX (by kernel_rfl), hT8 941 (by k_mem)⟩, fun _ h => nomatch h⟩⟩⟩
    clear hmg
    wrow_args hpre hlay hrd hwl hlo
    (
      first | refine callC_kw (enter_call ?_) | refine enter_call ?_
      w_top on
      refine kn_postG hT9 (fun _ => rfl) (by kernel_rfl) ?_
      w_call any ho hd hcd hD T F
      kn_ghosts F T)
    rename IntsAre _ _ => hI
    rename News _ _ _ _ => N9
    rename Below _ _ _ _ => K9
    rename Fr _ _ _ _ => F9
    rename Frag.In _ _ => X9
    rename Top _ _ _ _ _ _ => T9
    rename Heap.IsList _ _ _ => L9
    have hlen := ints_len hI
    refine' law_top ?zvs ?zxs ?zhi ?zhlx ?zsc ?zm' ?zQF ?zB ?zF ?zX ?zN ?zT ?zC ?zC2 ?zC3 ?zhGn ?zhsc ?zhmsc ?zhpg ?zd1 ?zd2 ?zd3 ?zd4 ?zret ?zhE
    case zF => exact F9
    case zN => exact N9
    case zhi => exact hI
    case zhlx => omega
    case zB => exact K9
    case zX => exact X9
    case zT => exact T9
    case zC => assumption
    case zC2 => assumption
    case zC3 => assumption
    case zhsc => exact L9
    case zd1 => assumption
    case zd2 => assumption
    case zd3 => assumption
    case zd4 => assumption
    case zhmsc => exact rfl
    case zhE => passes_own
    case zhGn => (show AllBare s₁.gens; rw [hg]; intro i; simp)
    case zhpg => exact ⟨by decide, by decide⟩
    case zret =>
      intro s' m2 news' os' G' F' N' hD h9
      obtain ⟨D, M⟩ := hD
      exact ⟨rfl, F'.keep, os', G', grown3 N' M h9⟩
end Mine
set_option Elab.async false
theorem PySem.Challenge.cw_ae0024_01_holds : PySem.Challenge.rw_ae0024_01.Holds :=
  Mine.main
