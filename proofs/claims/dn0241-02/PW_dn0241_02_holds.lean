import PyProof.Rows.All
import Wide.All
import OpenK.AllK
import Wide.FinOn
import Lean
import PySem.Challenge.RW_dn0241_02
set_option Elab.async false
set_option maxRecDepth 100000
set_option linter.unusedVariables false
section
open PySem PySem.W PyProof.Rows
set_option Elab.async false
set_option maxRecDepth 100000
set_option linter.unusedVariables false
namespace Mine
noncomputable section
/-! THE HEAD, its states (printed by GenHead.lean) -/
abbrev pw : Program := PySem.Challenge.pw_dn0241_02
def stm (i : Nat) : Stmt := (pw.main.body[i]?).getD (.Pass default)
def clsB : List Stmt := match stm 2 with | .ClassDef _ _ _ b _ _ _ _ _ _ _ => b | _ => []
def clsM (i : Nat) : Stmt := (clsB[i]?).getD (.Pass default)
def defP : Stmt → Arguments | .FunctionDef _ a _ _ _ _ _ _ _ _ => a | _ => ⟨[], [], none, [], [], none, []⟩
def defB : Stmt → List Stmt | .FunctionDef _ _ b _ _ _ _ _ _ _ => b | _ => []
def defS : Stmt → Scope | .FunctionDef _ _ _ _ _ _ sc _ _ _ => sc | _ => default
def initP : Arguments := defP (clsM 0)
def initB : List Stmt := defB (clsM 0)
def initS : Scope := defS (clsM 0)
def reprP : Arguments := defP (clsM 1)
def reprB : List Stmt := defB (clsM 1)
def reprS : Scope := defS (clsM 1)
def missP : Arguments := defP (clsM 2)
def missB : List Stmt := defB (clsM 2)
def missS : Scope := defS (clsM 2)
def writP : Arguments := defP (stm 4)
def writB : List Stmt := defB (stm 4)
def writS : Scope := defS (stm 4)
def lawP : Arguments := defP (stm 5)
def lawB : List Stmt := defB (stm 5)
def lawS : Scope := defS (stm 5)
def o11_a (P : Params) : Obj := ⟨(@PySem.Value.type "tuple"), (@Option.none Nat), (@PySem.Data.seq (List.toArray []) (0 : Nat)), (List.toArray [])⟩
def o12_a (P : Params) : Obj := ⟨@PySem.Value.none, (@Option.none Nat), (@PySem.Data.fields (List.toArray [])), (List.toArray [])⟩
def o13_a (P : Params) : Obj := ⟨(@PySem.Value.type "code"), (@Option.none Nat), (@PySem.Data.fields (List.toArray [(.str (Str.ofString "<module>") (182 : Nat)), (.str (Str.ofString "<module>") (183 : Nat)), (.str (Str.ofString "/claim/cut.py") (184 : Nat)), (.int (1 : Int) (0 : Nat)), (.int (0 : Int) (0 : Nat)), (.int (0 : Int) (0 : Nat)), (.int (0 : Int) (0 : Nat)), (.int (0 : Int) (0 : Nat)), (.ref (11 : Nat)), (@PySem.Value.bool @Bool.false), (.int (181 : Int) (0 : Nat)), (.ref (12 : Nat)), @PySem.Value.none, @PySem.Value.none, @PySem.Value.none, @PySem.Value.none, (.int (185 : Int) (0 : Nat)), (.int (1 : Int) (0 : Nat)), (.str (Str.ofString "/claim/cut.py") (186 : Nat))])), (List.toArray [])⟩
def o14_a (P : Params) : Obj := ⟨(@PySem.Value.type "frame"), (@Option.none Nat), @PySem.Data.plain, (List.toArray [(@Option.some @PySem.Value (.ref (13 : Nat))), (@Option.some @PySem.Value (.ref (3 : Nat))), (@Option.some @PySem.Value (.ref (3 : Nat))), (@Option.none @PySem.Value), (@Option.some @PySem.Value (.str (Str.ofString "__main__") (164 : Nat))), (@Option.none @PySem.Value), (@Option.some @PySem.Value (.ref (0 : Nat)))])⟩
def tree_a (P : Params) : BT := (.node (boot_o_0 P) (.node (boot_o_1 P) (.node (boot_o_3 P) (.node (boot_o_7 P) .nil .nil) (.node (o11_a P) .nil .nil)) (.node (boot_o_5 P) (.node (boot_o_9 P) .nil .nil) (.node (o13_a P) .nil .nil))) (.node (boot_o_2 P) (.node (boot_o_4 P) (.node (boot_o_8 P) .nil .nil) (.node (o12_a P) .nil .nil)) (.node (boot_o_6 P) (.node (boot_o_10 P) .nil .nil) (.node (o14_a P) .nil .nil))))
def o3_b (P : Params) : Obj := ⟨(@PySem.Value.type "dict"), (@Option.none Nat), (@PySem.Data.dict (List.toArray [⟨(PyData.keyHash P (Str.ofString "__name__")), (.str (Str.ofString "__name__") (165 : Nat)), (.str (Str.ofString "cpy313.urllib.parse") (187 : Nat))⟩, ⟨(PyData.keyHash P (Str.ofString "__doc__")), (.str (Str.ofString "__doc__") (166 : Nat)), @PySem.Value.none⟩, ⟨(PyData.keyHash P (Str.ofString "__package__")), (.str (Str.ofString "__package__") (167 : Nat)), @PySem.Value.none⟩, ⟨(PyData.keyHash P (Str.ofString "__loader__")), (.str (Str.ofString "__loader__") (168 : Nat)), (@PySem.Value.builtin "__main__.__loader__#opaque")⟩, ⟨(PyData.keyHash P (Str.ofString "__spec__")), (.str (Str.ofString "__spec__") (169 : Nat)), @PySem.Value.none⟩, ⟨(PyData.keyHash P (Str.ofString "__annotations__")), (.str (Str.ofString "__annotations__") (170 : Nat)), (.ref (6 : Nat))⟩, ⟨(PyData.keyHash P (Str.ofString "__builtins__")), (.str (Str.ofString "__builtins__") (171 : Nat)), (.ref (4 : Nat))⟩, ⟨(PyData.keyHash P (Str.ofString "__file__")), (.str (Str.ofString "__file__") (173 : Nat)), (.str (Str.ofString "/claim/cut.py") (172 : Nat))⟩, ⟨(PyData.keyHash P (Str.ofString "__cached__")), (.str (Str.ofString "__cached__") (174 : Nat)), @PySem.Value.none⟩]) (9 : Nat)), (List.toArray [])⟩
def tree_b (P : Params) : BT := (.node (boot_o_0 P) (.node (boot_o_1 P) (.node (o3_b P) (.node (boot_o_7 P) .nil .nil) (.node (o11_a P) .nil .nil)) (.node (boot_o_5 P) (.node (boot_o_9 P) .nil .nil) (.node (o13_a P) .nil .nil))) (.node (boot_o_2 P) (.node (boot_o_4 P) (.node (boot_o_8 P) .nil .nil) (.node (o12_a P) .nil .nil)) (.node (boot_o_6 P) (.node (boot_o_10 P) .nil .nil) (.node (o14_a P) .nil .nil))))
def o15_c0 (P : Params) : Obj := ⟨(@PySem.Value.type "frozenset"), (@Option.none Nat), (@PySem.Data.set (List.toArray []) (0 : Nat) (@PySem.SetTable.mk (7 : Nat) (List.toArray []) (List.toArray []) (0 : Nat) (@Bool.not (@PySem.Params.followText P "set-order")) (0 : Nat) @Bool.true)), (List.toArray [])⟩
def o16_c0 (P : Params) : Obj := ⟨(@PySem.Value.type "bytes_iterator"), (@Option.none Nat), (@PySem.Data.fields (List.toArray [(@PySem.Value.bytes (List.toArray [(65 : UInt8), (66 : UInt8), (67 : UInt8), (68 : UInt8), (69 : UInt8), (70 : UInt8), (71 : UInt8), (72 : UInt8), (73 : UInt8), (74 : UInt8), (75 : UInt8), (76 : UInt8), (77 : UInt8), (78 : UInt8), (79 : UInt8), (80 : UInt8), (81 : UInt8), (82 : UInt8), (83 : UInt8), (84 : UInt8), (85 : UInt8), (86 : UInt8), (87 : UInt8), (88 : UInt8), (89 : UInt8), (90 : UInt8), (97 : UInt8), (98 : UInt8), (99 : UInt8), (100 : UInt8), (101 : UInt8), (102 : UInt8), (103 : UInt8), (104 : UInt8), (105 : UInt8), (106 : UInt8), (107 : UInt8), (108 : UInt8), (109 : UInt8), (110 : UInt8), (111 : UInt8), (112 : UInt8), (113 : UInt8), (114 : UInt8), (115 : UInt8), (116 : UInt8), (117 : UInt8), (118 : UInt8), (119 : UInt8), (120 : UInt8), (121 : UInt8), (122 : UInt8), (48 : UInt8), (49 : UInt8), (50 : UInt8), (51 : UInt8), (52 : UInt8), (53 : UInt8), (54 : UInt8), (55 : UInt8), (56 : UInt8), (57 : UInt8), (95 : UInt8), (46 : UInt8), (45 : UInt8), (126 : UInt8)]) (189 : Nat)), (.int (0 : Int) (0 : Nat))])), (List.toArray [])⟩
def tree_c0 (P : Params) : BT := (.node (boot_o_0 P) (.node (boot_o_1 P) (.node (o3_b P) (.node (boot_o_7 P) (.node (o15_c0 P) .nil .nil) .nil) (.node (o11_a P) .nil .nil)) (.node (boot_o_5 P) (.node (boot_o_9 P) .nil .nil) (.node (o13_a P) .nil .nil))) (.node (boot_o_2 P) (.node (boot_o_4 P) (.node (boot_o_8 P) (.node (o16_c0 P) .nil .nil) .nil) (.node (o12_a P) .nil .nil)) (.node (boot_o_6 P) (.node (boot_o_10 P) .nil .nil) (.node (o14_a P) .nil .nil))))
def o15_c1 (P : Params) : Obj := ⟨(@PySem.Value.type "frozenset"), (@Option.none Nat), (@PySem.Data.set (List.toArray [((65 : Int), (.int (65 : Int) (190 : Nat))), ((66 : Int), (.int (66 : Int) (192 : Nat))), ((67 : Int), (.int (67 : Int) (194 : Nat))), ((68 : Int), (.int (68 : Int) (196 : Nat))), ((69 : Int), (.int (69 : Int) (198 : Nat))), ((70 : Int), (.int (70 : Int) (200 : Nat))), ((71 : Int), (.int (71 : Int) (202 : Nat))), ((72 : Int), (.int (72 : Int) (204 : Nat))), ((73 : Int), (.int (73 : Int) (206 : Nat))), ((74 : Int), (.int (74 : Int) (208 : Nat))), ((75 : Int), (.int (75 : Int) (210 : Nat))), ((76 : Int), (.int (76 : Int) (212 : Nat))), ((77 : Int), (.int (77 : Int) (214 : Nat))), ((78 : Int), (.int (78 : Int) (216 : Nat))), ((79 : Int), (.int (79 : Int) (218 : Nat))), ((80 : Int), (.int (80 : Int) (220 : Nat))), ((81 : Int), (.int (81 : Int) (222 : Nat))), ((82 : Int), (.int (82 : Int) (224 : Nat))), ((83 : Int), (.int (83 : Int) (226 : Nat))), ((84 : Int), (.int (84 : Int) (228 : Nat))), ((85 : Int), (.int (85 : Int) (230 : Nat))), ((86 : Int), (.int (86 : Int) (232 : Nat)))]) (24 : Nat) (@PySem.SetTable.mk (127 : Nat) (List.toArray [(65 : Nat), (66 : Nat), (67 : Nat), (68 : Nat), (69 : Nat), (70 : Nat), (71 : Nat), (72 : Nat), (73 : Nat), (74 : Nat), (75 : Nat), (76 : Nat), (77 : Nat), (78 : Nat), (79 : Nat), (80 : Nat), (81 : Nat), (82 : Nat), (83 : Nat), (84 : Nat), (85 : Nat), (86 : Nat)]) (List.toArray []) (0 : Nat) (@Bool.not (@PySem.Params.followText P "set-order")) (2 : Nat) @Bool.true)), (List.toArray [])⟩
def o16_c1 (P : Params) : Obj := ⟨(@PySem.Value.type "bytes_iterator"), (@Option.none Nat), (@PySem.Data.fields (List.toArray [(@PySem.Value.bytes (List.toArray [(65 : UInt8), (66 : UInt8), (67 : UInt8), (68 : UInt8), (69 : UInt8), (70 : UInt8), (71 : UInt8), (72 : UInt8), (73 : UInt8), (74 : UInt8), (75 : UInt8), (76 : UInt8), (77 : UInt8), (78 : UInt8), (79 : UInt8), (80 : UInt8), (81 : UInt8), (82 : UInt8), (83 : UInt8), (84 : UInt8), (85 : UInt8), (86 : UInt8), (87 : UInt8), (88 : UInt8), (89 : UInt8), (90 : UInt8), (97 : UInt8), (98 : UInt8), (99 : UInt8), (100 : UInt8), (101 : UInt8), (102 : UInt8), (103 : UInt8), (104 : UInt8), (105 : UInt8), (106 : UInt8), (107 : UInt8), (108 : UInt8), (109 : UInt8), (110 : UInt8), (111 : UInt8), (112 : UInt8), (113 : UInt8), (114 : UInt8), (115 : UInt8), (116 : UInt8), (117 : UInt8), (118 : UInt8), (119 : UInt8), (120 : UInt8), (121 : UInt8), (122 : UInt8), (48 : UInt8), (49 : UInt8), (50 : UInt8), (51 : UInt8), (52 : UInt8), (53 : UInt8), (54 : UInt8), (55 : UInt8), (56 : UInt8), (57 : UInt8), (95 : UInt8), (46 : UInt8), (45 : UInt8), (126 : UInt8)]) (189 : Nat)), (.int (22 : Int) (0 : Nat))])), (List.toArray [])⟩
def tree_c1 (P : Params) : BT := (.node (boot_o_0 P) (.node (boot_o_1 P) (.node (o3_b P) (.node (boot_o_7 P) (.node (o15_c1 P) .nil .nil) .nil) (.node (o11_a P) .nil .nil)) (.node (boot_o_5 P) (.node (boot_o_9 P) .nil .nil) (.node (o13_a P) .nil .nil))) (.node (boot_o_2 P) (.node (boot_o_4 P) (.node (boot_o_8 P) (.node (o16_c1 P) .nil .nil) .nil) (.node (o12_a P) .nil .nil)) (.node (boot_o_6 P) (.node (boot_o_10 P) .nil .nil) (.node (o14_a P) .nil .nil))))
def o15_c2 (P : Params) : Obj := ⟨(@PySem.Value.type "frozenset"), (@Option.none Nat), (@PySem.Data.set (List.toArray [((65 : Int), (.int (65 : Int) (190 : Nat))), ((66 : Int), (.int (66 : Int) (192 : Nat))), ((67 : Int), (.int (67 : Int) (194 : Nat))), ((68 : Int), (.int (68 : Int) (196 : Nat))), ((69 : Int), (.int (69 : Int) (198 : Nat))), ((70 : Int), (.int (70 : Int) (200 : Nat))), ((71 : Int), (.int (71 : Int) (202 : Nat))), ((72 : Int), (.int (72 : Int) (204 : Nat))), ((73 : Int), (.int (73 : Int) (206 : Nat))), ((74 : Int), (.int (74 : Int) (208 : Nat))), ((75 : Int), (.int (75 : Int) (210 : Nat))), ((76 : Int), (.int (76 : Int) (212 : Nat))), ((77 : Int), (.int (77 : Int) (214 : Nat))), ((78 : Int), (.int (78 : Int) (216 : Nat))), ((79 : Int), (.int (79 : Int) (218 : Nat))), ((80 : Int), (.int (80 : Int) (220 : Nat))), ((81 : Int), (.int (81 : Int) (222 : Nat))), ((82 : Int), (.int (82 : Int) (224 : Nat))), ((83 : Int), (.int (83 : Int) (226 : Nat))), ((84 : Int), (.int (84 : Int) (228 : Nat))), ((85 : Int), (.int (85 : Int) (230 : Nat))), ((86 : Int), (.int (86 : Int) (232 : Nat))), ((87 : Int), (.int (87 : Int) (234 : Nat))), ((88 : Int), (.int (88 : Int) (236 : Nat))), ((89 : Int), (.int (89 : Int) (238 : Nat))), ((90 : Int), (.int (90 : Int) (240 : Nat))), ((97 : Int), (.int (97 : Int) (242 : Nat))), ((98 : Int), (.int (98 : Int) (244 : Nat))), ((99 : Int), (.int (99 : Int) (246 : Nat))), ((100 : Int), (.int (100 : Int) (248 : Nat))), ((101 : Int), (.int (101 : Int) (250 : Nat))), ((102 : Int), (.int (102 : Int) (252 : Nat))), ((103 : Int), (.int (103 : Int) (254 : Nat))), ((104 : Int), (.int (104 : Int) (256 : Nat))), ((105 : Int), (.int (105 : Int) (258 : Nat))), ((106 : Int), (.int (106 : Int) (260 : Nat))), ((107 : Int), (.int (107 : Int) (262 : Nat))), ((108 : Int), (.int (108 : Int) (264 : Nat))), ((109 : Int), (.int (109 : Int) (266 : Nat))), ((110 : Int), (.int (110 : Int) (268 : Nat))), ((111 : Int), (.int (111 : Int) (270 : Nat))), ((112 : Int), (.int (112 : Int) (272 : Nat))), ((113 : Int), (.int (113 : Int) (274 : Nat))), ((114 : Int), (.int (114 : Int) (276 : Nat)))]) (46 : Nat) (@PySem.SetTable.mk (127 : Nat) (List.toArray [(65 : Nat), (66 : Nat), (67 : Nat), (68 : Nat), (69 : Nat), (70 : Nat), (71 : Nat), (72 : Nat), (73 : Nat), (74 : Nat), (75 : Nat), (76 : Nat), (77 : Nat), (78 : Nat), (79 : Nat), (80 : Nat), (81 : Nat), (82 : Nat), (83 : Nat), (84 : Nat), (85 : Nat), (86 : Nat), (87 : Nat), (88 : Nat), (89 : Nat), (90 : Nat), (97 : Nat), (98 : Nat), (99 : Nat), (100 : Nat), (101 : Nat), (102 : Nat), (103 : Nat), (104 : Nat), (105 : Nat), (106 : Nat), (107 : Nat), (108 : Nat), (109 : Nat), (110 : Nat), (111 : Nat), (112 : Nat), (113 : Nat), (114 : Nat)]) (List.toArray []) (0 : Nat) (@Bool.not (@PySem.Params.followText P "set-order")) (2 : Nat) @Bool.true)), (List.toArray [])⟩
def o16_c2 (P : Params) : Obj := ⟨(@PySem.Value.type "bytes_iterator"), (@Option.none Nat), (@PySem.Data.fields (List.toArray [(@PySem.Value.bytes (List.toArray [(65 : UInt8), (66 : UInt8), (67 : UInt8), (68 : UInt8), (69 : UInt8), (70 : UInt8), (71 : UInt8), (72 : UInt8), (73 : UInt8), (74 : UInt8), (75 : UInt8), (76 : UInt8), (77 : UInt8), (78 : UInt8), (79 : UInt8), (80 : UInt8), (81 : UInt8), (82 : UInt8), (83 : UInt8), (84 : UInt8), (85 : UInt8), (86 : UInt8), (87 : UInt8), (88 : UInt8), (89 : UInt8), (90 : UInt8), (97 : UInt8), (98 : UInt8), (99 : UInt8), (100 : UInt8), (101 : UInt8), (102 : UInt8), (103 : UInt8), (104 : UInt8), (105 : UInt8), (106 : UInt8), (107 : UInt8), (108 : UInt8), (109 : UInt8), (110 : UInt8), (111 : UInt8), (112 : UInt8), (113 : UInt8), (114 : UInt8), (115 : UInt8), (116 : UInt8), (117 : UInt8), (118 : UInt8), (119 : UInt8), (120 : UInt8), (121 : UInt8), (122 : UInt8), (48 : UInt8), (49 : UInt8), (50 : UInt8), (51 : UInt8), (52 : UInt8), (53 : UInt8), (54 : UInt8), (55 : UInt8), (56 : UInt8), (57 : UInt8), (95 : UInt8), (46 : UInt8), (45 : UInt8), (126 : UInt8)]) (189 : Nat)), (.int (44 : Int) (0 : Nat))])), (List.toArray [])⟩
def tree_c2 (P : Params) : BT := (.node (boot_o_0 P) (.node (boot_o_1 P) (.node (o3_b P) (.node (boot_o_7 P) (.node (o15_c2 P) .nil .nil) .nil) (.node (o11_a P) .nil .nil)) (.node (boot_o_5 P) (.node (boot_o_9 P) .nil .nil) (.node (o13_a P) .nil .nil))) (.node (boot_o_2 P) (.node (boot_o_4 P) (.node (boot_o_8 P) (.node (o16_c2 P) .nil .nil) .nil) (.node (o12_a P) .nil .nil)) (.node (boot_o_6 P) (.node (boot_o_10 P) .nil .nil) (.node (o14_a P) .nil .nil))))
def o15_c2a (P : Params) : Obj := ⟨(@PySem.Value.type "frozenset"), (@Option.none Nat), (@PySem.Data.set (List.toArray [((65 : Int), (.int (65 : Int) (190 : Nat))), ((66 : Int), (.int (66 : Int) (192 : Nat))), ((67 : Int), (.int (67 : Int) (194 : Nat))), ((68 : Int), (.int (68 : Int) (196 : Nat))), ((69 : Int), (.int (69 : Int) (198 : Nat))), ((70 : Int), (.int (70 : Int) (200 : Nat))), ((71 : Int), (.int (71 : Int) (202 : Nat))), ((72 : Int), (.int (72 : Int) (204 : Nat))), ((73 : Int), (.int (73 : Int) (206 : Nat))), ((74 : Int), (.int (74 : Int) (208 : Nat))), ((75 : Int), (.int (75 : Int) (210 : Nat))), ((76 : Int), (.int (76 : Int) (212 : Nat))), ((77 : Int), (.int (77 : Int) (214 : Nat))), ((78 : Int), (.int (78 : Int) (216 : Nat))), ((79 : Int), (.int (79 : Int) (218 : Nat))), ((80 : Int), (.int (80 : Int) (220 : Nat))), ((81 : Int), (.int (81 : Int) (222 : Nat))), ((82 : Int), (.int (82 : Int) (224 : Nat))), ((83 : Int), (.int (83 : Int) (226 : Nat))), ((84 : Int), (.int (84 : Int) (228 : Nat))), ((85 : Int), (.int (85 : Int) (230 : Nat))), ((86 : Int), (.int (86 : Int) (232 : Nat))), ((87 : Int), (.int (87 : Int) (234 : Nat))), ((88 : Int), (.int (88 : Int) (236 : Nat))), ((89 : Int), (.int (89 : Int) (238 : Nat))), ((90 : Int), (.int (90 : Int) (240 : Nat))), ((97 : Int), (.int (97 : Int) (242 : Nat))), ((98 : Int), (.int (98 : Int) (244 : Nat))), ((99 : Int), (.int (99 : Int) (246 : Nat))), ((100 : Int), (.int (100 : Int) (248 : Nat))), ((101 : Int), (.int (101 : Int) (250 : Nat))), ((102 : Int), (.int (102 : Int) (252 : Nat))), ((103 : Int), (.int (103 : Int) (254 : Nat))), ((104 : Int), (.int (104 : Int) (256 : Nat))), ((105 : Int), (.int (105 : Int) (258 : Nat))), ((106 : Int), (.int (106 : Int) (260 : Nat))), ((107 : Int), (.int (107 : Int) (262 : Nat))), ((108 : Int), (.int (108 : Int) (264 : Nat))), ((109 : Int), (.int (109 : Int) (266 : Nat))), ((110 : Int), (.int (110 : Int) (268 : Nat))), ((111 : Int), (.int (111 : Int) (270 : Nat))), ((112 : Int), (.int (112 : Int) (272 : Nat))), ((113 : Int), (.int (113 : Int) (274 : Nat))), ((114 : Int), (.int (114 : Int) (276 : Nat))), ((115 : Int), (.int (115 : Int) (278 : Nat))), ((116 : Int), (.int (116 : Int) (280 : Nat))), ((117 : Int), (.int (117 : Int) (282 : Nat))), ((118 : Int), (.int (118 : Int) (284 : Nat))), ((119 : Int), (.int (119 : Int) (286 : Nat))), ((120 : Int), (.int (120 : Int) (288 : Nat)))]) (52 : Nat) (@PySem.SetTable.mk (127 : Nat) (List.toArray [(65 : Nat), (66 : Nat), (67 : Nat), (68 : Nat), (69 : Nat), (70 : Nat), (71 : Nat), (72 : Nat), (73 : Nat), (74 : Nat), (75 : Nat), (76 : Nat), (77 : Nat), (78 : Nat), (79 : Nat), (80 : Nat), (81 : Nat), (82 : Nat), (83 : Nat), (84 : Nat), (85 : Nat), (86 : Nat), (87 : Nat), (88 : Nat), (89 : Nat), (90 : Nat), (97 : Nat), (98 : Nat), (99 : Nat), (100 : Nat), (101 : Nat), (102 : Nat), (103 : Nat), (104 : Nat), (105 : Nat), (106 : Nat), (107 : Nat), (108 : Nat), (109 : Nat), (110 : Nat), (111 : Nat), (112 : Nat), (113 : Nat), (114 : Nat), (115 : Nat), (116 : Nat), (117 : Nat), (118 : Nat), (119 : Nat), (120 : Nat)]) (List.toArray []) (0 : Nat) (@Bool.not (@PySem.Params.followText P "set-order")) (2 : Nat) @Bool.true)), (List.toArray [])⟩
def o16_c2a (P : Params) : Obj := ⟨(@PySem.Value.type "bytes_iterator"), (@Option.none Nat), (@PySem.Data.fields (List.toArray [(@PySem.Value.bytes (List.toArray [(65 : UInt8), (66 : UInt8), (67 : UInt8), (68 : UInt8), (69 : UInt8), (70 : UInt8), (71 : UInt8), (72 : UInt8), (73 : UInt8), (74 : UInt8), (75 : UInt8), (76 : UInt8), (77 : UInt8), (78 : UInt8), (79 : UInt8), (80 : UInt8), (81 : UInt8), (82 : UInt8), (83 : UInt8), (84 : UInt8), (85 : UInt8), (86 : UInt8), (87 : UInt8), (88 : UInt8), (89 : UInt8), (90 : UInt8), (97 : UInt8), (98 : UInt8), (99 : UInt8), (100 : UInt8), (101 : UInt8), (102 : UInt8), (103 : UInt8), (104 : UInt8), (105 : UInt8), (106 : UInt8), (107 : UInt8), (108 : UInt8), (109 : UInt8), (110 : UInt8), (111 : UInt8), (112 : UInt8), (113 : UInt8), (114 : UInt8), (115 : UInt8), (116 : UInt8), (117 : UInt8), (118 : UInt8), (119 : UInt8), (120 : UInt8), (121 : UInt8), (122 : UInt8), (48 : UInt8), (49 : UInt8), (50 : UInt8), (51 : UInt8), (52 : UInt8), (53 : UInt8), (54 : UInt8), (55 : UInt8), (56 : UInt8), (57 : UInt8), (95 : UInt8), (46 : UInt8), (45 : UInt8), (126 : UInt8)]) (189 : Nat)), (.int (50 : Int) (0 : Nat))])), (List.toArray [])⟩
def tree_c2a (P : Params) : BT := (.node (boot_o_0 P) (.node (boot_o_1 P) (.node (o3_b P) (.node (boot_o_7 P) (.node (o15_c2a P) .nil .nil) .nil) (.node (o11_a P) .nil .nil)) (.node (boot_o_5 P) (.node (boot_o_9 P) .nil .nil) (.node (o13_a P) .nil .nil))) (.node (boot_o_2 P) (.node (boot_o_4 P) (.node (boot_o_8 P) (.node (o16_c2a P) .nil .nil) .nil) (.node (o12_a P) .nil .nil)) (.node (boot_o_6 P) (.node (boot_o_10 P) .nil .nil) (.node (o14_a P) .nil .nil))))
def o15_c2b (P : Params) : Obj := ⟨(@PySem.Value.type "frozenset"), (@Option.none Nat), (@PySem.Data.set (List.toArray [((48 : Int), (.int (48 : Int) (294 : Nat))), ((49 : Int), (.int (49 : Int) (296 : Nat))), ((50 : Int), (.int (50 : Int) (298 : Nat))), ((65 : Int), (.int (65 : Int) (190 : Nat))), ((66 : Int), (.int (66 : Int) (192 : Nat))), ((67 : Int), (.int (67 : Int) (194 : Nat))), ((68 : Int), (.int (68 : Int) (196 : Nat))), ((69 : Int), (.int (69 : Int) (198 : Nat))), ((70 : Int), (.int (70 : Int) (200 : Nat))), ((71 : Int), (.int (71 : Int) (202 : Nat))), ((72 : Int), (.int (72 : Int) (204 : Nat))), ((73 : Int), (.int (73 : Int) (206 : Nat))), ((74 : Int), (.int (74 : Int) (208 : Nat))), ((75 : Int), (.int (75 : Int) (210 : Nat))), ((76 : Int), (.int (76 : Int) (212 : Nat))), ((77 : Int), (.int (77 : Int) (214 : Nat))), ((78 : Int), (.int (78 : Int) (216 : Nat))), ((79 : Int), (.int (79 : Int) (218 : Nat))), ((80 : Int), (.int (80 : Int) (220 : Nat))), ((81 : Int), (.int (81 : Int) (222 : Nat))), ((82 : Int), (.int (82 : Int) (224 : Nat))), ((83 : Int), (.int (83 : Int) (226 : Nat))), ((84 : Int), (.int (84 : Int) (228 : Nat))), ((85 : Int), (.int (85 : Int) (230 : Nat))), ((86 : Int), (.int (86 : Int) (232 : Nat))), ((87 : Int), (.int (87 : Int) (234 : Nat))), ((88 : Int), (.int (88 : Int) (236 : Nat))), ((89 : Int), (.int (89 : Int) (238 : Nat))), ((90 : Int), (.int (90 : Int) (240 : Nat))), ((97 : Int), (.int (97 : Int) (242 : Nat))), ((98 : Int), (.int (98 : Int) (244 : Nat))), ((99 : Int), (.int (99 : Int) (246 : Nat))), ((100 : Int), (.int (100 : Int) (248 : Nat))), ((101 : Int), (.int (101 : Int) (250 : Nat))), ((102 : Int), (.int (102 : Int) (252 : Nat))), ((103 : Int), (.int (103 : Int) (254 : Nat))), ((104 : Int), (.int (104 : Int) (256 : Nat))), ((105 : Int), (.int (105 : Int) (258 : Nat))), ((106 : Int), (.int (106 : Int) (260 : Nat))), ((107 : Int), (.int (107 : Int) (262 : Nat))), ((108 : Int), (.int (108 : Int) (264 : Nat))), ((109 : Int), (.int (109 : Int) (266 : Nat))), ((110 : Int), (.int (110 : Int) (268 : Nat))), ((111 : Int), (.int (111 : Int) (270 : Nat))), ((112 : Int), (.int (112 : Int) (272 : Nat))), ((113 : Int), (.int (113 : Int) (274 : Nat))), ((114 : Int), (.int (114 : Int) (276 : Nat))), ((115 : Int), (.int (115 : Int) (278 : Nat))), ((116 : Int), (.int (116 : Int) (280 : Nat))), ((117 : Int), (.int (117 : Int) (282 : Nat))), ((118 : Int), (.int (118 : Int) (284 : Nat))), ((119 : Int), (.int (119 : Int) (286 : Nat))), ((120 : Int), (.int (120 : Int) (288 : Nat))), ((121 : Int), (.int (121 : Int) (290 : Nat))), ((122 : Int), (.int (122 : Int) (292 : Nat)))]) (57 : Nat) (@PySem.SetTable.mk (127 : Nat) (List.toArray [(48 : Nat), (49 : Nat), (50 : Nat), (65 : Nat), (66 : Nat), (67 : Nat), (68 : Nat), (69 : Nat), (70 : Nat), (71 : Nat), (72 : Nat), (73 : Nat), (74 : Nat), (75 : Nat), (76 : Nat), (77 : Nat), (78 : Nat), (79 : Nat), (80 : Nat), (81 : Nat), (82 : Nat), (83 : Nat), (84 : Nat), (85 : Nat), (86 : Nat), (87 : Nat), (88 : Nat), (89 : Nat), (90 : Nat), (97 : Nat), (98 : Nat), (99 : Nat), (100 : Nat), (101 : Nat), (102 : Nat), (103 : Nat), (104 : Nat), (105 : Nat), (106 : Nat), (107 : Nat), (108 : Nat), (109 : Nat), (110 : Nat), (111 : Nat), (112 : Nat), (113 : Nat), (114 : Nat), (115 : Nat), (116 : Nat), (117 : Nat), (118 : Nat), (119 : Nat), (120 : Nat), (121 : Nat), (122 : Nat)]) (List.toArray []) (0 : Nat) (@Bool.not (@PySem.Params.followText P "set-order")) (2 : Nat) @Bool.true)), (List.toArray [])⟩
def o16_c2b (P : Params) : Obj := ⟨(@PySem.Value.type "bytes_iterator"), (@Option.none Nat), (@PySem.Data.fields (List.toArray [(@PySem.Value.bytes (List.toArray [(65 : UInt8), (66 : UInt8), (67 : UInt8), (68 : UInt8), (69 : UInt8), (70 : UInt8), (71 : UInt8), (72 : UInt8), (73 : UInt8), (74 : UInt8), (75 : UInt8), (76 : UInt8), (77 : UInt8), (78 : UInt8), (79 : UInt8), (80 : UInt8), (81 : UInt8), (82 : UInt8), (83 : UInt8), (84 : UInt8), (85 : UInt8), (86 : UInt8), (87 : UInt8), (88 : UInt8), (89 : UInt8), (90 : UInt8), (97 : UInt8), (98 : UInt8), (99 : UInt8), (100 : UInt8), (101 : UInt8), (102 : UInt8), (103 : UInt8), (104 : UInt8), (105 : UInt8), (106 : UInt8), (107 : UInt8), (108 : UInt8), (109 : UInt8), (110 : UInt8), (111 : UInt8), (112 : UInt8), (113 : UInt8), (114 : UInt8), (115 : UInt8), (116 : UInt8), (117 : UInt8), (118 : UInt8), (119 : UInt8), (120 : UInt8), (121 : UInt8), (122 : UInt8), (48 : UInt8), (49 : UInt8), (50 : UInt8), (51 : UInt8), (52 : UInt8), (53 : UInt8), (54 : UInt8), (55 : UInt8), (56 : UInt8), (57 : UInt8), (95 : UInt8), (46 : UInt8), (45 : UInt8), (126 : UInt8)]) (189 : Nat)), (.int (55 : Int) (0 : Nat))])), (List.toArray [])⟩
def tree_c2b (P : Params) : BT := (.node (boot_o_0 P) (.node (boot_o_1 P) (.node (o3_b P) (.node (boot_o_7 P) (.node (o15_c2b P) .nil .nil) .nil) (.node (o11_a P) .nil .nil)) (.node (boot_o_5 P) (.node (boot_o_9 P) .nil .nil) (.node (o13_a P) .nil .nil))) (.node (boot_o_2 P) (.node (boot_o_4 P) (.node (boot_o_8 P) (.node (o16_c2b P) .nil .nil) .nil) (.node (o12_a P) .nil .nil)) (.node (boot_o_6 P) (.node (boot_o_10 P) .nil .nil) (.node (o14_a P) .nil .nil))))
def o15_c2c (P : Params) : Obj := ⟨(@PySem.Value.type "frozenset"), (@Option.none Nat), (@PySem.Data.set (List.toArray [((48 : Int), (.int (48 : Int) (294 : Nat))), ((49 : Int), (.int (49 : Int) (296 : Nat))), ((50 : Int), (.int (50 : Int) (298 : Nat))), ((51 : Int), (.int (51 : Int) (300 : Nat))), ((52 : Int), (.int (52 : Int) (302 : Nat))), ((53 : Int), (.int (53 : Int) (304 : Nat))), ((54 : Int), (.int (54 : Int) (306 : Nat))), ((55 : Int), (.int (55 : Int) (308 : Nat))), ((65 : Int), (.int (65 : Int) (190 : Nat))), ((66 : Int), (.int (66 : Int) (192 : Nat))), ((67 : Int), (.int (67 : Int) (194 : Nat))), ((68 : Int), (.int (68 : Int) (196 : Nat))), ((69 : Int), (.int (69 : Int) (198 : Nat))), ((70 : Int), (.int (70 : Int) (200 : Nat))), ((71 : Int), (.int (71 : Int) (202 : Nat))), ((72 : Int), (.int (72 : Int) (204 : Nat))), ((73 : Int), (.int (73 : Int) (206 : Nat))), ((74 : Int), (.int (74 : Int) (208 : Nat))), ((75 : Int), (.int (75 : Int) (210 : Nat))), ((76 : Int), (.int (76 : Int) (212 : Nat))), ((77 : Int), (.int (77 : Int) (214 : Nat))), ((78 : Int), (.int (78 : Int) (216 : Nat))), ((79 : Int), (.int (79 : Int) (218 : Nat))), ((80 : Int), (.int (80 : Int) (220 : Nat))), ((81 : Int), (.int (81 : Int) (222 : Nat))), ((82 : Int), (.int (82 : Int) (224 : Nat))), ((83 : Int), (.int (83 : Int) (226 : Nat))), ((84 : Int), (.int (84 : Int) (228 : Nat))), ((85 : Int), (.int (85 : Int) (230 : Nat))), ((86 : Int), (.int (86 : Int) (232 : Nat))), ((87 : Int), (.int (87 : Int) (234 : Nat))), ((88 : Int), (.int (88 : Int) (236 : Nat))), ((89 : Int), (.int (89 : Int) (238 : Nat))), ((90 : Int), (.int (90 : Int) (240 : Nat))), ((97 : Int), (.int (97 : Int) (242 : Nat))), ((98 : Int), (.int (98 : Int) (244 : Nat))), ((99 : Int), (.int (99 : Int) (246 : Nat))), ((100 : Int), (.int (100 : Int) (248 : Nat))), ((101 : Int), (.int (101 : Int) (250 : Nat))), ((102 : Int), (.int (102 : Int) (252 : Nat))), ((103 : Int), (.int (103 : Int) (254 : Nat))), ((104 : Int), (.int (104 : Int) (256 : Nat))), ((105 : Int), (.int (105 : Int) (258 : Nat))), ((106 : Int), (.int (106 : Int) (260 : Nat))), ((107 : Int), (.int (107 : Int) (262 : Nat))), ((108 : Int), (.int (108 : Int) (264 : Nat))), ((109 : Int), (.int (109 : Int) (266 : Nat))), ((110 : Int), (.int (110 : Int) (268 : Nat))), ((111 : Int), (.int (111 : Int) (270 : Nat))), ((112 : Int), (.int (112 : Int) (272 : Nat))), ((113 : Int), (.int (113 : Int) (274 : Nat))), ((114 : Int), (.int (114 : Int) (276 : Nat))), ((115 : Int), (.int (115 : Int) (278 : Nat))), ((116 : Int), (.int (116 : Int) (280 : Nat))), ((117 : Int), (.int (117 : Int) (282 : Nat))), ((118 : Int), (.int (118 : Int) (284 : Nat))), ((119 : Int), (.int (119 : Int) (286 : Nat))), ((120 : Int), (.int (120 : Int) (288 : Nat))), ((121 : Int), (.int (121 : Int) (290 : Nat))), ((122 : Int), (.int (122 : Int) (292 : Nat)))]) (62 : Nat) (@PySem.SetTable.mk (127 : Nat) (List.toArray [(48 : Nat), (49 : Nat), (50 : Nat), (51 : Nat), (52 : Nat), (53 : Nat), (54 : Nat), (55 : Nat), (65 : Nat), (66 : Nat), (67 : Nat), (68 : Nat), (69 : Nat), (70 : Nat), (71 : Nat), (72 : Nat), (73 : Nat), (74 : Nat), (75 : Nat), (76 : Nat), (77 : Nat), (78 : Nat), (79 : Nat), (80 : Nat), (81 : Nat), (82 : Nat), (83 : Nat), (84 : Nat), (85 : Nat), (86 : Nat), (87 : Nat), (88 : Nat), (89 : Nat), (90 : Nat), (97 : Nat), (98 : Nat), (99 : Nat), (100 : Nat), (101 : Nat), (102 : Nat), (103 : Nat), (104 : Nat), (105 : Nat), (106 : Nat), (107 : Nat), (108 : Nat), (109 : Nat), (110 : Nat), (111 : Nat), (112 : Nat), (113 : Nat), (114 : Nat), (115 : Nat), (116 : Nat), (117 : Nat), (118 : Nat), (119 : Nat), (120 : Nat), (121 : Nat), (122 : Nat)]) (List.toArray []) (0 : Nat) (@Bool.not (@PySem.Params.followText P "set-order")) (2 : Nat) @Bool.true)), (List.toArray [])⟩
def o16_c2c (P : Params) : Obj := ⟨(@PySem.Value.type "bytes_iterator"), (@Option.none Nat), (@PySem.Data.fields (List.toArray [(@PySem.Value.bytes (List.toArray [(65 : UInt8), (66 : UInt8), (67 : UInt8), (68 : UInt8), (69 : UInt8), (70 : UInt8), (71 : UInt8), (72 : UInt8), (73 : UInt8), (74 : UInt8), (75 : UInt8), (76 : UInt8), (77 : UInt8), (78 : UInt8), (79 : UInt8), (80 : UInt8), (81 : UInt8), (82 : UInt8), (83 : UInt8), (84 : UInt8), (85 : UInt8), (86 : UInt8), (87 : UInt8), (88 : UInt8), (89 : UInt8), (90 : UInt8), (97 : UInt8), (98 : UInt8), (99 : UInt8), (100 : UInt8), (101 : UInt8), (102 : UInt8), (103 : UInt8), (104 : UInt8), (105 : UInt8), (106 : UInt8), (107 : UInt8), (108 : UInt8), (109 : UInt8), (110 : UInt8), (111 : UInt8), (112 : UInt8), (113 : UInt8), (114 : UInt8), (115 : UInt8), (116 : UInt8), (117 : UInt8), (118 : UInt8), (119 : UInt8), (120 : UInt8), (121 : UInt8), (122 : UInt8), (48 : UInt8), (49 : UInt8), (50 : UInt8), (51 : UInt8), (52 : UInt8), (53 : UInt8), (54 : UInt8), (55 : UInt8), (56 : UInt8), (57 : UInt8), (95 : UInt8), (46 : UInt8), (45 : UInt8), (126 : UInt8)]) (189 : Nat)), (.int (60 : Int) (0 : Nat))])), (List.toArray [])⟩
def tree_c2c (P : Params) : BT := (.node (boot_o_0 P) (.node (boot_o_1 P) (.node (o3_b P) (.node (boot_o_7 P) (.node (o15_c2c P) .nil .nil) .nil) (.node (o11_a P) .nil .nil)) (.node (boot_o_5 P) (.node (boot_o_9 P) .nil .nil) (.node (o13_a P) .nil .nil))) (.node (boot_o_2 P) (.node (boot_o_4 P) (.node (boot_o_8 P) (.node (o16_c2c P) .nil .nil) .nil) (.node (o12_a P) .nil .nil)) (.node (boot_o_6 P) (.node (boot_o_10 P) .nil .nil) (.node (o14_a P) .nil .nil))))
def o15_c3 (P : Params) : Obj := ⟨(@PySem.Value.type "frozenset"), (@Option.none Nat), (@PySem.Data.set (List.toArray [((45 : Int), (.int (45 : Int) (318 : Nat))), ((46 : Int), (.int (46 : Int) (316 : Nat))), ((48 : Int), (.int (48 : Int) (294 : Nat))), ((49 : Int), (.int (49 : Int) (296 : Nat))), ((50 : Int), (.int (50 : Int) (298 : Nat))), ((51 : Int), (.int (51 : Int) (300 : Nat))), ((52 : Int), (.int (52 : Int) (302 : Nat))), ((53 : Int), (.int (53 : Int) (304 : Nat))), ((54 : Int), (.int (54 : Int) (306 : Nat))), ((55 : Int), (.int (55 : Int) (308 : Nat))), ((56 : Int), (.int (56 : Int) (310 : Nat))), ((57 : Int), (.int (57 : Int) (312 : Nat))), ((65 : Int), (.int (65 : Int) (190 : Nat))), ((66 : Int), (.int (66 : Int) (192 : Nat))), ((67 : Int), (.int (67 : Int) (194 : Nat))), ((68 : Int), (.int (68 : Int) (196 : Nat))), ((69 : Int), (.int (69 : Int) (198 : Nat))), ((70 : Int), (.int (70 : Int) (200 : Nat))), ((71 : Int), (.int (71 : Int) (202 : Nat))), ((72 : Int), (.int (72 : Int) (204 : Nat))), ((73 : Int), (.int (73 : Int) (206 : Nat))), ((74 : Int), (.int (74 : Int) (208 : Nat))), ((75 : Int), (.int (75 : Int) (210 : Nat))), ((76 : Int), (.int (76 : Int) (212 : Nat))), ((77 : Int), (.int (77 : Int) (214 : Nat))), ((78 : Int), (.int (78 : Int) (216 : Nat))), ((79 : Int), (.int (79 : Int) (218 : Nat))), ((80 : Int), (.int (80 : Int) (220 : Nat))), ((81 : Int), (.int (81 : Int) (222 : Nat))), ((82 : Int), (.int (82 : Int) (224 : Nat))), ((83 : Int), (.int (83 : Int) (226 : Nat))), ((84 : Int), (.int (84 : Int) (228 : Nat))), ((85 : Int), (.int (85 : Int) (230 : Nat))), ((86 : Int), (.int (86 : Int) (232 : Nat))), ((87 : Int), (.int (87 : Int) (234 : Nat))), ((88 : Int), (.int (88 : Int) (236 : Nat))), ((89 : Int), (.int (89 : Int) (238 : Nat))), ((90 : Int), (.int (90 : Int) (240 : Nat))), ((95 : Int), (.int (95 : Int) (314 : Nat))), ((97 : Int), (.int (97 : Int) (242 : Nat))), ((98 : Int), (.int (98 : Int) (244 : Nat))), ((99 : Int), (.int (99 : Int) (246 : Nat))), ((100 : Int), (.int (100 : Int) (248 : Nat))), ((101 : Int), (.int (101 : Int) (250 : Nat))), ((102 : Int), (.int (102 : Int) (252 : Nat))), ((103 : Int), (.int (103 : Int) (254 : Nat))), ((104 : Int), (.int (104 : Int) (256 : Nat))), ((105 : Int), (.int (105 : Int) (258 : Nat))), ((106 : Int), (.int (106 : Int) (260 : Nat))), ((107 : Int), (.int (107 : Int) (262 : Nat))), ((108 : Int), (.int (108 : Int) (264 : Nat))), ((109 : Int), (.int (109 : Int) (266 : Nat))), ((110 : Int), (.int (110 : Int) (268 : Nat))), ((111 : Int), (.int (111 : Int) (270 : Nat))), ((112 : Int), (.int (112 : Int) (272 : Nat))), ((113 : Int), (.int (113 : Int) (274 : Nat))), ((114 : Int), (.int (114 : Int) (276 : Nat))), ((115 : Int), (.int (115 : Int) (278 : Nat))), ((116 : Int), (.int (116 : Int) (280 : Nat))), ((117 : Int), (.int (117 : Int) (282 : Nat))), ((118 : Int), (.int (118 : Int) (284 : Nat))), ((119 : Int), (.int (119 : Int) (286 : Nat))), ((120 : Int), (.int (120 : Int) (288 : Nat))), ((121 : Int), (.int (121 : Int) (290 : Nat))), ((122 : Int), (.int (122 : Int) (292 : Nat))), ((126 : Int), (.int (126 : Int) (320 : Nat)))]) (68 : Nat) (@PySem.SetTable.mk (127 : Nat) (List.toArray [(45 : Nat), (46 : Nat), (48 : Nat), (49 : Nat), (50 : Nat), (51 : Nat), (52 : Nat), (53 : Nat), (54 : Nat), (55 : Nat), (56 : Nat), (57 : Nat), (65 : Nat), (66 : Nat), (67 : Nat), (68 : Nat), (69 : Nat), (70 : Nat), (71 : Nat), (72 : Nat), (73 : Nat), (74 : Nat), (75 : Nat), (76 : Nat), (77 : Nat), (78 : Nat), (79 : Nat), (80 : Nat), (81 : Nat), (82 : Nat), (83 : Nat), (84 : Nat), (85 : Nat), (86 : Nat), (87 : Nat), (88 : Nat), (89 : Nat), (90 : Nat), (95 : Nat), (97 : Nat), (98 : Nat), (99 : Nat), (100 : Nat), (101 : Nat), (102 : Nat), (103 : Nat), (104 : Nat), (105 : Nat), (106 : Nat), (107 : Nat), (108 : Nat), (109 : Nat), (110 : Nat), (111 : Nat), (112 : Nat), (113 : Nat), (114 : Nat), (115 : Nat), (116 : Nat), (117 : Nat), (118 : Nat), (119 : Nat), (120 : Nat), (121 : Nat), (122 : Nat), (126 : Nat)]) (List.toArray []) (0 : Nat) (@Bool.not (@PySem.Params.followText P "set-order")) (2 : Nat) @Bool.true)), (List.toArray [])⟩
def o16_c3 (P : Params) : Obj := ⟨(@PySem.Value.type "bytes_iterator"), (@Option.none Nat), (@PySem.Data.fields (List.toArray [(@PySem.Value.bytes (List.toArray [(65 : UInt8), (66 : UInt8), (67 : UInt8), (68 : UInt8), (69 : UInt8), (70 : UInt8), (71 : UInt8), (72 : UInt8), (73 : UInt8), (74 : UInt8), (75 : UInt8), (76 : UInt8), (77 : UInt8), (78 : UInt8), (79 : UInt8), (80 : UInt8), (81 : UInt8), (82 : UInt8), (83 : UInt8), (84 : UInt8), (85 : UInt8), (86 : UInt8), (87 : UInt8), (88 : UInt8), (89 : UInt8), (90 : UInt8), (97 : UInt8), (98 : UInt8), (99 : UInt8), (100 : UInt8), (101 : UInt8), (102 : UInt8), (103 : UInt8), (104 : UInt8), (105 : UInt8), (106 : UInt8), (107 : UInt8), (108 : UInt8), (109 : UInt8), (110 : UInt8), (111 : UInt8), (112 : UInt8), (113 : UInt8), (114 : UInt8), (115 : UInt8), (116 : UInt8), (117 : UInt8), (118 : UInt8), (119 : UInt8), (120 : UInt8), (121 : UInt8), (122 : UInt8), (48 : UInt8), (49 : UInt8), (50 : UInt8), (51 : UInt8), (52 : UInt8), (53 : UInt8), (54 : UInt8), (55 : UInt8), (56 : UInt8), (57 : UInt8), (95 : UInt8), (46 : UInt8), (45 : UInt8), (126 : UInt8)]) (189 : Nat)), (.int (66 : Int) (0 : Nat))])), (List.toArray [])⟩
def tree_c3 (P : Params) : BT := (.node (boot_o_0 P) (.node (boot_o_1 P) (.node (o3_b P) (.node (boot_o_7 P) (.node (o15_c3 P) .nil .nil) .nil) (.node (o11_a P) .nil .nil)) (.node (boot_o_5 P) (.node (boot_o_9 P) .nil .nil) (.node (o13_a P) .nil .nil))) (.node (boot_o_2 P) (.node (boot_o_4 P) (.node (boot_o_8 P) (.node (o16_c3 P) .nil .nil) .nil) (.node (o12_a P) .nil .nil)) (.node (boot_o_6 P) (.node (boot_o_10 P) .nil .nil) (.node (o14_a P) .nil .nil))))
def o3_d0 (P : Params) : Obj := ⟨(@PySem.Value.type "dict"), (@Option.none Nat), (@PySem.Data.dict (List.toArray [⟨(PyData.keyHash P (Str.ofString "__name__")), (.str (Str.ofString "__name__") (165 : Nat)), (.str (Str.ofString "cpy313.urllib.parse") (187 : Nat))⟩, ⟨(PyData.keyHash P (Str.ofString "__doc__")), (.str (Str.ofString "__doc__") (166 : Nat)), @PySem.Value.none⟩, ⟨(PyData.keyHash P (Str.ofString "__package__")), (.str (Str.ofString "__package__") (167 : Nat)), @PySem.Value.none⟩, ⟨(PyData.keyHash P (Str.ofString "__loader__")), (.str (Str.ofString "__loader__") (168 : Nat)), (@PySem.Value.builtin "__main__.__loader__#opaque")⟩, ⟨(PyData.keyHash P (Str.ofString "__spec__")), (.str (Str.ofString "__spec__") (169 : Nat)), @PySem.Value.none⟩, ⟨(PyData.keyHash P (Str.ofString "__annotations__")), (.str (Str.ofString "__annotations__") (170 : Nat)), (.ref (6 : Nat))⟩, ⟨(PyData.keyHash P (Str.ofString "__builtins__")), (.str (Str.ofString "__builtins__") (171 : Nat)), (.ref (4 : Nat))⟩, ⟨(PyData.keyHash P (Str.ofString "__file__")), (.str (Str.ofString "__file__") (173 : Nat)), (.str (Str.ofString "/claim/cut.py") (172 : Nat))⟩, ⟨(PyData.keyHash P (Str.ofString "__cached__")), (.str (Str.ofString "__cached__") (174 : Nat)), @PySem.Value.none⟩, ⟨(PyData.keyHash P (Str.ofString "_ALWAYS_SAFE")), (.str (Str.ofString "_ALWAYS_SAFE") (322 : Nat)), (.ref (15 : Nat))⟩]) (10 : Nat)), (List.toArray [])⟩
def o16_d0 (P : Params) : Obj := ⟨(@PySem.Value.type "bytes_iterator"), (@Option.none Nat), (@PySem.Data.fields (List.toArray [@PySem.Value.none, (.int (66 : Int) (0 : Nat))])), (List.toArray [])⟩
def o17_d0 (P : Params) : Obj := ⟨(@PySem.Value.type "tuple"), (@Option.none Nat), (@PySem.Data.seq (List.toArray []) (0 : Nat)), (List.toArray [])⟩
def o18_d0 (P : Params) : Obj := ⟨(@PySem.Value.type "StopIteration"), (@Option.none Nat), (@PySem.Data.fields (List.toArray [(.ref (17 : Nat)), @PySem.Value.none, @PySem.Value.none, @PySem.Value.none, (@PySem.Value.bool @Bool.false), @PySem.Value.none])), (List.toArray [])⟩
def tree_d0 (P : Params) : BT := (.node (boot_o_0 P) (.node (boot_o_1 P) (.node (o3_d0 P) (.node (boot_o_7 P) (.node (o15_c3 P) .nil .nil) .nil) (.node (o11_a P) .nil .nil)) (.node (boot_o_5 P) (.node (boot_o_9 P) (.node (o17_d0 P) .nil .nil) .nil) (.node (o13_a P) .nil .nil))) (.node (boot_o_2 P) (.node (boot_o_4 P) (.node (boot_o_8 P) (.node (o16_d0 P) .nil .nil) .nil) (.node (o12_a P) .nil .nil)) (.node (boot_o_6 P) (.node (boot_o_10 P) (.node (o18_d0 P) .nil .nil) .nil) (.node (o14_a P) .nil .nil))))
def o3_d1 (P : Params) : Obj := ⟨(@PySem.Value.type "dict"), (@Option.none Nat), (@PySem.Data.dict (List.toArray [⟨(PyData.keyHash P (Str.ofString "__name__")), (.str (Str.ofString "__name__") (165 : Nat)), (.str (Str.ofString "cpy313.urllib.parse") (187 : Nat))⟩, ⟨(PyData.keyHash P (Str.ofString "__doc__")), (.str (Str.ofString "__doc__") (166 : Nat)), @PySem.Value.none⟩, ⟨(PyData.keyHash P (Str.ofString "__package__")), (.str (Str.ofString "__package__") (167 : Nat)), @PySem.Value.none⟩, ⟨(PyData.keyHash P (Str.ofString "__loader__")), (.str (Str.ofString "__loader__") (168 : Nat)), (@PySem.Value.builtin "__main__.__loader__#opaque")⟩, ⟨(PyData.keyHash P (Str.ofString "__spec__")), (.str (Str.ofString "__spec__") (169 : Nat)), @PySem.Value.none⟩, ⟨(PyData.keyHash P (Str.ofString "__annotations__")), (.str (Str.ofString "__annotations__") (170 : Nat)), (.ref (6 : Nat))⟩, ⟨(PyData.keyHash P (Str.ofString "__builtins__")), (.str (Str.ofString "__builtins__") (171 : Nat)), (.ref (4 : Nat))⟩, ⟨(PyData.keyHash P (Str.ofString "__file__")), (.str (Str.ofString "__file__") (173 : Nat)), (.str (Str.ofString "/claim/cut.py") (172 : Nat))⟩, ⟨(PyData.keyHash P (Str.ofString "__cached__")), (.str (Str.ofString "__cached__") (174 : Nat)), @PySem.Value.none⟩, ⟨(PyData.keyHash P (Str.ofString "_ALWAYS_SAFE")), (.str (Str.ofString "_ALWAYS_SAFE") (322 : Nat)), (.ref (15 : Nat))⟩, ⟨(PyData.keyHash P (Str.ofString "_Quoter")), (.str (Str.ofString "_Quoter") (367 : Nat)), (.ref (49 : Nat))⟩]) (11 : Nat)), (List.toArray [])⟩
def o12_d1 (P : Params) : Obj := ⟨@PySem.Value.none, (@Option.none Nat), (@PySem.Data.fields (List.toArray [(.int (3 : Int) (0 : Nat)), (.int (0 : Int) (0 : Nat)), (.ref (24 : Nat))])), (List.toArray [])⟩
def o19_d1 (P : Params) : Obj := ⟨(@PySem.Value.type "tuple"), (@Option.none Nat), (@PySem.Data.seq (List.toArray [(@PySem.Value.type "dict")]) (0 : Nat)), (List.toArray [])⟩
def o20_d1 (P : Params) : Obj := ⟨(@PySem.Value.type "builtin_function_or_method"), (@Option.none Nat), (@PySem.Data.fields (List.toArray [(@PySem.Value.builtin "type.__prepare__"), (@PySem.Value.type "type")])), (List.toArray [])⟩
def o21_d1 (P : Params) : Obj := ⟨(@PySem.Value.type "dict"), (@Option.none Nat), (@PySem.Data.dict (List.toArray [⟨(PyData.keyHash P (Str.ofString "__module__")), (.str (Str.ofString "__module__") (330 : Nat)), (.str (Str.ofString "cpy313.urllib.parse") (187 : Nat))⟩, ⟨(PyData.keyHash P (Str.ofString "__qualname__")), (.str (Str.ofString "__qualname__") (332 : Nat)), (.str (Str.ofString "_Quoter") (331 : Nat))⟩, ⟨(PyData.keyHash P (Str.ofString "__firstlineno__")), (.str (Str.ofString "__firstlineno__") (334 : Nat)), (.int (3 : Int) (333 : Nat))⟩, ⟨(PyData.keyHash P (Str.ofString "__init__")), (.str (Str.ofString "__init__") (342 : Nat)), (.ref (32 : Nat))⟩, ⟨(PyData.keyHash P (Str.ofString "__repr__")), (.str (Str.ofString "__repr__") (349 : Nat)), (.ref (39 : Nat))⟩, ⟨(PyData.keyHash P (Str.ofString "__missing__")), (.str (Str.ofString "__missing__") (358 : Nat)), (.ref (46 : Nat))⟩, ⟨(PyData.keyHash P (Str.ofString "__static_attributes__")), (.str (Str.ofString "__static_attributes__") (360 : Nat)), (.ref (47 : Nat))⟩]) (7 : Nat)), (List.toArray [])⟩
def o22_d1 (P : Params) : Obj := ⟨(@PySem.Value.type "tuple"), (@Option.none Nat), (@PySem.Data.seq (List.toArray []) (0 : Nat)), (List.toArray [])⟩
def o23_d1 (P : Params) : Obj := ⟨@PySem.Value.none, (@Option.none Nat), (@PySem.Data.fields (List.toArray [(.int (5 : Int) (0 : Nat)), (.int (4 : Int) (0 : Nat)), (.ref (31 : Nat)), (.int (8 : Int) (0 : Nat)), (.int (4 : Int) (0 : Nat)), (.ref (38 : Nat)), (.int (11 : Int) (0 : Nat)), (.int (4 : Int) (0 : Nat)), (.ref (45 : Nat))])), (List.toArray [])⟩
def o24_d1 (P : Params) : Obj := ⟨(@PySem.Value.type "code"), (@Option.none Nat), (@PySem.Data.fields (List.toArray [(.str (Str.ofString "_Quoter") (325 : Nat)), (.str (Str.ofString "_Quoter") (326 : Nat)), (.str (Str.ofString "/claim/cut.py") (327 : Nat)), (.int (3 : Int) (0 : Nat)), (.int (0 : Int) (0 : Nat)), (.int (0 : Int) (0 : Nat)), (.int (0 : Int) (0 : Nat)), (.int (0 : Int) (0 : Nat)), (.ref (22 : Nat)), (@PySem.Value.bool @Bool.false), (.int (181 : Int) (0 : Nat)), (.ref (23 : Nat)), @PySem.Value.none, @PySem.Value.none, @PySem.Value.none, @PySem.Value.none, (.int (328 : Int) (0 : Nat)), (.int (3 : Int) (0 : Nat)), (.str (Str.ofString "/claim/cut.py") (329 : Nat))])), (List.toArray [])⟩
def o25_d1 (P : Params) : Obj := ⟨(@PySem.Value.type "frame"), (@Option.none Nat), @PySem.Data.plain, (List.toArray [(@Option.some @PySem.Value (.ref (24 : Nat))), (@Option.some @PySem.Value (.ref (3 : Nat))), (@Option.some @PySem.Value (.ref (21 : Nat))), (@Option.none @PySem.Value), (@Option.some @PySem.Value (.str (Str.ofString "cpy313.urllib.parse") (187 : Nat))), (@Option.none @PySem.Value), (@Option.some @PySem.Value (.ref (0 : Nat)))])⟩
def o26_d1 (P : Params) : Obj := ⟨(@PySem.Value.type "tuple"), (@Option.none Nat), (@PySem.Data.seq (List.toArray []) (0 : Nat)), (List.toArray [])⟩
def o27_d1 (P : Params) : Obj := ⟨@PySem.Value.none, (@Option.none Nat), (@PySem.Data.fields (List.toArray [])), (List.toArray [])⟩
def o28_d1 (P : Params) : Obj := ⟨(@PySem.Value.type "tuple"), (@Option.none Nat), (@PySem.Data.seq (List.toArray [(.str (Str.ofString "self") (338 : Nat)), (.str (Str.ofString "safe") (339 : Nat))]) (0 : Nat)), (List.toArray [])⟩
def o29_d1 (P : Params) : Obj := ⟨(@PySem.Value.type "tuple"), (@Option.none Nat), (@PySem.Data.seq (List.toArray []) (0 : Nat)), (List.toArray [])⟩
def o30_d1 (P : Params) : Obj := ⟨@PySem.Value.none, (@Option.none Nat), (@PySem.Data.func (@PySem.FuncData.mk (Str.ofString "__init__") (Str.ofString "_Quoter.__init__") Mine.initP (@PySem.FuncBody.stmts Mine.initB) Mine.initS (0 : Nat) [] @PySem.Value.none @PySem.Value.none @PySem.Value.none @PySem.Value.none (@Option.none Nat) @PySem.Value.none @PySem.Value.none (0 : Nat))), (List.toArray [])⟩
def o31_d1 (P : Params) : Obj := ⟨(@PySem.Value.type "code"), (@Option.none Nat), (@PySem.Data.fields (List.toArray [(.str (Str.ofString "__init__") (335 : Nat)), (.str (Str.ofString "_Quoter.__init__") (336 : Nat)), (.str (Str.ofString "/claim/cut.py") (337 : Nat)), (.int (5 : Int) (0 : Nat)), (.int (2 : Int) (0 : Nat)), (.int (0 : Int) (0 : Nat)), (.int (0 : Int) (0 : Nat)), (.int (3 : Int) (0 : Nat)), (.ref (26 : Nat)), (@PySem.Value.bool @Bool.true), (.int (181 : Int) (0 : Nat)), (.ref (27 : Nat)), @PySem.Value.none, (.ref (28 : Nat)), (.ref (29 : Nat)), (.ref (30 : Nat)), (.int (340 : Int) (0 : Nat)), (.int (5 : Int) (0 : Nat)), (.str (Str.ofString "/claim/cut.py") (341 : Nat))])), (List.toArray [])⟩
def o32_d1 (P : Params) : Obj := ⟨(@PySem.Value.type "function"), (@Option.none Nat), (@PySem.Data.func (@PySem.FuncData.mk (Str.ofString "__init__") (Str.ofString "_Quoter.__init__") Mine.initP (@PySem.FuncBody.stmts Mine.initB) Mine.initS (3 : Nat) [] @PySem.Value.none @PySem.Value.none @PySem.Value.none (.str (Str.ofString "cpy313.urllib.parse") (187 : Nat)) (@Option.none Nat) (.ref (31 : Nat)) @PySem.Value.none (0 : Nat))), (List.toArray [])⟩
def o33_d1 (P : Params) : Obj := ⟨(@PySem.Value.type "tuple"), (@Option.none Nat), (@PySem.Data.seq (List.toArray []) (0 : Nat)), (List.toArray [])⟩
def o34_d1 (P : Params) : Obj := ⟨@PySem.Value.none, (@Option.none Nat), (@PySem.Data.fields (List.toArray [])), (List.toArray [])⟩
def o35_d1 (P : Params) : Obj := ⟨(@PySem.Value.type "tuple"), (@Option.none Nat), (@PySem.Data.seq (List.toArray [(.str (Str.ofString "self") (346 : Nat))]) (0 : Nat)), (List.toArray [])⟩
def o36_d1 (P : Params) : Obj := ⟨(@PySem.Value.type "tuple"), (@Option.none Nat), (@PySem.Data.seq (List.toArray []) (0 : Nat)), (List.toArray [])⟩
def o37_d1 (P : Params) : Obj := ⟨@PySem.Value.none, (@Option.none Nat), (@PySem.Data.func (@PySem.FuncData.mk (Str.ofString "__repr__") (Str.ofString "_Quoter.__repr__") Mine.reprP (@PySem.FuncBody.stmts Mine.reprB) Mine.reprS (0 : Nat) [] @PySem.Value.none @PySem.Value.none @PySem.Value.none @PySem.Value.none (@Option.none Nat) @PySem.Value.none @PySem.Value.none (0 : Nat))), (List.toArray [])⟩
def o38_d1 (P : Params) : Obj := ⟨(@PySem.Value.type "code"), (@Option.none Nat), (@PySem.Data.fields (List.toArray [(.str (Str.ofString "__repr__") (343 : Nat)), (.str (Str.ofString "_Quoter.__repr__") (344 : Nat)), (.str (Str.ofString "/claim/cut.py") (345 : Nat)), (.int (8 : Int) (0 : Nat)), (.int (1 : Int) (0 : Nat)), (.int (0 : Int) (0 : Nat)), (.int (0 : Int) (0 : Nat)), (.int (3 : Int) (0 : Nat)), (.ref (33 : Nat)), (@PySem.Value.bool @Bool.true), (.int (181 : Int) (0 : Nat)), (.ref (34 : Nat)), @PySem.Value.none, (.ref (35 : Nat)), (.ref (36 : Nat)), (.ref (37 : Nat)), (.int (347 : Int) (0 : Nat)), (.int (8 : Int) (0 : Nat)), (.str (Str.ofString "/claim/cut.py") (348 : Nat))])), (List.toArray [])⟩
def o39_d1 (P : Params) : Obj := ⟨(@PySem.Value.type "function"), (@Option.none Nat), (@PySem.Data.func (@PySem.FuncData.mk (Str.ofString "__repr__") (Str.ofString "_Quoter.__repr__") Mine.reprP (@PySem.FuncBody.stmts Mine.reprB) Mine.reprS (3 : Nat) [] @PySem.Value.none @PySem.Value.none @PySem.Value.none (.str (Str.ofString "cpy313.urllib.parse") (187 : Nat)) (@Option.none Nat) (.ref (38 : Nat)) @PySem.Value.none (0 : Nat))), (List.toArray [])⟩
def o40_d1 (P : Params) : Obj := ⟨(@PySem.Value.type "tuple"), (@Option.none Nat), (@PySem.Data.seq (List.toArray []) (0 : Nat)), (List.toArray [])⟩
def o41_d1 (P : Params) : Obj := ⟨@PySem.Value.none, (@Option.none Nat), (@PySem.Data.fields (List.toArray [])), (List.toArray [])⟩
def o42_d1 (P : Params) : Obj := ⟨(@PySem.Value.type "tuple"), (@Option.none Nat), (@PySem.Data.seq (List.toArray [(.str (Str.ofString "self") (353 : Nat)), (.str (Str.ofString "b") (354 : Nat)), (.str (Str.ofString "res") (355 : Nat))]) (0 : Nat)), (List.toArray [])⟩
def o43_d1 (P : Params) : Obj := ⟨(@PySem.Value.type "tuple"), (@Option.none Nat), (@PySem.Data.seq (List.toArray []) (0 : Nat)), (List.toArray [])⟩
def o44_d1 (P : Params) : Obj := ⟨@PySem.Value.none, (@Option.none Nat), (@PySem.Data.func (@PySem.FuncData.mk (Str.ofString "__missing__") (Str.ofString "_Quoter.__missing__") Mine.missP (@PySem.FuncBody.stmts Mine.missB) Mine.missS (0 : Nat) [] @PySem.Value.none @PySem.Value.none @PySem.Value.none @PySem.Value.none (@Option.none Nat) @PySem.Value.none @PySem.Value.none (0 : Nat))), (List.toArray [])⟩
def o45_d1 (P : Params) : Obj := ⟨(@PySem.Value.type "code"), (@Option.none Nat), (@PySem.Data.fields (List.toArray [(.str (Str.ofString "__missing__") (350 : Nat)), (.str (Str.ofString "_Quoter.__missing__") (351 : Nat)), (.str (Str.ofString "/claim/cut.py") (352 : Nat)), (.int (11 : Int) (0 : Nat)), (.int (2 : Int) (0 : Nat)), (.int (0 : Int) (0 : Nat)), (.int (0 : Int) (0 : Nat)), (.int (3 : Int) (0 : Nat)), (.ref (40 : Nat)), (@PySem.Value.bool @Bool.true), (.int (181 : Int) (0 : Nat)), (.ref (41 : Nat)), @PySem.Value.none, (.ref (42 : Nat)), (.ref (43 : Nat)), (.ref (44 : Nat)), (.int (356 : Int) (0 : Nat)), (.int (11 : Int) (0 : Nat)), (.str (Str.ofString "/claim/cut.py") (357 : Nat))])), (List.toArray [])⟩
def o46_d1 (P : Params) : Obj := ⟨(@PySem.Value.type "function"), (@Option.none Nat), (@PySem.Data.func (@PySem.FuncData.mk (Str.ofString "__missing__") (Str.ofString "_Quoter.__missing__") Mine.missP (@PySem.FuncBody.stmts Mine.missB) Mine.missS (3 : Nat) [] @PySem.Value.none @PySem.Value.none @PySem.Value.none (.str (Str.ofString "cpy313.urllib.parse") (187 : Nat)) (@Option.none Nat) (.ref (45 : Nat)) @PySem.Value.none (0 : Nat))), (List.toArray [])⟩
def o47_d1 (P : Params) : Obj := ⟨(@PySem.Value.type "tuple"), (@Option.none Nat), (@PySem.Data.seq (List.toArray [(.str (Str.ofString "safe") (359 : Nat))]) (0 : Nat)), (List.toArray [])⟩
def o48_d1 (P : Params) : Obj := ⟨(@PySem.Value.type "dict"), (@Option.none Nat), (@PySem.Data.dict (List.toArray [⟨(PyData.keyHash P (Str.ofString "__module__")), (.str (Str.ofString "__module__") (330 : Nat)), (.str (Str.ofString "cpy313.urllib.parse") (187 : Nat))⟩, ⟨(PyData.keyHash P (Str.ofString "__firstlineno__")), (.str (Str.ofString "__firstlineno__") (334 : Nat)), (.int (3 : Int) (333 : Nat))⟩, ⟨(PyData.keyHash P (Str.ofString "__init__")), (.str (Str.ofString "__init__") (342 : Nat)), (.ref (32 : Nat))⟩, ⟨(PyData.keyHash P (Str.ofString "__repr__")), (.str (Str.ofString "__repr__") (349 : Nat)), (.ref (39 : Nat))⟩, ⟨(PyData.keyHash P (Str.ofString "__missing__")), (.str (Str.ofString "__missing__") (358 : Nat)), (.ref (46 : Nat))⟩, ⟨(PyData.keyHash P (Str.ofString "__static_attributes__")), (.str (Str.ofString "__static_attributes__") (360 : Nat)), (.ref (47 : Nat))⟩, ⟨(PyData.keyHash P (Str.ofString "__dict__")), (.str (Str.ofString "__dict__") (362 : Nat)), (.ref (50 : Nat))⟩, ⟨(PyData.keyHash P (Str.ofString "__weakref__")), (.str (Str.ofString "__weakref__") (364 : Nat)), (.ref (51 : Nat))⟩, ⟨(PyData.keyHash P (Str.ofString "__doc__")), (.str (Str.ofString "__doc__") (365 : Nat)), @PySem.Value.none⟩]) (4 : Nat)), (List.toArray [])⟩
def o49_d1 (P : Params) : Obj := ⟨(@PySem.Value.type "type"), (@Option.none Nat), (@PySem.Data.cls (@PySem.ClassData.mk (Str.ofString "_Quoter") [(@PySem.Value.type "dict")] [(.ref (49 : Nat)), (@PySem.Value.type "dict"), (@PySem.Value.type "object")] (48 : Nat) (Str.ofString "_Quoter") @Bool.true [] [] @Bool.false (@Option.none @Bool) @Bool.false)), (List.toArray [(@Option.some @PySem.Value (.ref (19 : Nat))), (@Option.none @PySem.Value), (@Option.some @PySem.Value (.str (Str.ofString "_Quoter") (323 : Nat))), (@Option.some @PySem.Value (.str (Str.ofString "_Quoter") (331 : Nat))), (@Option.some @PySem.Value (@PySem.Value.builtin "dict.__new__")), (@Option.some @PySem.Value (@PySem.Value.bool @Bool.true))])⟩
def o50_d1 (P : Params) : Obj := ⟨(@PySem.Value.type "getset_descriptor"), (@Option.none Nat), (@PySem.Data.fields (List.toArray [(.str (Str.ofString "__dict__") (361 : Nat)), (.ref (49 : Nat)), (@PySem.Value.builtin "function.__dict__"), (@PySem.Value.builtin "function.__dict__#set")])), (List.toArray [])⟩
def o51_d1 (P : Params) : Obj := ⟨(@PySem.Value.type "getset_descriptor"), (@Option.none Nat), (@PySem.Data.fields (List.toArray [(.str (Str.ofString "__weakref__") (363 : Nat)), (.ref (49 : Nat)), (@PySem.Value.builtin "ExceptionGroup.__weakref__"), @PySem.Value.none])), (List.toArray [])⟩
def o52_d1 (P : Params) : Obj := ⟨(@PySem.Value.type "super"), (@Option.none Nat), (@PySem.Data.fields (List.toArray [(.ref (49 : Nat)), (.ref (49 : Nat)), (.ref (49 : Nat))])), (List.toArray [])⟩
def o53_d1 (P : Params) : Obj := ⟨(@PySem.Value.type "builtin_function_or_method"), (@Option.none Nat), (@PySem.Data.fields (List.toArray [(@PySem.Value.builtin "object.__init_subclass__"), (.ref (49 : Nat))])), (List.toArray [])⟩
def tree_d1 (P : Params) : BT := (.node (boot_o_0 P) (.node (boot_o_1 P) (.node (o3_d1 P) (.node (boot_o_7 P) (.node (o15_c3 P) (.node (o31_d1 P) .nil .nil) (.node (o47_d1 P) .nil .nil)) (.node (o23_d1 P) (.node (o39_d1 P) .nil .nil) .nil)) (.node (o11_a P) (.node (o19_d1 P) (.node (o35_d1 P) .nil .nil) (.node (o51_d1 P) .nil .nil)) (.node (o27_d1 P) (.node (o43_d1 P) .nil .nil) .nil))) (.node (boot_o_5 P) (.node (boot_o_9 P) (.node (o17_d0 P) (.node (o33_d1 P) .nil .nil) (.node (o49_d1 P) .nil .nil)) (.node (o25_d1 P) (.node (o41_d1 P) .nil .nil) .nil)) (.node (o13_a P) (.node (o21_d1 P) (.node (o37_d1 P) .nil .nil) (.node (o53_d1 P) .nil .nil)) (.node (o29_d1 P) (.node (o45_d1 P) .nil .nil) .nil)))) (.node (boot_o_2 P) (.node (boot_o_4 P) (.node (boot_o_8 P) (.node (o16_d0 P) (.node (o32_d1 P) .nil .nil) (.node (o48_d1 P) .nil .nil)) (.node (o24_d1 P) (.node (o40_d1 P) .nil .nil) .nil)) (.node (o12_d1 P) (.node (o20_d1 P) (.node (o36_d1 P) .nil .nil) (.node (o52_d1 P) .nil .nil)) (.node (o28_d1 P) (.node (o44_d1 P) .nil .nil) .nil))) (.node (boot_o_6 P) (.node (boot_o_10 P) (.node (o18_d0 P) (.node (o34_d1 P) .nil .nil) (.node (o50_d1 P) .nil .nil)) (.node (o26_d1 P) (.node (o42_d1 P) .nil .nil) .nil)) (.node (o14_a P) (.node (o22_d1 P) (.node (o38_d1 P) .nil .nil) .nil) (.node (o30_d1 P) (.node (o46_d1 P) .nil .nil) .nil)))))
def o3_d2 (P : Params) : Obj := ⟨(@PySem.Value.type "dict"), (@Option.none Nat), (@PySem.Data.dict (List.toArray [⟨(PyData.keyHash P (Str.ofString "__name__")), (.str (Str.ofString "__name__") (165 : Nat)), (.str (Str.ofString "law_dn0241_02") (368 : Nat))⟩, ⟨(PyData.keyHash P (Str.ofString "__doc__")), (.str (Str.ofString "__doc__") (166 : Nat)), @PySem.Value.none⟩, ⟨(PyData.keyHash P (Str.ofString "__package__")), (.str (Str.ofString "__package__") (167 : Nat)), @PySem.Value.none⟩, ⟨(PyData.keyHash P (Str.ofString "__loader__")), (.str (Str.ofString "__loader__") (168 : Nat)), (@PySem.Value.builtin "__main__.__loader__#opaque")⟩, ⟨(PyData.keyHash P (Str.ofString "__spec__")), (.str (Str.ofString "__spec__") (169 : Nat)), @PySem.Value.none⟩, ⟨(PyData.keyHash P (Str.ofString "__annotations__")), (.str (Str.ofString "__annotations__") (170 : Nat)), (.ref (6 : Nat))⟩, ⟨(PyData.keyHash P (Str.ofString "__builtins__")), (.str (Str.ofString "__builtins__") (171 : Nat)), (.ref (4 : Nat))⟩, ⟨(PyData.keyHash P (Str.ofString "__file__")), (.str (Str.ofString "__file__") (173 : Nat)), (.str (Str.ofString "/claim/cut.py") (172 : Nat))⟩, ⟨(PyData.keyHash P (Str.ofString "__cached__")), (.str (Str.ofString "__cached__") (174 : Nat)), @PySem.Value.none⟩, ⟨(PyData.keyHash P (Str.ofString "_ALWAYS_SAFE")), (.str (Str.ofString "_ALWAYS_SAFE") (322 : Nat)), (.ref (15 : Nat))⟩, ⟨(PyData.keyHash P (Str.ofString "_Quoter")), (.str (Str.ofString "_Quoter") (367 : Nat)), (.ref (49 : Nat))⟩]) (11 : Nat)), (List.toArray [])⟩
def tree_d2 (P : Params) : BT := (.node (boot_o_0 P) (.node (boot_o_1 P) (.node (o3_d2 P) (.node (boot_o_7 P) (.node (o15_c3 P) (.node (o31_d1 P) .nil .nil) (.node (o47_d1 P) .nil .nil)) (.node (o23_d1 P) (.node (o39_d1 P) .nil .nil) .nil)) (.node (o11_a P) (.node (o19_d1 P) (.node (o35_d1 P) .nil .nil) (.node (o51_d1 P) .nil .nil)) (.node (o27_d1 P) (.node (o43_d1 P) .nil .nil) .nil))) (.node (boot_o_5 P) (.node (boot_o_9 P) (.node (o17_d0 P) (.node (o33_d1 P) .nil .nil) (.node (o49_d1 P) .nil .nil)) (.node (o25_d1 P) (.node (o41_d1 P) .nil .nil) .nil)) (.node (o13_a P) (.node (o21_d1 P) (.node (o37_d1 P) .nil .nil) (.node (o53_d1 P) .nil .nil)) (.node (o29_d1 P) (.node (o45_d1 P) .nil .nil) .nil)))) (.node (boot_o_2 P) (.node (boot_o_4 P) (.node (boot_o_8 P) (.node (o16_d0 P) (.node (o32_d1 P) .nil .nil) (.node (o48_d1 P) .nil .nil)) (.node (o24_d1 P) (.node (o40_d1 P) .nil .nil) .nil)) (.node (o12_d1 P) (.node (o20_d1 P) (.node (o36_d1 P) .nil .nil) (.node (o52_d1 P) .nil .nil)) (.node (o28_d1 P) (.node (o44_d1 P) .nil .nil) .nil))) (.node (boot_o_6 P) (.node (boot_o_10 P) (.node (o18_d0 P) (.node (o34_d1 P) .nil .nil) (.node (o50_d1 P) .nil .nil)) (.node (o26_d1 P) (.node (o42_d1 P) .nil .nil) .nil)) (.node (o14_a P) (.node (o22_d1 P) (.node (o38_d1 P) .nil .nil) .nil) (.node (o30_d1 P) (.node (o46_d1 P) .nil .nil) .nil)))))
def o3_d3 (P : Params) : Obj := ⟨(@PySem.Value.type "dict"), (@Option.none Nat), (@PySem.Data.dict (List.toArray [⟨(PyData.keyHash P (Str.ofString "__name__")), (.str (Str.ofString "__name__") (165 : Nat)), (.str (Str.ofString "law_dn0241_02") (368 : Nat))⟩, ⟨(PyData.keyHash P (Str.ofString "__doc__")), (.str (Str.ofString "__doc__") (166 : Nat)), @PySem.Value.none⟩, ⟨(PyData.keyHash P (Str.ofString "__package__")), (.str (Str.ofString "__package__") (167 : Nat)), @PySem.Value.none⟩, ⟨(PyData.keyHash P (Str.ofString "__loader__")), (.str (Str.ofString "__loader__") (168 : Nat)), (@PySem.Value.builtin "__main__.__loader__#opaque")⟩, ⟨(PyData.keyHash P (Str.ofString "__spec__")), (.str (Str.ofString "__spec__") (169 : Nat)), @PySem.Value.none⟩, ⟨(PyData.keyHash P (Str.ofString "__annotations__")), (.str (Str.ofString "__annotations__") (170 : Nat)), (.ref (6 : Nat))⟩, ⟨(PyData.keyHash P (Str.ofString "__builtins__")), (.str (Str.ofString "__builtins__") (171 : Nat)), (.ref (4 : Nat))⟩, ⟨(PyData.keyHash P (Str.ofString "__file__")), (.str (Str.ofString "__file__") (173 : Nat)), (.str (Str.ofString "/claim/cut.py") (172 : Nat))⟩, ⟨(PyData.keyHash P (Str.ofString "__cached__")), (.str (Str.ofString "__cached__") (174 : Nat)), @PySem.Value.none⟩, ⟨(PyData.keyHash P (Str.ofString "_ALWAYS_SAFE")), (.str (Str.ofString "_ALWAYS_SAFE") (322 : Nat)), (.ref (15 : Nat))⟩, ⟨(PyData.keyHash P (Str.ofString "_Quoter")), (.str (Str.ofString "_Quoter") (367 : Nat)), (.ref (49 : Nat))⟩, ⟨(PyData.keyHash P (Str.ofString "_law_written")), (.str (Str.ofString "_law_written") (377 : Nat)), (.ref (60 : Nat))⟩]) (12 : Nat)), (List.toArray [])⟩
def o12_d3 (P : Params) : Obj := ⟨@PySem.Value.none, (@Option.none Nat), (@PySem.Data.fields (List.toArray [(.int (3 : Int) (0 : Nat)), (.int (0 : Int) (0 : Nat)), (.ref (24 : Nat)), (.int (16 : Int) (0 : Nat)), (.int (0 : Int) (0 : Nat)), (.ref (59 : Nat))])), (List.toArray [])⟩
def o54_d3 (P : Params) : Obj := ⟨(@PySem.Value.type "tuple"), (@Option.none Nat), (@PySem.Data.seq (List.toArray []) (0 : Nat)), (List.toArray [])⟩
def o55_d3 (P : Params) : Obj := ⟨@PySem.Value.none, (@Option.none Nat), (@PySem.Data.fields (List.toArray [])), (List.toArray [])⟩
def o56_d3 (P : Params) : Obj := ⟨(@PySem.Value.type "tuple"), (@Option.none Nat), (@PySem.Data.seq (List.toArray [(.str (Str.ofString "c") (373 : Nat)), (.str (Str.ofString "safe") (374 : Nat))]) (0 : Nat)), (List.toArray [])⟩
def o57_d3 (P : Params) : Obj := ⟨(@PySem.Value.type "tuple"), (@Option.none Nat), (@PySem.Data.seq (List.toArray []) (0 : Nat)), (List.toArray [])⟩
def o58_d3 (P : Params) : Obj := ⟨@PySem.Value.none, (@Option.none Nat), (@PySem.Data.func (@PySem.FuncData.mk (Str.ofString "_law_written") (Str.ofString "_law_written") Mine.writP (@PySem.FuncBody.stmts Mine.writB) Mine.writS (0 : Nat) [] @PySem.Value.none @PySem.Value.none @PySem.Value.none @PySem.Value.none (@Option.none Nat) @PySem.Value.none @PySem.Value.none (0 : Nat))), (List.toArray [])⟩
def o59_d3 (P : Params) : Obj := ⟨(@PySem.Value.type "code"), (@Option.none Nat), (@PySem.Data.fields (List.toArray [(.str (Str.ofString "_law_written") (370 : Nat)), (.str (Str.ofString "_law_written") (371 : Nat)), (.str (Str.ofString "/claim/cut.py") (372 : Nat)), (.int (16 : Int) (0 : Nat)), (.int (2 : Int) (0 : Nat)), (.int (0 : Int) (0 : Nat)), (.int (0 : Int) (0 : Nat)), (.int (3 : Int) (0 : Nat)), (.ref (54 : Nat)), (@PySem.Value.bool @Bool.true), (.int (181 : Int) (0 : Nat)), (.ref (55 : Nat)), @PySem.Value.none, (.ref (56 : Nat)), (.ref (57 : Nat)), (.ref (58 : Nat)), (.int (375 : Int) (0 : Nat)), (.int (16 : Int) (0 : Nat)), (.str (Str.ofString "/claim/cut.py") (376 : Nat))])), (List.toArray [])⟩
def o60_d3 (P : Params) : Obj := ⟨(@PySem.Value.type "function"), (@Option.none Nat), (@PySem.Data.func (@PySem.FuncData.mk (Str.ofString "_law_written") (Str.ofString "_law_written") Mine.writP (@PySem.FuncBody.stmts Mine.writB) Mine.writS (3 : Nat) [] @PySem.Value.none @PySem.Value.none @PySem.Value.none (.str (Str.ofString "law_dn0241_02") (368 : Nat)) (@Option.none Nat) (.ref (59 : Nat)) @PySem.Value.none (0 : Nat))), (List.toArray [])⟩
def tree_d3 (P : Params) : BT := (.node (boot_o_0 P) (.node (boot_o_1 P) (.node (o3_d3 P) (.node (boot_o_7 P) (.node (o15_c3 P) (.node (o31_d1 P) .nil .nil) (.node (o47_d1 P) .nil .nil)) (.node (o23_d1 P) (.node (o39_d1 P) .nil .nil) (.node (o55_d3 P) .nil .nil))) (.node (o11_a P) (.node (o19_d1 P) (.node (o35_d1 P) .nil .nil) (.node (o51_d1 P) .nil .nil)) (.node (o27_d1 P) (.node (o43_d1 P) .nil .nil) (.node (o59_d3 P) .nil .nil)))) (.node (boot_o_5 P) (.node (boot_o_9 P) (.node (o17_d0 P) (.node (o33_d1 P) .nil .nil) (.node (o49_d1 P) .nil .nil)) (.node (o25_d1 P) (.node (o41_d1 P) .nil .nil) (.node (o57_d3 P) .nil .nil))) (.node (o13_a P) (.node (o21_d1 P) (.node (o37_d1 P) .nil .nil) (.node (o53_d1 P) .nil .nil)) (.node (o29_d1 P) (.node (o45_d1 P) .nil .nil) .nil)))) (.node (boot_o_2 P) (.node (boot_o_4 P) (.node (boot_o_8 P) (.node (o16_d0 P) (.node (o32_d1 P) .nil .nil) (.node (o48_d1 P) .nil .nil)) (.node (o24_d1 P) (.node (o40_d1 P) .nil .nil) (.node (o56_d3 P) .nil .nil))) (.node (o12_d3 P) (.node (o20_d1 P) (.node (o36_d1 P) .nil .nil) (.node (o52_d1 P) .nil .nil)) (.node (o28_d1 P) (.node (o44_d1 P) .nil .nil) (.node (o60_d3 P) .nil .nil)))) (.node (boot_o_6 P) (.node (boot_o_10 P) (.node (o18_d0 P) (.node (o34_d1 P) .nil .nil) (.node (o50_d1 P) .nil .nil)) (.node (o26_d1 P) (.node (o42_d1 P) .nil .nil) (.node (o58_d3 P) .nil .nil))) (.node (o14_a P) (.node (o22_d1 P) (.node (o38_d1 P) .nil .nil) (.node (o54_d3 P) .nil .nil)) (.node (o30_d1 P) (.node (o46_d1 P) .nil .nil) .nil)))))
def o3_d4 (P : Params) : Obj := ⟨(@PySem.Value.type "dict"), (@Option.none Nat), (@PySem.Data.dict (List.toArray [⟨(PyData.keyHash P (Str.ofString "__name__")), (.str (Str.ofString "__name__") (165 : Nat)), (.str (Str.ofString "law_dn0241_02") (368 : Nat))⟩, ⟨(PyData.keyHash P (Str.ofString "__doc__")), (.str (Str.ofString "__doc__") (166 : Nat)), @PySem.Value.none⟩, ⟨(PyData.keyHash P (Str.ofString "__package__")), (.str (Str.ofString "__package__") (167 : Nat)), @PySem.Value.none⟩, ⟨(PyData.keyHash P (Str.ofString "__loader__")), (.str (Str.ofString "__loader__") (168 : Nat)), (@PySem.Value.builtin "__main__.__loader__#opaque")⟩, ⟨(PyData.keyHash P (Str.ofString "__spec__")), (.str (Str.ofString "__spec__") (169 : Nat)), @PySem.Value.none⟩, ⟨(PyData.keyHash P (Str.ofString "__annotations__")), (.str (Str.ofString "__annotations__") (170 : Nat)), (.ref (6 : Nat))⟩, ⟨(PyData.keyHash P (Str.ofString "__builtins__")), (.str (Str.ofString "__builtins__") (171 : Nat)), (.ref (4 : Nat))⟩, ⟨(PyData.keyHash P (Str.ofString "__file__")), (.str (Str.ofString "__file__") (173 : Nat)), (.str (Str.ofString "/claim/cut.py") (172 : Nat))⟩, ⟨(PyData.keyHash P (Str.ofString "__cached__")), (.str (Str.ofString "__cached__") (174 : Nat)), @PySem.Value.none⟩, ⟨(PyData.keyHash P (Str.ofString "_ALWAYS_SAFE")), (.str (Str.ofString "_ALWAYS_SAFE") (322 : Nat)), (.ref (15 : Nat))⟩, ⟨(PyData.keyHash P (Str.ofString "_Quoter")), (.str (Str.ofString "_Quoter") (367 : Nat)), (.ref (49 : Nat))⟩, ⟨(PyData.keyHash P (Str.ofString "_law_written")), (.str (Str.ofString "_law_written") (377 : Nat)), (.ref (60 : Nat))⟩, ⟨(PyData.keyHash P (Str.ofString "law")), (.str (Str.ofString "law") (383 : Nat)), (.ref (65 : Nat))⟩]) (13 : Nat)), (List.toArray [])⟩
def o12_d4 (P : Params) : Obj := ⟨@PySem.Value.none, (@Option.none Nat), (@PySem.Data.fields (List.toArray [(.int (3 : Int) (0 : Nat)), (.int (0 : Int) (0 : Nat)), (.ref (24 : Nat)), (.int (16 : Int) (0 : Nat)), (.int (0 : Int) (0 : Nat)), (.ref (59 : Nat)), (.int (20 : Int) (0 : Nat)), (.int (0 : Int) (0 : Nat)), (.ref (64 : Nat))])), (List.toArray [])⟩
def o61_d4 (P : Params) : Obj := ⟨(@PySem.Value.type "tuple"), (@Option.none Nat), (@PySem.Data.seq (List.toArray []) (0 : Nat)), (List.toArray [])⟩
def o62_d4 (P : Params) : Obj := ⟨@PySem.Value.none, (@Option.none Nat), (@PySem.Data.fields (List.toArray [])), (List.toArray [])⟩
def o63_d4 (P : Params) : Obj := ⟨@PySem.Value.none, (@Option.none Nat), (@PySem.Data.func (@PySem.FuncData.mk (Str.ofString "law") (Str.ofString "law") Mine.lawP (@PySem.FuncBody.stmts Mine.lawB) Mine.lawS (0 : Nat) [] @PySem.Value.none @PySem.Value.none @PySem.Value.none @PySem.Value.none (@Option.none Nat) @PySem.Value.none @PySem.Value.none (0 : Nat))), (List.toArray [])⟩
def o64_d4 (P : Params) : Obj := ⟨(@PySem.Value.type "code"), (@Option.none Nat), (@PySem.Data.fields (List.toArray [(.str (Str.ofString "law") (378 : Nat)), (.str (Str.ofString "law") (379 : Nat)), (.str (Str.ofString "/claim/cut.py") (380 : Nat)), (.int (20 : Int) (0 : Nat)), (.int (1 : Int) (0 : Nat)), (.int (0 : Int) (0 : Nat)), (.int (0 : Int) (0 : Nat)), (.int (3 : Int) (0 : Nat)), (.ref (61 : Nat)), (@PySem.Value.bool @Bool.true), (.int (181 : Int) (0 : Nat)), (.ref (62 : Nat)), @PySem.Value.none, @PySem.Value.none, @PySem.Value.none, (.ref (63 : Nat)), (.int (381 : Int) (0 : Nat)), (.int (20 : Int) (0 : Nat)), (.str (Str.ofString "/claim/cut.py") (382 : Nat))])), (List.toArray [])⟩
def o65_d4 (P : Params) : Obj := ⟨(@PySem.Value.type "function"), (@Option.none Nat), (@PySem.Data.func (@PySem.FuncData.mk (Str.ofString "law") (Str.ofString "law") Mine.lawP (@PySem.FuncBody.stmts Mine.lawB) Mine.lawS (3 : Nat) [] @PySem.Value.none @PySem.Value.none @PySem.Value.none (.str (Str.ofString "law_dn0241_02") (368 : Nat)) (@Option.none Nat) (.ref (64 : Nat)) @PySem.Value.none (0 : Nat))), (List.toArray [])⟩
def tree_d4 (P : Params) : BT := (.node (boot_o_0 P) (.node (boot_o_1 P) (.node (o3_d4 P) (.node (boot_o_7 P) (.node (o15_c3 P) (.node (o31_d1 P) (.node (o63_d4 P) .nil .nil) .nil) (.node (o47_d1 P) .nil .nil)) (.node (o23_d1 P) (.node (o39_d1 P) .nil .nil) (.node (o55_d3 P) .nil .nil))) (.node (o11_a P) (.node (o19_d1 P) (.node (o35_d1 P) .nil .nil) (.node (o51_d1 P) .nil .nil)) (.node (o27_d1 P) (.node (o43_d1 P) .nil .nil) (.node (o59_d3 P) .nil .nil)))) (.node (boot_o_5 P) (.node (boot_o_9 P) (.node (o17_d0 P) (.node (o33_d1 P) (.node (o65_d4 P) .nil .nil) .nil) (.node (o49_d1 P) .nil .nil)) (.node (o25_d1 P) (.node (o41_d1 P) .nil .nil) (.node (o57_d3 P) .nil .nil))) (.node (o13_a P) (.node (o21_d1 P) (.node (o37_d1 P) .nil .nil) (.node (o53_d1 P) .nil .nil)) (.node (o29_d1 P) (.node (o45_d1 P) .nil .nil) (.node (o61_d4 P) .nil .nil))))) (.node (boot_o_2 P) (.node (boot_o_4 P) (.node (boot_o_8 P) (.node (o16_d0 P) (.node (o32_d1 P) (.node (o64_d4 P) .nil .nil) .nil) (.node (o48_d1 P) .nil .nil)) (.node (o24_d1 P) (.node (o40_d1 P) .nil .nil) (.node (o56_d3 P) .nil .nil))) (.node (o12_d4 P) (.node (o20_d1 P) (.node (o36_d1 P) .nil .nil) (.node (o52_d1 P) .nil .nil)) (.node (o28_d1 P) (.node (o44_d1 P) .nil .nil) (.node (o60_d3 P) .nil .nil)))) (.node (boot_o_6 P) (.node (boot_o_10 P) (.node (o18_d0 P) (.node (o34_d1 P) .nil .nil) (.node (o50_d1 P) .nil .nil)) (.node (o26_d1 P) (.node (o42_d1 P) .nil .nil) (.node (o58_d3 P) .nil .nil))) (.node (o14_a P) (.node (o22_d1 P) (.node (o38_d1 P) .nil .nil) (.node (o54_d3 P) .nil .nil)) (.node (o30_d1 P) (.node (o46_d1 P) .nil .nil) (.node (o62_d4 P) .nil .nil))))))
def life : Life := {}
def ann : Option Value := some (.ref 6)
def env : Env := { scope := pw.main.scope, locals := mainNs, globals := mainNs, cells := [], code := .ref 13, frame := some 14 }
def zpos : Pos := ⟨0, 0, 0, 0⟩
def bcode : Code := .body (behindTheImports pw) env
def S_a (w : World) (os : OsState) : SharedT := ⟨tree_a w.params, 15, life, #[], ⟨0, 0, 0, 0⟩, 187, os⟩
def pos_a : Pos := ⟨0, 0, 0, 0⟩
def S_b (w : World) (os : OsState) : SharedT := ⟨tree_b w.params, 15, life, #[], ⟨0, 0, 0, 0⟩, 189, os⟩
def pos_b : Pos := ⟨1, 0, 1, 8⟩
def S_c0 (w : World) (os : OsState) : SharedT := ⟨tree_c0 w.params, 17, life, #[], ⟨0, 0, 0, 0⟩, 190, os⟩
def S_c1 (w : World) (os : OsState) : SharedT := ⟨tree_c1 w.params, 17, life, #[], ⟨0, 0, 0, 0⟩, 234, os⟩
def S_c2 (w : World) (os : OsState) : SharedT := ⟨tree_c2 w.params, 17, life, #[], ⟨0, 0, 0, 0⟩, 278, os⟩
def S_c2a (w : World) (os : OsState) : SharedT := ⟨tree_c2a w.params, 17, life, #[], ⟨0, 0, 0, 0⟩, 290, os⟩
def S_c2b (w : World) (os : OsState) : SharedT := ⟨tree_c2b w.params, 17, life, #[], ⟨0, 0, 0, 0⟩, 300, os⟩
def S_c2c (w : World) (os : OsState) : SharedT := ⟨tree_c2c w.params, 17, life, #[], ⟨0, 0, 0, 0⟩, 310, os⟩
def S_c3 (w : World) (os : OsState) : SharedT := ⟨tree_c3 w.params, 17, life, #[], ⟨0, 0, 0, 0⟩, 322, os⟩
def S_d0 (w : World) (os : OsState) : SharedT := ⟨tree_d0 w.params, 19, life, #[], ⟨0, 0, 0, 0⟩, 323, os⟩
def pos_d0 : Pos := ⟨2, 0, 2, 12⟩
def S_d1 (w : World) (os : OsState) : SharedT := ⟨tree_d1 w.params, 54, life, #[], ⟨0, 0, 0, 0⟩, 368, os⟩
def pos_d1 : Pos := ⟨3, 0, 14, 18⟩
def S_d2 (w : World) (os : OsState) : SharedT := ⟨tree_d2 w.params, 54, life, #[], ⟨0, 0, 0, 0⟩, 370, os⟩
def pos_d2 : Pos := ⟨15, 0, 15, 8⟩
def S_d3 (w : World) (os : OsState) : SharedT := ⟨tree_d3 w.params, 61, life, #[], ⟨0, 0, 0, 0⟩, 378, os⟩
def pos_d3 : Pos := ⟨16, 0, 19, 73⟩
def S_d4 (w : World) (os : OsState) : SharedT := ⟨tree_d4 w.params, 66, life, #[], ⟨0, 0, 0, 0⟩, 384, os⟩
def pos_d4 : Pos := ⟨20, 0, 66, 15⟩

abbrev thr (i : Nat) (pos : Pos) : Thread := piecesOf [stm i] env bcode pos [topFrame zpos]
end
end Mine
end
section
open PySem PySem.W PyProof.Rows
set_option Elab.async false
set_option maxRecDepth 100000
namespace Mine
theorem p_pre (w : World) (os : OsState) : topGo treeTable pw w 11 ann 12 ⟨boot_heap w.params, Array.mk [], boot_drawn, boot_toks, os⟩ (topStub pw) = some ((S_a w os).abs, ⟨denote treeTable bcode, bcode, pos_a, [topFrame zpos]⟩) := by kernel_rfl
theorem p_block (w : World) (os : OsState) : segRun treeTable pw w 11 ann 1 1 (S_a w os).abs (blockOf (behindTheImports pw) env bcode pos_a [topFrame zpos]) = some (.next, (S_a w os).abs, bcode, pos_a) := by kernel_rfl
theorem p_0 (w : World) (os : OsState) : segRunT treeTable pw w 11 ann 1 10 (S_a w os) (thr 0 pos_a) = some (.next, S_b w os, bcode, pos_b) := by kernel_rfl
theorem p_3 (w : World) (os : OsState) : segRunT treeTable pw w 11 ann 1 10 (S_d1 w os) (thr 3 pos_d1) = some (.next, S_d2 w os, bcode, pos_d2) := by kernel_rfl
theorem p_4 (w : World) (os : OsState) : segRunT treeTable pw w 11 ann 1 31 (S_d2 w os) (thr 4 pos_d2) = some (.next, S_d3 w os, bcode, pos_d3) := by kernel_rfl
theorem p_5 (w : World) (os : OsState) : segRunT treeTable pw w 11 ann 1 27 (S_d3 w os) (thr 5 pos_d3) = some (.next, S_d4 w os, bcode, pos_d4) := by kernel_rfl
theorem p_fin (w : World) (os : OsState) : topRun treeTable pw w 11 ann 2 (S_d4 w os).abs ⟨doneF .next, bcode, pos_d4, [topFrame zpos]⟩ = some (S_d4 w os).abs := by kernel_rfl
end Mine
end
section
open PySem PySem.W PyProof.Rows
set_option Elab.async false
set_option maxRecDepth 100000
namespace Mine
theorem p_2 (w : World) (os : OsState) : segRunT treeTable pw w 11 ann 1 291 (S_d0 w os) (thr 2 pos_d0) = some (.next, S_d1 w os, bcode, pos_d1) := by kernel_rfl
end Mine
end
section
open PySem PySem.W PyProof.Rows
set_option Elab.async false
set_option maxRecDepth 100000
namespace Mine
abbrev loopC : Code := .builtin "set.update.loop" ⟨[.ref 15, .ref 16], []⟩
def posL : Pos := ⟨2, 15, 2, 95⟩
abbrev sgr : String := "special-get-raises"
abbrev thrL (k : Result → Sem Fin) (h : Option Value) (g : Bool) (l : List Value) (cd : Code) (p : Pos) (kept : List Value) (f2 f3 f4 : Frame) : Thread := ⟨denote treeTable loopC, loopC, posL, [.ret k h g l cd p kept, f2, f3, f4]⟩
theorem p_1b_f (w : World) (os : OsState) (k h g l cd p kept f2 f3 f4) : segGoT treeTable pw (w.withFollow "special-get-raises" false) 11 ann 1 444 (S_c0 w os) (thrL k h g l cd p kept f2 f3 f4) = some (S_c1 w os, thrL k h g l cd p kept f2 f3 f4) := by kernel_rfl
theorem p_1b_t (w : World) (os : OsState) (k h g l cd p kept f2 f3 f4) : segGoT treeTable pw (w.withFollow "special-get-raises" true) 11 ann 1 444 (S_c0 w os) (thrL k h g l cd p kept f2 f3 f4) = some (S_c1 w os, thrL k h g l cd p kept f2 f3 f4) := by kernel_rfl
theorem p_1c_f (w : World) (os : OsState) (k h g l cd p kept f2 f3 f4) : segGoT treeTable pw (w.withFollow "special-get-raises" false) 11 ann 1 440 (S_c1 w os) (thrL k h g l cd p kept f2 f3 f4) = some (S_c2 w os, thrL k h g l cd p kept f2 f3 f4) := by kernel_rfl
theorem p_1c_t (w : World) (os : OsState) (k h g l cd p kept f2 f3 f4) : segGoT treeTable pw (w.withFollow "special-get-raises" true) 11 ann 1 440 (S_c1 w os) (thrL k h g l cd p kept f2 f3 f4) = some (S_c2 w os, thrL k h g l cd p kept f2 f3 f4) := by kernel_rfl
theorem p_1d1_f (w : World) (os : OsState) (k h g l cd p kept f2 f3 f4) : segGoT treeTable pw (w.withFollow "special-get-raises" false) 11 ann 1 120 (S_c2 w os) (thrL k h g l cd p kept f2 f3 f4) = some (S_c2a w os, thrL k h g l cd p kept f2 f3 f4) := by kernel_rfl
theorem p_1d1_t (w : World) (os : OsState) (k h g l cd p kept f2 f3 f4) : segGoT treeTable pw (w.withFollow "special-get-raises" true) 11 ann 1 120 (S_c2 w os) (thrL k h g l cd p kept f2 f3 f4) = some (S_c2a w os, thrL k h g l cd p kept f2 f3 f4) := by kernel_rfl
theorem p_1d2_f (w : World) (os : OsState) (k h g l cd p kept f2 f3 f4) : segGoT treeTable pw (w.withFollow "special-get-raises" false) 11 ann 1 100 (S_c2a w os) (thrL k h g l cd p kept f2 f3 f4) = some (S_c2b w os, thrL k h g l cd p kept f2 f3 f4) := by kernel_rfl
theorem p_1d2_t (w : World) (os : OsState) (k h g l cd p kept f2 f3 f4) : segGoT treeTable pw (w.withFollow "special-get-raises" true) 11 ann 1 100 (S_c2a w os) (thrL k h g l cd p kept f2 f3 f4) = some (S_c2b w os, thrL k h g l cd p kept f2 f3 f4) := by kernel_rfl
theorem p_1d3_f (w : World) (os : OsState) (k h g l cd p kept f2 f3 f4) : segGoT treeTable pw (w.withFollow "special-get-raises" false) 11 ann 1 100 (S_c2b w os) (thrL k h g l cd p kept f2 f3 f4) = some (S_c2c w os, thrL k h g l cd p kept f2 f3 f4) := by kernel_rfl
theorem p_1d3_t (w : World) (os : OsState) (k h g l cd p kept f2 f3 f4) : segGoT treeTable pw (w.withFollow "special-get-raises" true) 11 ann 1 100 (S_c2b w os) (thrL k h g l cd p kept f2 f3 f4) = some (S_c2c w os, thrL k h g l cd p kept f2 f3 f4) := by kernel_rfl
theorem p_1d4_f (w : World) (os : OsState) (k h g l cd p kept f2 f3 f4) : segGoT treeTable pw (w.withFollow "special-get-raises" false) 11 ann 1 120 (S_c2c w os) (thrL k h g l cd p kept f2 f3 f4) = some (S_c3 w os, thrL k h g l cd p kept f2 f3 f4) := by kernel_rfl
theorem p_1d4_t (w : World) (os : OsState) (k h g l cd p kept f2 f3 f4) : segGoT treeTable pw (w.withFollow "special-get-raises" true) 11 ann 1 120 (S_c2c w os) (thrL k h g l cd p kept f2 f3 f4) = some (S_c3 w os, thrL k h g l cd p kept f2 f3 f4) := by kernel_rfl
end Mine
end
section
open PySem PySem.W PyProof.Rows
set_option Elab.async false
set_option maxRecDepth 100000
namespace Mine
/-- the thread at the loop's head, as the run itself leaves it -/
noncomputable def thrX (w : World) (os : OsState) : Thread := ((segGoT treeTable pw (w.withFollow "special-get-raises" false) 11 ann 1 19 (S_b w os) (thr 1 pos_b)).getD (S_b w os, thr 1 pos_b)).2
theorem p_1a_f (w : World) (os : OsState) : segGoT treeTable pw (w.withFollow "special-get-raises" false) 11 ann 1 19 (S_b w os) (thr 1 pos_b) = some (S_c0 w os, thrX w os) := by kernel_rfl
theorem p_1a_t (w : World) (os : OsState) : segGoT treeTable pw (w.withFollow "special-get-raises" true) 11 ann 1 19 (S_b w os) (thr 1 pos_b) = some (S_c0 w os, thrX w os) := by kernel_rfl
def four : List Frame → Bool
  | [.ret .., _, _, _] => true
  | _ => false
theorem four_of : ∀ {l : List Frame}, four l = true → ∃ k h g lv cd p kept f2 f3 f4, l = [.ret k h g lv cd p kept, f2, f3, f4]
  | [.ret k h g lv cd p kept, f2, f3, f4], _ => ⟨k, h, g, lv, cd, p, kept, f2, f3, f4, rfl⟩
  | [], h => nomatch h
  | [.gen .., _, _, _], h => nomatch h
  | [_], h => by rename_i f; cases f <;> cases h
  | [_, _], h => by rename_i f _; cases f <;> cases h
  | [_, _, _], h => by rename_i f _ _; cases f <;> cases h
  | _ :: _ :: _ :: _ :: _ :: _, h => by rename_i f _ _ _ _ _; cases f <;> cases h
theorem thrX_four (w : World) (os : OsState) : four (thrX w os).stack = true := by kernel_rfl
theorem thrX_is (w : World) (os : OsState) : thrX w os = ⟨denote treeTable loopC, loopC, posL, (thrX w os).stack⟩ := by kernel_rfl
theorem thrX_L (w : World) (os : OsState) : ∃ k h g lv cd p kept f2 f3 f4, thrX w os = thrL k h g lv cd p kept f2 f3 f4 := by
  obtain ⟨k, h, g, lv, cd, p, kept, f2, f3, f4, e⟩ := four_of (thrX_four w os)
  exact ⟨k, h, g, lv, cd, p, kept, f2, f3, f4, (thrX_is w os).trans (by rw [e])⟩
theorem p_1e_f (w : World) (os : OsState) : segRunT treeTable pw (w.withFollow "special-get-raises" false) 11 ann 1 33 (S_c3 w os) (thrX w os) = some (.next, S_d0 w os, bcode, pos_d0) := by kernel_rfl
theorem p_1e_t (w : World) (os : OsState) : segRunT treeTable pw (w.withFollow "special-get-raises" true) 11 ann 1 33 (S_c3 w os) (thrX w os) = some (.next, S_d0 w os, bcode, pos_d0) := by kernel_rfl
end Mine
end
section
open PySem PySem.W PyProof.Rows
set_option Elab.async false
set_option maxRecDepth 100000
namespace Mine
noncomputable section
def q : Program := { pw with main := { pw.main with body := [stm 5] } }
abbrev loose : List Str := [Str.ofString "_ALWAYS_SAFE", Str.ofString "_Quoter", Str.ofString "_law_written"]
def K (P : Params) : Frag := [(nat_lit 2, boot_o_2 P), (nat_lit 3, o3_d4 P), (nat_lit 6, boot_o_6 P), (nat_lit 19, o19_d1 P), (nat_lit 26, o26_d1 P), (nat_lit 28, o28_d1 P), (nat_lit 29, o29_d1 P), (nat_lit 31, o31_d1 P), (nat_lit 32, o32_d1 P), (nat_lit 33, o33_d1 P), (nat_lit 35, o35_d1 P), (nat_lit 36, o36_d1 P), (nat_lit 38, o38_d1 P), (nat_lit 39, o39_d1 P), (nat_lit 40, o40_d1 P), (nat_lit 42, o42_d1 P), (nat_lit 43, o43_d1 P), (nat_lit 45, o45_d1 P), (nat_lit 46, o46_d1 P), (nat_lit 47, o47_d1 P), (nat_lit 48, o48_d1 P), (nat_lit 49, o49_d1 P), (nat_lit 50, o50_d1 P), (nat_lit 51, o51_d1 P), (nat_lit 54, o54_d3 P), (nat_lit 56, o56_d3 P), (nat_lit 57, o57_d3 P), (nat_lit 59, o59_d3 P), (nat_lit 60, o60_d3 P), (nat_lit 61, o61_d4 P), (nat_lit 64, o64_d4 P), (nat_lit 65, o65_d4 P)]
def as : List Addr := [2, 3, 6, 19, 26, 28, 29, 31, 32, 33, 35, 36, 38, 39, 40, 42, 43, 45, 46, 47, 48, 49, 50, 51, 54, 56, 57, 59, 60, 61, 64, 65]
theorem as_K : ∀ P, as = (K P).map (·.1) := fun _ => by kernel_rfl
def hook : Hook where
  α := List (Option Obj) × Option Obj
  obs := fun s => (as.map s.heap.get?, s.heap.get? 15)
  val := fun w => ((K w.params).map (fun p => some p.2), some (o15_c3 w.params))
  says := fun w h => InK K w h ∧ h.get? 15 = some (o15_c3 w.params)
  of := fun w s e => ⟨InK.of as_K w s (congrArg Prod.fst e), congrArg Prod.snd e⟩
  keeps := fun w h h' x k => ⟨InK.keeps w h h' x.1 k, k _ _ x.2⟩
abbrev Xt : Shared → Bool := fun s => xlAt q [] s && recOk [] s
def H1 (P : Params) : Heap := ⟨#[boot_o_0 P, boot_o_1 P, boot_o_2 P, o3_d4 P, boot_o_4 P, boot_o_5 P, boot_o_6 P, boot_o_7 P, boot_o_8 P, boot_o_9 P, boot_o_10 P, o11_a P, o12_d4 P, o13_a P, o14_a P, o15_c3 P, o16_d0 P, o17_d0 P, o18_d0 P, o19_d1 P, o20_d1 P, o21_d1 P, o22_d1 P, o23_d1 P, o24_d1 P, o25_d1 P, o26_d1 P, o27_d1 P, o28_d1 P, o29_d1 P, o30_d1 P, o31_d1 P, o32_d1 P, o33_d1 P, o34_d1 P, o35_d1 P, o36_d1 P, o37_d1 P, o38_d1 P, o39_d1 P, o40_d1 P, o41_d1 P, o42_d1 P, o43_d1 P, o44_d1 P, o45_d1 P, o46_d1 P, o47_d1 P, o48_d1 P, o49_d1 P, o50_d1 P, o51_d1 P, o52_d1 P, o53_d1 P, o54_d3 P, o55_d3 P, o56_d3 P, o57_d3 P, o58_d3 P, o59_d3 P, o60_d3 P, o61_d4 P, o62_d4 P, o63_d4 P, o64_d4 P, o65_d4 P], life⟩
theorem abs_d4 (P : Params) : absHeap (tree_d4 P) 66 life = H1 P := by kernel_rfl
end
end Mine
end
section
open PySem PySem.W PyProof.Rows
set_option Elab.async false
set_option maxRecDepth 100000
namespace Mine
theorem look0 (w : World) (os : OsState) : (staticsOk (importedModules pw.main.body) (boot_heap w.params) (H1 w.params) && namesBound pw (H1 w.params) && gensDone ⟨H1 w.params, #[], ⟨0,0,0,0⟩, 384, os⟩ && laidKept (boot_heap w.params) (H1 w.params)) = true := by kernel_rfl
theorem look1 (w : World) (os : OsState) : openSeen q loose (importedModules pw.main.body) Xt true ⟨H1 w.params, #[], ⟨0,0,0,0⟩, 384, os⟩ = openGood q loose := by kernel_rfl
theorem look2 (w : World) (os : OsState) : hook.obs ⟨H1 w.params, #[], ⟨0,0,0,0⟩, 384, os⟩ = hook.val w := by kernel_rfl
theorem size0 (w : World) : ((boot_heap w.params).isNs mainGlobals && (Array.mk [] : Array GenState).size == 0, (boot_heap w.params).objs.size, (boot_heap w.params).nsMap mainGlobals "__annotations__") = (true, 11, ann) := by kernel_rfl
end Mine
end
section
open PySem PySem.W PyProof.Rows
set_option Elab.async false
set_option maxRecDepth 100000
namespace Mine
theorem st_b (w : World) (b : Bool) (os : OsState) : S_b (w.withFollow "special-get-raises" b) os = S_b w os := by kernel_rfl
theorem st_d0 (w : World) (b : Bool) (os : OsState) : S_d0 (w.withFollow "special-get-raises" b) os = S_d0 w os := by kernel_rfl
theorem set_way (w v : World) (os : OsState) (a : segGoT treeTable pw v 11 ann 1 19 (S_b w os) (thr 1 pos_b) = some (S_c0 w os, thrX w os))
    (b : ∀ k h g l cd p kept f2 f3 f4, segGoT treeTable pw v 11 ann 1 444 (S_c0 w os) (thrL k h g l cd p kept f2 f3 f4) = some (S_c1 w os, thrL k h g l cd p kept f2 f3 f4))
    (c : ∀ k h g l cd p kept f2 f3 f4, segGoT treeTable pw v 11 ann 1 440 (S_c1 w os) (thrL k h g l cd p kept f2 f3 f4) = some (S_c2 w os, thrL k h g l cd p kept f2 f3 f4))
    (d1 : ∀ k h g l cd p kept f2 f3 f4, segGoT treeTable pw v 11 ann 1 120 (S_c2 w os) (thrL k h g l cd p kept f2 f3 f4) = some (S_c2a w os, thrL k h g l cd p kept f2 f3 f4))
    (d2 : ∀ k h g l cd p kept f2 f3 f4, segGoT treeTable pw v 11 ann 1 100 (S_c2a w os) (thrL k h g l cd p kept f2 f3 f4) = some (S_c2b w os, thrL k h g l cd p kept f2 f3 f4))
    (d3 : ∀ k h g l cd p kept f2 f3 f4, segGoT treeTable pw v 11 ann 1 100 (S_c2b w os) (thrL k h g l cd p kept f2 f3 f4) = some (S_c2c w os, thrL k h g l cd p kept f2 f3 f4))
    (d4 : ∀ k h g l cd p kept f2 f3 f4, segGoT treeTable pw v 11 ann 1 120 (S_c2c w os) (thrL k h g l cd p kept f2 f3 f4) = some (S_c3 w os, thrL k h g l cd p kept f2 f3 f4))
    (e : segRunT treeTable pw v 11 ann 1 33 (S_c3 w os) (thrX w os) = some (.next, S_d0 w os, bcode, pos_d0)) :
    segRun treeTable pw v 11 ann 1 1376 (S_b w os).abs (thr 1 pos_b) = some (.next, (S_d0 w os).abs, bcode, pos_d0) := by
  obtain ⟨k, h, g, lv, cd, p, kept, f2, f3, f4, eq⟩ := thrX_L w os
  rw [eq] at a e
  exact seg_go (n := 19) (N := 1357) (segGo_of a) (seg_go (n := 444) (N := 913) (segGo_of (b _ _ _ _ _ _ _ _ _ _)) (seg_go (n := 440) (N := 473) (segGo_of (c _ _ _ _ _ _ _ _ _ _)) (seg_go (n := 120) (N := 353) (segGo_of (d1 _ _ _ _ _ _ _ _ _ _)) (seg_go (n := 100) (N := 253) (segGo_of (d2 _ _ _ _ _ _ _ _ _ _)) (seg_go (n := 100) (N := 153) (segGo_of (d3 _ _ _ _ _ _ _ _ _ _)) (seg_go (n := 120) (N := 33) (segGo_of (d4 _ _ _ _ _ _ _ _ _ _)) (segRun_of e)))))))
theorem p_1 (w : World) : ∀ os : OsState, segRun treeTable pw w 11 ann 1 1376 (S_b w os).abs (thr 1 pos_b) = some (.next, (S_d0 w os).abs, bcode, pos_d0) :=
  byRow2 (P := fun w => ∀ os : OsState, segRun treeTable pw w 11 ann 1 1376 (S_b w os).abs (thr 1 pos_b) = some (.next, (S_d0 w os).abs, bcode, pos_d0)) "special-get-raises"
    (fun w os => by
      rw [st_b, st_d0]
      exact set_way w _ os (p_1a_f w os) (p_1b_f w os) (p_1c_f w os) (p_1d1_f w os) (p_1d2_f w os) (p_1d3_f w os) (p_1d4_f w os) (p_1e_f w os))
    (fun w os => by
      rw [st_b, st_d0]
      exact set_way w _ os (p_1a_t w os) (p_1b_t w os) (p_1c_t w os) (p_1d1_t w os) (p_1d2_t w os) (p_1d3_t w os) (p_1d4_t w os) (p_1e_t w os)) w
theorem body_is : behindTheImports pw = [stm 0] ++ ([stm 1] ++ ([stm 2] ++ ([stm 3] ++ ([stm 4] ++ ([stm 5] ++ []))))) := by kernel_rfl
theorem run (w : World) (os : OsState) : topRun treeTable pw w 11 ann (12 + (1 + (10 + (1376 + (291 + (10 + (31 + (27 + 2)))))))) ⟨boot_heap w.params, Array.mk [], boot_drawn, boot_toks, os⟩ (topStub pw) = some ⟨H1 w.params, #[], ⟨0, 0, 0, 0⟩, 384, os⟩ := by
  refine go_top (p_pre w os) ?_
  refine piece_block (p_block w os) ?_
  rw [show restOf (behindTheImports pw) env bcode pos_a [topFrame zpos] = restOf ([stm 0] ++ ([stm 1] ++ ([stm 2] ++ ([stm 3] ++ ([stm 4] ++ ([stm 5] ++ [])))))) env bcode pos_a [topFrame zpos] from by rw [body_is]]
  refine piece_app (segRun_of (p_0 w os)) ?_
  refine piece_app (p_1 w os) ?_
  refine piece_app (segRun_of (p_2 w os)) ?_
  refine piece_app (segRun_of (p_3 w os)) ?_
  refine piece_app (segRun_of (p_4 w os)) ?_
  refine piece_app (segRun_of (p_5 w os)) ?_
  refine piece_nil ((p_fin w os).trans ?_)
  show some (Shared.mk (absHeap (tree_d4 w.params) 66 life) _ _ _ _) = _
  rw [abs_d4]
  rfl
theorem open_is : ∀ w : World, (fencedOpening treeTable pw w 3604).map (fun s => (s.heap, s.gens, s.drawn, s.toks)) = some (boot_heap w.params, Array.mk [], boot_drawn, boot_toks) :=
  boot_open (by kernel_rfl) (by decide) (fun s => by kernel_rfl)
theorem left : LeftO pw q loose Xt hook.obs hook.val 3604 :=
  LeftO.of_pieces (H₀ := boot_heap) (H₁ := H1) (gs₀ := Array.mk []) (gs₁ := #[]) (d₀ := boot_drawn) (d₁ := ⟨0, 0, 0, 0⟩) (k₀ := boot_toks) (k₁ := 384) (m₀ := 11) (ann := ann) open_is size0 run (by decide)
    (fun w => funext fun os => Prod.ext (look0 w os) (Prod.ext (look1 w os) (look2 w os)))
end Mine
end
section
open PySem PySem.W PyProof.Rows
set_option Elab.async false
set_option maxRecDepth 100000
namespace Mine
abbrev rw_ : OpenLaw := PySem.Challenge.rw_dn0241_02
def lawD : DefRec := ⟨Str.ofString "law", lawP, lawB, lawS, ⟨20, 0, 66, 15⟩⟩
set_option maxHeartbeats 4000000 in
theorem holds_of (call : WalkO q loose (XL q []) hook.says rw_.row.toRowW lawD [] (fun f vs => PySem.call f vs)) : PySem.Challenge.rw_dn0241_02.Holds := by
  w_on
  o_law
  refine holds_open (q := q) (loose := loose) (Xt := Xt) (XP := XL q []) (Yf := hook.obs) (Ya := hook.val) (YP := hook.says) (d := lawD) (kwd := []) (N := 3604) left hook.of hook.keeps (fun s e => xl_of s (Bool.and_eq_true_iff.mp e).1) XL.keeps (by kernel_rfl) (by kernel_rfl) (by kernel_rfl) (fun s e => recFacts_of (Bool.and_eq_true_iff.mp e).2) (by rfl) (by first | assumption | decide +kernel) (by decide +kernel) ⟨rfl, rfl, rfl, rfl, rfl, by decide +kernel⟩ ?hw call
  exact ⟨[.list []], by decide +kernel, by decide +kernel⟩
end Mine
end
section
open PySem PySem.W PyProof.Rows PySem.Calls
set_option Elab.async false
namespace Mine
/-! SETS OF SMALL NUMBERS: the table, plain -/
theorem bits_small {h : Int} (h0 : 0 ≤ h) (h1 : h < 128) : SetTable.bits h = h.toNat := by
  unfold SetTable.bits
  rw [Int.emod_eq_of_lt h0 (by omega)]
theorem hashInt_small {k : Int} (h0 : 0 ≤ k) (h1 : k < 256) : hashInt k = k := by
  have e : ((k.natAbs : Nat) : Int) = k := by omega
  have hr : rawHash k = k := by
    unfold rawHash
    dsimp only
    rw [e, Int.emod_eq_of_lt h0 (Int.lt_trans h1 (by decide)), if_neg (show ¬ k < 0 by omega)]
    rw [if_neg (by rw [beq_iff_eq]; omega)]
  unfold hashInt
  rw [hr, if_neg (by rw [beq_iff_eq]; omega)]

theorem free_own {mask : Nat} {owner : Array (Option Nat)} {fuel i p : Nat} (h : owner.getD i (some 0) = none) : SetTable.layClean.free mask owner (fuel + 1) i p = some i := by
  unfold SetTable.layClean.free
  have e : SetTable.runEnd mask i + 1 - i = (SetTable.runEnd mask i - i) + 1 := by
    have : i ≤ SetTable.runEnd mask i := by unfold SetTable.runEnd; split <;> omega
    omega
  rw [e, List.range_succ_eq_map, List.find?_cons]
  simp [h]

/-- the place of a number among hashes -/
def idxIn (pre : List Int) (j : Nat) : Option Nat := pre.findIdx? fun x => x.toNat == j
theorem idxIn_none {pre : List Int} {j : Nat} (h : ∀ x ∈ pre, x.toNat ≠ j) : idxIn pre j = none :=
  List.findIdx?_eq_none_iff.mpr fun x hx => by simpa using h x hx
/-- the owners behind a list of hashes: each at its own slot -/
def Owns (mask : Nat) (owner : Array (Option Nat)) (pre : List Int) : Prop :=
  owner.size = mask + 1 ∧ ∀ j, j ≤ mask → owner[j]? = some (idxIn pre j)
theorem owns_snoc {mask : Nat} {owner : Array (Option Nat)} {pre : List Int} {h : Int} (O : Owns mask owner pre) (hm : 128 ≤ mask + 1) (h0 : 0 ≤ h) (h1 : h < 128) (hn : ∀ x ∈ pre, 0 ≤ x ∧ x ≠ h) :
    Owns mask (owner.setIfInBounds h.toNat (some pre.length)) (pre ++ [h]) := by
  refine ⟨by simp [O.1], fun j hj => ?_⟩
  rw [Array.getElem?_setIfInBounds]
  unfold idxIn
  rw [List.findIdx?_append]
  by_cases e : h.toNat = j
  · subst e
    have : idxIn pre h.toNat = none := idxIn_none fun x hx => by have := hn x hx; omega
    unfold idxIn at this
    rw [if_pos rfl, if_pos (by rw [O.1]; omega), this]
    simp
  · have q := O.2 j hj
    unfold idxIn at q
    rw [if_neg e, q]
    have : ([h] : List Int).findIdx? (fun x => x.toNat == j) = none := List.findIdx?_eq_none_iff.mpr (by simp; omega)
    rw [this]
    simp
def layStep (mask : Nat) (acc : Option (Array (Option Nat) × Nat)) (h : Int) : Option (Array (Option Nat) × Nat) := do
    let (owner, k) ← acc
    let j ← SetTable.layClean.free mask owner (SetTable.turns mask) (SetTable.bits h % (mask + 1)) (SetTable.bits h)
    pure (owner.setIfInBounds j (some k), k + 1)
theorem layClean_eq (mask : Nat) (hs : Array Int) : SetTable.layClean mask hs = (hs.toList.foldl (layStep mask) (some (Array.replicate (mask + 1) none, 0))).map (·.1) := by
  unfold SetTable.layClean
  rw [← Array.foldl_toList]
  rfl
theorem lay_fold {mask : Nat} (hm : 255 ≤ mask) : ∀ (hs pre : List Int) (owner : Array (Option Nat)), Owns mask owner pre → (∀ x ∈ pre ++ hs, 0 ≤ x ∧ x < 128) → (pre ++ hs).Nodup →
    ∃ owner', hs.foldl (layStep mask) (some (owner, pre.length)) = some (owner', (pre ++ hs).length) ∧ Owns mask owner' (pre ++ hs)
  | [], pre, owner, O, _, _ => ⟨owner, by simp, by simpa using O⟩
  | h :: hs, pre, owner, O, hr, hn => by
    have hh := hr h (by simp)
    have hpre : ∀ x ∈ pre, 0 ≤ x ∧ x ≠ h := fun x hx => ⟨(hr x (by simp [hx])).1, fun e => by
      have := (List.nodup_append.mp hn).2.2 x hx h (by simp)
      exact this e⟩
    have hb : SetTable.bits h = h.toNat := bits_small hh.1 hh.2
    have hmod : h.toNat % (mask + 1) = h.toNat := Nat.mod_eq_of_lt (by omega)
    have hfree : owner.getD h.toNat (some 0) = none := by
      have q := O.2 h.toNat (by omega)
      rw [idxIn_none (fun x hx => by have := hpre x hx; omega)] at q
      simp [Array.getD_eq_getD_getElem?, q]
    have hstep : layStep mask (some (owner, pre.length)) h = some (owner.setIfInBounds h.toNat (some pre.length), pre.length + 1) := by
      unfold layStep
      rw [hb, hmod]
      show (SetTable.layClean.free mask owner (mask + 14 + 1) h.toNat h.toNat).bind _ = _
      rw [free_own hfree]
      rfl
    have O' := owns_snoc O (by omega) hh.1 hh.2 hpre
    obtain ⟨owner', e, O''⟩ := lay_fold hm hs (pre ++ [h]) _ O' (by simpa using hr) (by simpa using hn)
    refine ⟨owner', ?_, by simpa using O''⟩
    rw [List.foldl_cons, hstep]
    have : (pre ++ [h]).length = pre.length + 1 := by simp
    rw [this] at e
    rw [e]
    simp
theorem owns_new (mask : Nat) : Owns mask (Array.replicate (mask + 1) none) [] := ⟨by simp, fun j hj => by
  rw [Array.getElem?_replicate, if_pos (by omega)]; rfl⟩

theorem idxIn_some {l : List Int} {j i : Nat} (h : idxIn l j = some i) : ∃ hi : i < l.length, l[i].toNat = j := by
  obtain ⟨hi, hp, _⟩ := List.findIdx?_eq_some_iff_getElem.mp h
  exact ⟨hi, by simpa using hp⟩
theorem idxIn_of {l : List Int} (hr : ∀ x ∈ l, 0 ≤ x) (hn : l.Nodup) {i : Nat} (hi : i < l.length) : idxIn l l[i].toNat = some i := by
  cases e : idxIn l l[i].toNat with
  | none =>
    have := List.findIdx?_eq_none_iff.mp e l[i] (List.getElem_mem hi)
    simp at this
  | some j =>
    obtain ⟨hj, q⟩ := idxIn_some e
    have h1 := hr _ (List.getElem_mem hi)
    have h2 := hr _ (List.getElem_mem hj)
    have : l[j] = l[i] := by omega
    rw [(List.getElem_inj hn).mp this]

theorem fm_congr {α β : Type} {f g : α → Option β} : ∀ {l : List α}, (∀ a ∈ l, f a = g a) → l.filterMap f = l.filterMap g
  | [], _ => rfl
  | a :: l, h => by
    rw [List.filterMap_cons, List.filterMap_cons, h a (.head _), fm_congr fun b hb => h b (.tail _ hb)]
theorem laid_ok {mask finger moves : Nat} {led plain : Bool} {hs : Array Int} (hm : 255 ≤ mask) (hr : ∀ x ∈ hs.toList, 0 ≤ x ∧ x < 128) (hn : hs.toList.Nodup) :
    ∃ t order, SetTable.laid mask finger moves led plain hs = some (t, order) ∧ t.mask = mask ∧ t.dummies = #[] ∧ t.led = led ∧ t.place.size = hs.size ∧ List.Perm order.toList (List.range hs.size) := by
  obtain ⟨owner, e, O⟩ := lay_fold hm hs.toList [] _ (owns_new mask) (by simpa using hr) (by simpa using hn)
  have hc : SetTable.layClean mask hs = some owner := by
    rw [layClean_eq]
    have : ([] : List Int).length = 0 := rfl
    rw [this] at e
    rw [e]
    rfl
  have O' : Owns mask owner hs.toList := by simpa using O
  let live := (List.range (mask + 1)).filterMap fun j => (owner.getD j none).map (j, ·)
  have hlive : live = (List.range (mask + 1)).filterMap fun j => (idxIn hs.toList j).map (j, ·) := by
    refine fm_congr fun j hj => ?_
    have : j ≤ mask := by have := List.mem_range.mp hj; omega
    rw [Array.getD_eq_getD_getElem?, O'.2 j this]
    rfl
  have hperm : List.Perm (live.map (·.2)) (List.range hs.size) := by
    refine (List.perm_ext_iff_of_nodup ?_ List.nodup_range).mpr fun i => ?_
    · rw [hlive]
      refine List.pairwise_map.mpr ?_
      refine List.Pairwise.filterMap (R := fun a b => a ≠ b) _ ?_ List.nodup_range
      intro a b hab x hx y hy
      obtain ⟨i, hi, rfl⟩ := Option.map_eq_some_iff.mp hx
      obtain ⟨j, hj, rfl⟩ := Option.map_eq_some_iff.mp hy
      intro (q : i = j)
      subst q
      obtain ⟨h1, q1⟩ := idxIn_some hi
      obtain ⟨h2, q2⟩ := idxIn_some hj
      exact hab (q1.symm.trans q2)
    · rw [hlive, List.mem_map, List.mem_range]
      constructor
      · rintro ⟨⟨j, i'⟩, hx, rfl⟩
        obtain ⟨j', _, hj'⟩ := List.mem_filterMap.mp hx
        obtain ⟨k, hk, e'⟩ := Option.map_eq_some_iff.mp hj'
        cases e'
        obtain ⟨hi, _⟩ := idxIn_some hk
        simpa using hi
      · intro hi
        have hi' : i < hs.toList.length := by simpa using hi
        have hx := hr _ (List.getElem_mem hi')
        refine ⟨(hs.toList[i].toNat, i), List.mem_filterMap.mpr ⟨hs.toList[i].toNat, List.mem_range.mpr (by omega), ?_⟩, rfl⟩
        rw [idxIn_of (fun x hx => (hr x hx).1) hn hi']
        rfl
  refine ⟨{ mask, place := (live.map (·.1)).toArray, dummies := #[], finger, led, moves, plain }, (live.map (·.2)).toArray, ?_, rfl, rfl, rfl, ?_, hperm⟩
  · unfold SetTable.laid
    rw [hc]
    rfl
  · have := hperm.length_eq
    simpa using this
end Mine
end
section
open PySem PySem.W PyProof.Rows PySem.Calls
set_option Elab.async false
set_option linter.unusedVariables false
namespace Mine
def ledOf (w : World) : Bool := !w.params.followText "set-order"
/-- entries and table of a set of numbers below 128, as this world's sets are made -/
structure FsOk (w : World) (S : Int → Bool) (n : Nat) (es : Array (Int × Value)) (t : SetTable) : Prop where
  els : ∀ e ∈ es.toList, (∃ tok, e.2 = .int e.1 tok) ∧ 0 ≤ e.1 ∧ e.1 < 128
  nodup : (es.toList.map (·.1)).Nodup
  mem : ∀ k, S k = true ↔ k ∈ es.toList.map (·.1)
  fits : t.fits es.size = true
  led : t.led = ledOf w
  size : es.size = n
abbrev fsObj (es : Array (Int × Value)) (ep : Nat) (t : SetTable) : Obj := ⟨.type "frozenset", none, .set es ep t, #[]⟩
def FsAt (w : World) (h : Heap) (a : Addr) (S : Int → Bool) (n : Nat) : Prop := ∃ es ep t, h.get? a = some (fsObj es ep t) ∧ FsOk w S n es t
theorem FsAt.at {w : World} {h h' : Heap} {a : Addr} {S : Int → Bool} {n : Nat} (x : FsAt w h a S n) (k : ∀ o, h.get? a = some o → h'.get? a = some o) : FsAt w h' a S n :=
  let ⟨es, ep, t, ho, r⟩ := x; ⟨es, ep, t, k _ ho, r⟩
theorem FsAt.congr {w : World} {h : Heap} {a : Addr} {S S' : Int → Bool} {n : Nat} (x : FsAt w h a S n) (e : ∀ k, S k = S' k) : FsAt w h a S' n := by
  obtain rfl : S = S' := funext e
  exact x
section
variable {w : World} {S : Int → Bool} {n : Nat} {es : Array (Int × Value)} {t : SetTable}
theorem FsOk.le (x : FsOk w S n es t) : n ≤ 128 := by
  have h1 : ((es.toList.map (·.1)).map Int.toNat).Nodup := by
    refine List.pairwise_map.mpr ((List.Pairwise.and_mem.mp x.nodup).imp ?_)
    rintro a b ⟨ha, hb, hne⟩ q
    obtain ⟨e, he, rfl⟩ := List.mem_map.mp ha
    obtain ⟨e', he', rfl⟩ := List.mem_map.mp hb
    have := (x.els e he).2
    have := (x.els e' he').2
    exact hne (by omega)
  have h2 : ((es.toList.map (·.1)).map Int.toNat) ⊆ List.range 128 := by
    intro j hj
    obtain ⟨k, hk, rfl⟩ := List.mem_map.mp hj
    obtain ⟨e, he, rfl⟩ := List.mem_map.mp hk
    have := (x.els e he).2
    exact List.mem_range.mpr (by omega)
  have := h1.length_le_of_subset h2
  simp at this
  rw [← x.size]; exact this
theorem FsOk.bound (x : FsOk w S n es t) : es.size < scanBound := by have := x.le; rw [x.size]; show n < 4096; omega
theorem FsOk.elems (prog : Program) (x : FsOk w S n es t) : ElemsOf (intKind prog w) es.toList := fun e he => by
  obtain ⟨⟨tok, h1⟩, h2, h3⟩ := x.els e he
  rw [h1]
  exact ⟨⟨e.1, intKind_is _ _ _ _, (hashInt_small h2 (by omega)).symm⟩, rfl⟩
theorem FsOk.memKind (prog : Program) (x : FsOk w S n es t) (k : Int) : S k = true ↔ ∃ e ∈ es.toList, (intKind prog w).is k e.2 = true := by
  rw [x.mem k, List.mem_map]
  constructor
  · rintro ⟨e, he, rfl⟩
    obtain ⟨⟨tok, h1⟩, _⟩ := x.els e he
    exact ⟨e, he, by rw [h1]; exact intKind_is _ _ _ _⟩
  · rintro ⟨e, he, hk⟩
    obtain ⟨⟨tok, h1⟩, _⟩ := x.els e he
    rw [h1] at hk
    exact ⟨e, he, ((intKind prog w).inj _ _ _ (intKind_is prog w e.1 tok) hk)⟩
theorem FsOk.range (x : FsOk w S n es t) {k : Int} (h : S k = true) : 0 ≤ k ∧ k < 128 := by
  obtain ⟨e, he, rfl⟩ := List.mem_map.mp ((x.mem k).mp h)
  exact (x.els e he).2
theorem FsOk.congr (x : FsOk w S n es t) {S' : Int → Bool} (e : ∀ k, S k = S' k) : FsOk w S' n es t := by
  obtain rfl : S = S' := funext e
  exact x
theorem FsOk.perm (x : FsOk w S n es t) {es' : Array (Int × Value)} {t' : SetTable} (p : List.Perm es'.toList es.toList) (hf : t'.fits es'.size = true) (hl : t'.led = t.led) : FsOk w S n es' t' where
  els := fun e he => x.els e (p.mem_iff.mp he)
  nodup := ((p.map _).nodup_iff).mpr x.nodup
  mem := fun k => (x.mem k).trans (p.map _).mem_iff.symm
  fits := hf
  led := hl.trans x.led
  size := by rw [← x.size, ← Array.length_toList, p.length_eq, Array.length_toList]
theorem FsOk.turn (x : FsOk w S n es t) {t' : SetTable} (hp : t'.place = t.place) (hd : t'.dummies = t.dummies) (hm : t'.mask = t.mask) (hl : t'.led = t.led) : FsOk w S n es t' := by
  refine x.perm .rfl ?_ hl
  have := x.fits
  unfold SetTable.fits SetTable.fill at this ⊢
  rw [hp, hd, hm]; exact this
theorem FsOk.snoc (x : FsOk w S n es t) {es' : Array (Int × Value)} {t' : SetTable} {k : Int} {tok : Tok} (h0 : 0 ≤ k) (h1 : k < 128) (hk : S k = false) (p : List.Perm es'.toList (es.toList ++ [(k, .int k tok)])) (hf : t'.fits es'.size = true) (hl : t'.led = t.led) :
    FsOk w (fun j => S j || decide (j = k)) (n + 1) es' t' where
  els := fun e he => by
    rcases List.mem_append.mp (p.mem_iff.mp he) with h | h
    · exact x.els e h
    · obtain rfl := List.mem_singleton.mp h
      exact ⟨⟨tok, rfl⟩, h0, h1⟩
  nodup := by
    refine ((p.map _).nodup_iff).mpr ?_
    rw [List.map_append, List.nodup_append]
    refine ⟨x.nodup, by simp, fun a ha b hb e => ?_⟩
    obtain rfl : b = k := by simpa using hb
    subst e
    rw [(x.mem a).mpr ha] at hk
    cases hk
  mem := fun j => by
    rw [(p.map _).mem_iff, List.map_append, List.mem_append, ← x.mem j]
    simp
  fits := hf
  led := hl.trans x.led
  size := by
    rw [← x.size, ← Array.length_toList, p.length_eq, List.length_append, Array.length_toList]; rfl
end
theorem layNew_led (t : SetTable) (es : Array (Int × Value)) (h : Int) (x : Value) : (layNew t es h x).2.1.led = t.led := by
  unfold layNew
  split
  · dsimp only
    unfold SetTable.orStandIn
    split <;> rfl
  · rfl
theorem relayAll_led (t : SetTable) (es : Array (Int × Value)) (wanted : Nat) : (relayAll t es wanted).2.1.led = t.led := by
  unfold relayAll
  split
  · rename_i t' order e
    dsimp only
    split
    · unfold SetTable.relaid SetTable.laid at e
      obtain ⟨_, _, e⟩ := Option.bind_eq_some_iff.mp e
      cases e
      rfl
    · rfl
  · rfl

section
variable {prog : Program} {w : World} {A : Around} {E : Value → Shared → Prop} {s : Shared} {a : Addr} {S : Int → Bool} {n : Nat}
theorem fsObj_put {es es' : Array (Int × Value)} {ep : Nat} {t t' : SetTable} {h : Heap} (ho : h.get? a = some (fsObj es ep t)) : (h.update a (Obj.putSet es' t')).get? a = some (fsObj es' (ep + 1) t') :=
  Heap.get?_update_self (Obj.putSet es' t') ho rfl
/-- storing entries and table -/
theorem fs_store {es es' : Array (Int × Value)} {ep : Nat} {t t' : SetTable} {Q : Unit → Shared → Prop} (ho : s.heap.get? a = some (fsObj es ep t)) (hz : es'.size ≤ 4096)
    (h : ∀ h', Heap.SameBut a s.heap h' → h'.get? a = some (fsObj es' (ep + 1) t') → Q () { s with heap := h' }) : wpAny (model prog w) A (storeSet a es' t') Q E s :=
  wpAny_storeSet_of ho rfl (h _ (Heap.SameBut.update ..) (fsObj_put ho)) (by rw [sizeLine_eq]; omega)

theorem fs_add {k : Int} {tok : Tok} {Q : Bool → Shared → Prop} (hS : FsAt w s.heap a S n) (h0 : 0 ≤ k) (h1 : k < 128)
    (h : ∀ h' n', Heap.SameBut a s.heap h' → FsAt w h' a (fun j => S j || decide (j = k)) n' → n ≤ n' → Q (!S k) { s with heap := h' }) :
    wpAny (model prog w) A (setAddHashed a (.int k tok) k) Q E s := by
  obtain ⟨es, ep, t, ho, x⟩ := hS
  have hh : hashInt k = k := hashInt_small h0 (by omega)
  have hel := x.elems prog
  have hle := x.le
  unfold setAddHashed setAddHashedIn
  refine wpAny_holding (wpAny_bind (wpAny_setState_of ho rfl x.fits ?_))
  dsimp only
  rw [byScan_of (x := .int k tok) rfl x.bound hel]
  simp only [↓reduceIte]
  unfold setAddByScan
  refine wpAny_bind (wpAny_bind (wpAny_rule (wpAny_bind ?_)))
  have scan := fun Q' => @wpAny_setScan_of prog w Int _ (intKind prog w) A E s a _ es ep t (.int k tok) k true Q' (intKind_is _ _ _ _) ho rfl x.fits hel
  rw [show (intKind prog w).hash k = k from hh] at scan
  refine scan _ ?_
  cases hr : List.findIdx? (fun e => (intKind prog w).is k e.2) es.toList with
  | some j =>
    dsimp only
    obtain ⟨hj, hpj, _⟩ := List.findIdx?_eq_some_iff_getElem.mp hr
    have hSk : S k = true := (x.memKind prog k).mpr ⟨es.toList[j], List.getElem_mem hj, hpj⟩
    refine wpAny_pure (wpAny_pure ?_)
    have same : ∀ j, S j = (S j || decide (j = k)) := fun j => by
      by_cases e : j = k
      · subst e; rw [hSk]; rfl
      · rw [decide_eq_false e, Bool.or_false]
    have := h s.heap n (.refl _ _) ⟨es, ep, t, ho, x.congr same⟩ (Nat.le_refl _)
    rw [hSk] at this
    exact this
  | none =>
    dsimp only
    have hSk : S k = false := by
      cases hk : S k with
      | false => rfl
      | true =>
        obtain ⟨e, he, hp⟩ := (x.memKind prog k).mp hk
        have := List.findIdx?_eq_none_iff.mp hr e he
        rw [hp] at this; cases this
    have hperm := layNew_perm t es k (.int k tok)
    have hfits := layNew_fits t es k (.int k tok)
    have hled := layNew_led t es k (.int k tok)
    generalize hL : layNew t es k (.int k tok) = L at hperm hfits hled ⊢
    obtain ⟨es1, t1, wasDummy, gave⟩ := L
    dsimp only at hperm hfits hled ⊢
    rw [Array.toList_push] at hperm
    have x1 := x.snoc h0 h1 hSk hperm hfits hled
    have hz1 : es1.size ≤ 4096 := by rw [x1.size]; omega
    have gw : ∀ (b : Bool) (X : Sem PUnit) {s₁ : Shared} {Q' : PUnit → Shared → Prop}, (∀ Q' s₁, Q' ⟨⟩ s₁ → wpAny (model prog w) A X Q' E s₁) → Q' ⟨⟩ s₁ → wpAny (model prog w) A (match b with | true => X | false => pure ⟨⟩) Q' E s₁ :=
      fun b X s₁ Q' hX hq => by cases b <;> first | exact wpAny_pure hq | exact hX _ _ hq
    have fin : ∀ (h' : Heap) n', Heap.SameBut a s.heap h' → FsAt w h' a (fun j => S j || decide (j = k)) n' → n ≤ n' → Q true { s with heap := h' } := fun h' n' a b c => by
      have := h h' n' a b c
      rw [hSk] at this; exact this
    have x3 := x1.perm (relayAll_perm t1 es1 (SetTable.grown es1.size)) (relayAll_fits t1 es1 (SetTable.grown es1.size)) (relayAll_led t1 es1 (SetTable.grown es1.size))
    refine wpAny_bind (gw _ _ (fun _ _ => wpAny_rule) ?_)
    split
    case' isTrue =>
      refine wpAny_bind ?_
      rw [hashByValue_scannable 8 (x := .int k tok) rfl]
      refine wpAny_pure ?_
    case' isFalse => refine wpAny_bind (wpAny_pure ?_)
    all_goals
      simp only [show plainKind (Value.int k tok) = true from rfl, if_true]
      refine wpAny_bind (fs_store ho hz1 fun h1' sb1 g1 => ?_)
      split
      · refine wpAny_bind (gw _ _ (fun _ _ => wpAny_rule) ?_)
        refine wpAny_bind (fs_store g1 (by exact (show _ ≤ 4096 from by rw [x3.size]; omega)) fun h2' sb2 g2 => ?_)
        exact wpAny_pure (wpAny_pure (fin h2' _ (sb1.trans sb2) ⟨_, _, _, g2, x3⟩ (Nat.le_succ _)))
      · exact wpAny_pure (wpAny_pure (fin h1' _ sb1 ⟨_, _, _, g1, x1⟩ (Nat.le_succ _)))
end
end Mine
end
section
open PySem PySem.W PyProof.Rows PySem.Calls
set_option Elab.async false
set_option linter.unusedVariables false
set_option maxRecDepth 100000
namespace Mine
section
variable {prog : Program} {w : World} {A : Around} {E : Value → Shared → Prop} {s : Shared} {a : Addr} {S : Int → Bool} {n : Nat} {es : Array (Int × Value)} {ep : Nat} {t : SetTable}
theorem fs_type (ho : s.heap.get? a = some (fsObj es ep t)) : s.TypeIs (.ref a) "frozenset" := ⟨_, ho, rfl⟩
theorem fs_new {Q : Value → Shared → Prop} (h : Q (.ref s.heap.objs.size) { s with heap := s.heap.push (fsObj #[] 0 (.fresh 0 0 (ledOf w))) }) : wpAny (model prog w) A (newSet (.type "frozenset")) Q E s := by
  unfold newSet setsByText
  refine wpAny_bind (wpAny_bind (wpAny_askSetting (wpAny_pure ?_)))
  dsimp only
  simp only [newObj]
  refine wpAny_bind (wpAny_alloc (wpAny_pure ?_))
  exact h
theorem fs_base {Q : Value → Shared → Prop} (ho : s.heap.get? a = some (fsObj es ep t)) (h : Q (.type "frozenset") s) : wpAny (model prog w) A (Builtin.Frozenset.baseOf a) Q E s := by
  unfold Builtin.Frozenset.baseOf
  refine wpAny_bind (wpAny_isInstance (fs_type ho) PySem.F.sub_frozenset_set ?_)
  exact wpAny_pure h
theorem fs_isAny {Q : Bool → Shared → Prop} (ho : s.heap.get? a = some (fsObj es ep t)) (h : Q true s) : wpAny (model prog w) A (Builtin.Frozenset.isAnySet (.ref a)) Q E s := by
  unfold Builtin.Frozenset.isAnySet
  refine wpAny_bind (wpAny_isInstance (fs_type ho) PySem.F.sub_frozenset_set ?_)
  exact wpAny_isInstance (fs_type ho) PySem.F.sub_frozenset_frozenset h

theorem fs_find {k : Int} {tok : Tok} {Q : Option Nat → Shared → Prop} (ho : s.heap.get? a = some (fsObj es ep t)) (x : FsOk w S n es t) (h0 : 0 ≤ k) (h1 : k < 256)
    (h : Q (es.toList.findIdx? fun e => e.1 == k) s) : wpAny (model prog w) A (setFind a (.int k tok) k) Q E s := by
  have hh : hashInt k = k := hashInt_small h0 h1
  have hel := x.elems prog
  unfold setFind setFindIn
  refine wpAny_bind (wpAny_setState_of ho rfl x.fits ?_)
  dsimp only
  rw [byScan_of (x := .int k tok) rfl x.bound hel]
  simp only [↓reduceIte]
  refine wpAny_bind (wpAny_rule (wpAny_bind ?_))
  have scan := fun Q' => @wpAny_setScan_of prog w Int _ (intKind prog w) A E s a _ es ep t (.int k tok) k false Q' (intKind_is _ _ _ _) ho rfl x.fits hel
  rw [show (intKind prog w).hash k = k from hh] at scan
  refine scan _ ?_
  have same : es.toList.findIdx? (fun e => (intKind prog w).is k e.2) = es.toList.findIdx? (fun e => e.1 == k) := by
    have : ∀ l : List (Int × Value), (∀ e ∈ l, ∃ tok, e.2 = .int e.1 tok) → l.findIdx? (fun e => (intKind prog w).is k e.2) = l.findIdx? (fun e => e.1 == k) := by
      intro l
      induction l with
      | nil => intro _; rfl
      | cons e l ih =>
        intro hl
        obtain ⟨tk, q⟩ := hl e (.head _)
        rw [List.findIdx?_cons, List.findIdx?_cons, ih fun e he => hl e (.tail _ he)]
        have : (intKind prog w).is k e.2 = (e.1 == k) := by
          rw [q]
          show Value.isInt k (.int e.1 tk) = _
          simp [Value.isInt]
        rw [this]
    exact this _ fun e he => (x.els e he).1
  rw [same]
  cases hr : es.toList.findIdx? (fun e => e.1 == k) with
  | none => rw [hr] at h; exact wpAny_pure h
  | some j => rw [hr] at h; simp only [Nat.zero_add]; exact wpAny_pure h
theorem find_some (x : FsOk w S n es t) (k : Int) : (es.toList.findIdx? fun e => e.1 == k).isSome = S k := by
  cases hr : es.toList.findIdx? (fun e => e.1 == k) with
  | none =>
    cases hk : S k with
    | false => rfl
    | true =>
      obtain ⟨e, he, q⟩ := List.mem_map.mp ((x.mem k).mp hk)
      have := List.findIdx?_eq_none_iff.mp hr e he
      rw [q] at this; simp at this
  | some j =>
    obtain ⟨hj, hp, _⟩ := List.findIdx?_eq_some_iff_getElem.mp hr
    symm
    exact (x.mem k).mpr (List.mem_map.mpr ⟨_, List.getElem_mem hj, by simpa using hp⟩)
end
end Mine
end
section
open PySem PySem.W PyProof.Rows PySem.Calls
set_option Elab.async false
set_option linter.unusedVariables false
set_option maxRecDepth 100000
namespace Mine
theorem sizeAbove_is : ∀ m : Fin 512, 128 ≤ m.val → SetTable.sizeAbove m.val = 256 ∨ SetTable.sizeAbove m.val = 512 := by decide +kernel
theorem sizeAbove_at {m : Nat} (h0 : 128 ≤ m) (h1 : m < 512) : SetTable.sizeAbove m = 256 ∨ SetTable.sizeAbove m = 512 := sizeAbove_is ⟨m, h1⟩ h0
section
variable {prog : Program} {w : World} {A : Around} {E : Value → Shared → Prop} {s : Shared} {a : Addr} {S : Int → Bool} {n : Nat} {es : Array (Int × Value)} {ep : Nat} {t : SetTable}
/-- a table whose dummies are none and whose mask is wide -/
structure Wide (t : SetTable) : Prop where
  dum : t.dummies = #[]
  mask : 255 ≤ t.mask
theorem map_fst (es : Array (Int × Value)) : (es.map (·.1)).toList = es.toList.map (·.1) := by simp
theorem laid_fs {mask finger moves : Nat} {led plain : Bool} (hm : 255 ≤ mask) (x : FsOk w S n es t) (hl : led = ledOf w) :
    ∃ t' order, SetTable.laid mask finger moves led plain (es.map (·.1)) = some (t', order) ∧ (order.filterMap (es[·]?)).size = es.size ∧ FsOk w S n (order.filterMap (es[·]?)) t' ∧ Wide t' := by
  obtain ⟨t', order, e, h1, h2, h3, h4, p⟩ := laid_ok (mask := mask) (finger := finger) (moves := moves) (led := led) (plain := plain) (hs := es.map (·.1)) hm
    (fun k hk => by rw [map_fst] at hk; obtain ⟨e, he, rfl⟩ := List.mem_map.mp hk; exact (x.els e he).2) (by rw [map_fst]; exact x.nodup)
  have hsz : (es.map (·.1)).size = es.size := by simp
  rw [hsz] at h4 p
  have pp : List.Perm (order.filterMap (es[·]?)).toList es.toList := by
    rw [Array.toList_filterMap]
    exact (p.filterMap _).trans (by rw [filterMap_getElem?_range])
  have hs : (order.filterMap (es[·]?)).size = es.size := by rw [← Array.length_toList, pp.length_eq, Array.length_toList]
  refine ⟨t', order, e, hs, ?_, ⟨h2, h1 ▸ hm⟩⟩
  have := x.le
  have hx := x.size
  refine (x.perm (t' := { t' with led := t.led }) pp ?_ rfl).turn rfl rfl rfl (by rw [h3, hl, x.led])
  unfold SetTable.fits SetTable.fill
  dsimp only
  rw [h4, h2, hs, h1]
  simp
  omega
theorem fs_reorder {mask finger moves : Nat} {led plain : Bool} {Q : Array (Int × Value) × SetTable → Shared → Prop} (f : Option (SetTable × Array Nat) → Sem (Array (Int × Value) × SetTable))
    (hf : ∀ t' order, f (some (t', order)) = (do
        if (order.filterMap (es[·]?)).size != es.size then unsupported "internal:set-table-lost-an-element"
        pure (order.filterMap (es[·]?), t'))) (hm : 255 ≤ mask) (x : FsOk w S n es t) (hl : led = ledOf w)
    (h : ∀ es' t', FsOk w S n es' t' → Wide t' → Q (es', t') s) : wpAny (model prog w) A (f (SetTable.laid mask finger moves led plain (es.map (·.1)))) Q E s := by
  obtain ⟨t', order, e, hs, x', W⟩ := laid_fs (mask := mask) (finger := finger) (moves := moves) (led := led) (plain := plain) hm x hl
  rw [e, hf, hs]
  simp only [bne_self_eq_false, Bool.false_eq_true, ↓reduceIte]
  exact wpAny_pure (h _ _ x' W)
theorem fs_relay {wanted : Nat} {Q : Unit → Shared → Prop} (ho : s.heap.get? a = some (fsObj es ep t)) (x : FsOk w S n es t) (h0 : 128 ≤ wanted) (h1 : wanted < 512)
    (h : ∀ h' es' t', Heap.SameBut a s.heap h' → h'.get? a = some (fsObj es' (ep + 1) t') → FsOk w S n es' t' → Wide t' → Q () { s with heap := h' }) : wpAny (model prog w) A (setRelay a wanted) Q E s := by
  have hsa := sizeAbove_at h0 h1
  unfold setRelay
  refine wpAny_bind (wpAny_setState_of ho rfl x.fits ?_)
  dsimp only
  rw [if_neg (by rw [sizeLine_eq]; omega)]
  refine wpAny_bind ?_
  refine fs_reorder (mask := SetTable.sizeAbove wanted - 1) (finger := t.finger) (moves := t.movedTo (SetTable.sizeAbove wanted - 1)) (led := t.led) (plain := t.plain) (es := es) _ (fun _ _ => rfl) (by omega) x x.led fun es' t' x' W => ?_
  · dsimp only
    exact fs_store ho (by have := x'.le; rw [x'.size]; omega) fun h' sb g => h h' es' t' sb g x' W
end
end Mine
end
section
open PySem PySem.W PyProof.Rows PySem.Calls
set_option Elab.async false
set_option linter.unusedVariables false
set_option maxRecDepth 100000
namespace Mine
section
variable {prog : Program} {w : World} {A : Around} {E : Value → Shared → Prop} {s : Shared} {a : Addr} {S : Int → Bool} {n : Nat} {es : Array (Int × Value)} {ep : Nat} {t : SetTable}
theorem fs_empty (w : World) : FsOk w (fun _ => false) 0 #[] (.fresh 0 0 (ledOf w)) where
  els := fun e he => by simp at he
  nodup := by simp
  mem := fun k => by simp
  fits := rfl
  led := rfl
  size := rfl
theorem fs_merge_fresh {r : Addr} {each : Sem Unit} {Q : Unit → Shared → Prop} (ho : s.heap.get? a = some (fsObj es ep t)) (x : FsOk w S n es t) (hn : 64 ≤ n) (hr : s.heap.get? r = some (fsObj #[] 0 (.fresh 0 0 (ledOf w)))) (hne : r ≠ a)
    (h : ∀ h' es' ep' t', Heap.SameBut r s.heap h' → h'.get? r = some (fsObj es' ep' t') → FsOk w S n es' t' → Wide t' → Q () { s with heap := h' }) : wpAny (model prog w) A (setMerge r a each) Q E s := by
  have hle := x.le
  unfold setMerge
  rw [if_neg (by simpa using hne)]
  refine wpAny_bind (wpAny_setState_of ho rfl x.fits ?_)
  dsimp only
  rw [if_neg (by rw [Array.isEmpty_iff_size_eq_zero, x.size]; omega)]
  refine wpAny_bind ?_
  unfold setRoomFor
  refine wpAny_bind (wpAny_setState_of hr rfl (fs_empty w).fits ?_)
  have hroom : (SetTable.fresh 0 0 (ledOf w)).roomFor es.size = some (n * 2) := by
    unfold SetTable.roomFor SetTable.fresh SetTable.fill
    dsimp only
    rw [x.size]
    simp only [List.size_toArray, List.length_nil, Nat.zero_add, Nat.add_zero]
    rw [if_pos (by omega)]
  dsimp only
  rw [hroom]
  dsimp only
  refine fs_relay hr (fs_empty w) (by omega) (by omega) fun h₁ es₁ t₁ sb₁ g₁ x₁ W₁ => ?_
  have ha₁ : h₁.get? a = some (fsObj es ep t) := (sb₁.2 a (Ne.symm hne)).trans ho
  refine wpAny_bind (wpAny_setState_of (s := { s with heap := h₁ }) g₁ rfl x₁.fits ?_)
  have hfill : t₁.fill = 0 := by
    have := x₁.fits
    unfold SetTable.fits at this
    simp only [Bool.and_eq_true, beq_iff_eq] at this
    unfold SetTable.fill
    rw [this.1, W₁.dum, x₁.size]; rfl
  have hled : (t₁.led && t.led) = ledOf w := by rw [x₁.led, x.led, Bool.and_self]
  dsimp only
  unfold SetTable.road
  rw [hfill]
  simp only [bne_self_eq_false, Bool.false_eq_true, ↓reduceIte]
  split
  · rename_i hroad
    split at hroad
    · rename_i hq
      simp only [Bool.and_eq_true, beq_iff_eq, Array.isEmpty_iff] at hq
      refine fs_store (s := { s with heap := h₁ }) g₁ (by rw [x.size]; omega) fun h₂ sb₂ g₂ => ?_
      refine h h₂ _ _ _ (sb₁.trans sb₂) g₂ (x.turn rfl rfl rfl ?_) ⟨hq.2, ?_⟩
      · show (t₁.led && t.led) = t.led
        rw [hled, x.led]
      · show 255 ≤ t.mask
        rw [← hq.1]; exact W₁.mask
    · cases hroad
  · refine wpAny_bind ?_
    refine fs_reorder (s := { s with heap := h₁ }) (es := es) _ (fun _ _ => rfl) W₁.mask x hled fun es' t' x' W => ?_
    dsimp only
    exact fs_store (s := { s with heap := h₁ }) g₁ (by rw [x'.size]; omega) fun h₂ sb₂ g₂ => h h₂ _ _ _ (sb₁.trans sb₂) g₂ x' W
  · rename_i hroad
    split at hroad <;> cases hroad
theorem fs_copy {Q : Value → Shared → Prop} (ho : s.heap.get? a = some (fsObj es ep t)) (x : FsOk w S n es t) (hn : 64 ≤ n)
    (h : ∀ h' es' ep' t', (∀ b o, s.heap.get? b = some o → h'.get? b = some o) → h'.objs.size = s.heap.objs.size + 1 → h'.get? s.heap.objs.size = some (fsObj es' ep' t') → FsOk w S n es' t' → Wide t' → Q (.ref s.heap.objs.size) { s with heap := h' }) :
    wpAny (model prog w) A (Builtin.Frozenset.copyOf a) Q E s := by
  unfold Builtin.Frozenset.copyOf
  refine wpAny_bind (fs_base ho (wpAny_bind (fs_new ?_)))
  have hlt := Heap.lt_size ho
  have ho' : (s.heap.push (fsObj #[] 0 (.fresh 0 0 (ledOf w)))).get? a = some (fsObj es ep t) := Heap.get?_push_of_some _ ho
  refine wpAny_bind (m := Builtin.Frozenset.addrOf _) (wpAny_pure ?_)
  refine wpAny_bind (fs_merge_fresh (s := { s with heap := s.heap.push (fsObj #[] 0 (.fresh 0 0 (ledOf w))) }) ho' x hn (Heap.get?_push_size _ rfl) (Nat.ne_of_gt hlt) fun h' es' ep' t' sb g x' W => ?_)
  refine wpAny_pure (h h' es' ep' t' (fun b o e => ?_) ?_ g x' W)
  · rw [sb.2 b (Nat.ne_of_lt (Heap.lt_size e))]
    exact Heap.get?_push_of_some _ e
  · rw [sb.1]; exact Heap.size_push _ _
end
end Mine
end
section
open PySem PySem.W PyProof.Rows PySem.Calls
set_option Elab.async false
set_option linter.unusedVariables false
set_option maxRecDepth 100000
namespace Mine
theorem getIdx_perm {α : Type} {l : List α} {i : Nat} (h : i < l.length) : List.Perm (l[i] :: l.eraseIdx i) l := by
  have e : l = l.take i ++ l[i] :: l.drop (i + 1) := by
    rw [← List.drop_eq_getElem_cons h, List.take_append_drop]
  rw [List.eraseIdx_eq_take_drop_succ]
  refine List.perm_middle.symm.trans ?_
  rw [← e]
theorem pick_perm {α : Type} (next : Nat → Nat) : ∀ (fuel k : Nat) (left : List α) (out : Array α), left.length ≤ fuel → List.Perm (pickOrder.go next fuel k left out).toList (out.toList ++ left)
  | 0, k, left, out, h => by
    obtain rfl : left = [] := List.length_eq_zero_iff.mp (by omega)
    simp [pickOrder.go]
  | fuel + 1, k, left, out, h => by
    unfold pickOrder.go
    cases left with
    | nil => simp
    | cons y ys =>
      have hlt : next k % (y :: ys).length < (y :: ys).length := Nat.mod_lt _ (by simp)
      rw [List.getElem?_eq_getElem hlt]
      dsimp only
      refine (pick_perm next fuel (k + 1) _ _ (by rw [List.length_eraseIdx, if_pos hlt]; simp only [List.length_cons] at h ⊢; omega)).trans ?_
      rw [Array.toList_push, List.append_assoc]
      refine List.Perm.append_left _ ?_
      exact getIdx_perm hlt
theorem pickOrder_perm {α : Type} (next : Nat → Nat) (xs : Array α) : List.Perm (pickOrder next xs).toList xs.toList := by
  have := pick_perm next xs.size 0 xs.toList #[] (by simp)
  simpa [pickOrder] using this
section
variable {prog : Program} {w : World} {A : Around} {E : Value → Shared → Prop} {s : Shared} {a : Addr} {S : Int → Bool} {n : Nat} {es : Array (Int × Value)} {ep : Nat} {t : SetTable}
theorem forIn_const {α β : Type} {c : β} {f : α → β → Sem (ForInStep β)} : ∀ {l : List α}, (∀ y ∈ l, f y c = pure (.yield c)) → forIn l c f = (pure c : Sem β)
  | [], _ => rfl
  | y :: l, h => by
    rw [List.forIn_cons, h y (.head _)]
    show (forIn l c f) = _
    exact forIn_const fun z hz => h z (.tail _ hz)
theorem by_text {Q : Bool → Shared → Prop} (h : Q (w.params.followText "set-order") s) : wpAny (model prog w) A setsByText Q E s := by
  unfold setsByText
  exact wpAny_bind (wpAny_askSetting (wpAny_pure h))
theorem fs_walk {Q : Array (Int × Value) → Shared → Prop} (ho : s.heap.get? a = some (fsObj es ep t)) (x : FsOk w S n es t) (hp : w.params.followText "set-order" = true ∨ t.plain = true ∨ es.size ≤ 1)
    (h : ∀ es' : Array (Int × Value), List.Perm es'.toList es.toList → Q es' s) : wpAny (model prog w) A (setWalk a) Q E s := by
  unfold setWalk
  refine wpAny_bind (wpAny_setState_of ho rfl x.fits ?_)
  dsimp only
  refine wpAny_bind (by_text ?_)
  cases hb : w.params.followText "set-order" with
  | true =>
    simp only [↓reduceIte]
    refine wpAny_bind (wpAny_askSetting (wpAny_pure (h _ (pickOrder_perm _ _))))
  | false =>
    simp only [Bool.false_eq_true, ↓reduceIte]
    have hl : t.led = true := by rw [x.led]; unfold ledOf; rw [hb]; rfl
    have hd : (!t.plain && decide (es.size > 1)) = false := by
      rcases hp with q | q | q
      · rw [hb] at q; cases q
      · rw [q]; rfl
      · rw [decide_eq_false (by omega), Bool.and_false]
    refine PySem.bm_if_false hd ?_
    refine wpAny_bind ?_
    wp_delta
    refine PySem.bm_if_false (by rw [hl]; rfl) ?_
    exact wpAny_pure (wpAny_pure (h _ .rfl))
theorem fs_entries {Q : Array (Int × Value) → Shared → Prop} (ho : s.heap.get? a = some (fsObj es ep t)) (hf : t.fits es.size = true) (h : Q es s) : wpAny (model prog w) A (setEntries a) Q E s := by
  unfold setEntries
  exact wpAny_bind (wpAny_setState_of ho rfl hf (wpAny_pure h))
/-- the numbers of a set, walked into another -/
theorem fs_walkUnseen {r : Addr} {Sr : Int → Bool} {nr : Nat} {er : Array (Int × Value)} {pr : Nat} {tr : SetTable} {Q : Array (Int × Value) → Shared → Prop} (ho : s.heap.get? a = some (fsObj es ep t)) (x : FsOk w S n es t)
    (hr : s.heap.get? r = some (fsObj er pr tr)) (xr : FsOk w Sr nr er tr) (hne : r ≠ a)
    (h : ∀ h' pr' tr' (es' : Array (Int × Value)), Heap.SameBut r s.heap h' → h'.get? r = some (fsObj er pr' tr') → FsOk w Sr nr er tr' → List.Perm es'.toList es.toList → Q es' { s with heap := h' }) :
    wpAny (model prog w) A (setWalkUnseen a [r] (some r)) Q E s := by
  have easy : (w.params.followText "set-order" = true ∨ t.plain = true ∨ es.size ≤ 1) → wpAny (model prog w) A (setWalk a) Q E s := fun hp =>
    fs_walk ho x hp fun es' p => h s.heap pr tr es' (.refl _ _) hr xr p
  unfold setWalkUnseen
  refine wpAny_bind (wpAny_setState_of ho rfl x.fits ?_)
  dsimp only
  refine wpAny_bind (by_text ?_)
  by_cases hc : (w.params.followText "set-order" || t.led && t.plain || decide (es.size ≤ 1)) = true
  · refine PySem.bm_if_true hc ?_
    refine easy ?_
    simp only [Bool.or_eq_true, Bool.and_eq_true, decide_eq_true_eq] at hc
    rcases hc with (q | q) | q
    · exact .inl q
    · exact .inr (.inl q.2)
    · exact .inr (.inr q)
  · refine PySem.bm_if_false (by simpa using hc) ?_
    refine wpAny_bind ?_
    have quiet : ∀ (Q' : Bool → Shared → Prop), Q' true s → wpAny (model prog w) A (setsQuiet [a, r]) Q' E s := by
      intro Q' q
      unfold setsQuiet
      refine wpAny_bind ?_
      rw [List.forIn_cons]
      refine wpAny_bind (wpAny_bind (fs_entries ho x.fits (wpAny_bind ?_)))
      rw [← Array.forIn_toList, forIn_const]
      · refine wpAny_pure (wpAny_pure ?_)
        dsimp only
        rw [List.forIn_cons]
        refine wpAny_bind (wpAny_bind (fs_entries hr xr.fits (wpAny_bind ?_)))
        rw [← Array.forIn_toList, forIn_const]
        · exact wpAny_pure (wpAny_pure (wpAny_pure (wpAny_pure q)))
        · intro e he
          obtain ⟨⟨tok, q⟩, _⟩ := xr.els e he
          obtain ⟨k, v⟩ := e
          dsimp only at q ⊢
          rw [q]
      · intro e he
        obtain ⟨⟨tok, q⟩, _⟩ := x.els e he
        obtain ⟨k, v⟩ := e
        dsimp only at q ⊢
        rw [q]
    refine quiet _ ?_
    refine PySem.bm_if_false rfl ?_
    refine wpAny_bind (wpAny_rule (wpAny_bind (wpAny_setState_of hr rfl xr.fits ?_)))
    dsimp only
    refine wpAny_ite ?_
    split
    · refine wpAny_bind (fs_store hr (by have := xr.le; rw [xr.size]; omega) fun h' sb g => ?_)
      refine wpAny_pure (h h' _ _ es sb g (xr.turn rfl rfl rfl ?_) .rfl)
      show (tr.led && t.led) = tr.led
      rw [xr.led, x.led, Bool.and_self]
    · exact wpAny_pure (h s.heap pr tr es (.refl _ _) hr xr .rfl)
end
end Mine
end
section
open PySem PySem.W PyProof.Rows PySem.Calls
set_option Elab.async false
set_option linter.unusedVariables false
set_option maxRecDepth 100000
namespace Mine
section
variable {prog : Program} {w : World} {A : Around} {E : Value → Shared → Prop} {s : Shared} {a : Addr} {S : Int → Bool} {n : Nat} {es : Array (Int × Value)} {ep : Nat} {t : SetTable}
theorem fs_loop {r : Addr} {f : (Int × Value) → PUnit → Sem (ForInStep PUnit)}
    (hf : ∀ (s' : Shared) (k : Int) (tok : Tok) (S' : Int → Bool) (n' : Nat), 0 ≤ k → k < 128 → (∃ h', s' = { s with heap := h' } ∧ Heap.SameBut r s.heap h') → FsAt w s'.heap r S' n' → ∀ Q' : ForInStep PUnit → Shared → Prop,
      (∀ h' n'', Heap.SameBut r s'.heap h' → FsAt w h' r (fun j => S' j || decide (j = k)) n'' → n' ≤ n'' → Q' (.yield ⟨⟩) { s' with heap := h' }) → wpAny (model prog w) A (f (k, .int k tok) ⟨⟩) Q' E s')
    {Q : PUnit → Shared → Prop} : ∀ (l : List (Int × Value)) (S' : Int → Bool) (n' : Nat) (s' : Shared), (∀ e ∈ l, (∃ tok, e.2 = .int e.1 tok) ∧ 0 ≤ e.1 ∧ e.1 < 128) → (∃ h', s' = { s with heap := h' } ∧ Heap.SameBut r s.heap h') → FsAt w s'.heap r S' n' →
      (∀ h' n'', Heap.SameBut r s.heap h' → FsAt w h' r (fun j => S' j || l.any (·.1 == j)) n'' → n' ≤ n'' → Q ⟨⟩ { s with heap := h' }) → wpAny (model prog w) A (forIn l ⟨⟩ f) Q E s'
  | [], S', n', s', _, hs, x, h => by
    obtain ⟨h', rfl, sb⟩ := hs
    exact wpAny_pure (h h' n' sb (x.congr fun k => by simp) (Nat.le_refl _))
  | (k, v) :: l, S', n', s', hl, hs, x, h => by
    obtain ⟨⟨tok, ev⟩, h0, h1⟩ := hl (k, v) (.head _)
    dsimp only at ev h0 h1
    subst ev
    rw [List.forIn_cons]
    refine wpAny_bind (hf s' k tok S' n' h0 h1 hs x _ fun h₁ n₁ sb₁ x₁ le₁ => ?_)
    obtain ⟨h₀, rfl, sb⟩ := hs
    refine fs_loop hf l _ n₁ _ (fun e he => hl e (.tail _ he)) ⟨h₁, rfl, sb.trans sb₁⟩ x₁ fun h₂ n₂ sb₂ x₂ le₂ => ?_
    refine h h₂ n₂ sb₂ (x₂.congr fun j => ?_) (Nat.le_trans le₁ le₂)
    rw [List.any_cons]
    by_cases e : k = j
    · subst e; simp
    · have : decide (j = k) = false := decide_eq_false fun q => e q.symm
      have q : (k == j) = false := by simpa using e
      simp [this, q]
theorem fs_epoch {Q : Nat → Shared → Prop} (ho : s.heap.get? a = some (fsObj es ep t)) (hf : t.fits es.size = true) (h : Q ep s) : wpAny (model prog w) A (setEpoch a) Q E s := by
  unfold setEpoch
  exact wpAny_bind (wpAny_setState_of ho rfl hf (wpAny_pure h))
theorem fs_unchanged {id : String} {Q : Unit → Shared → Prop} (ho : s.heap.get? a = some (fsObj es ep t)) (hf : t.fits es.size = true) (h : Q () s) : wpAny (model prog w) A (Builtin.Frozenset.unchanged id a ep) Q E s := by
  unfold Builtin.Frozenset.unchanged
  refine wpAny_bind (fs_epoch ho hf ?_)
  refine PySem.bm_if_false (by simp) ?_
  exact wpAny_pure h
theorem any_perm {l l' : List (Int × Value)} (p : List.Perm l l') (j : Int) : l.any (·.1 == j) = l'.any (·.1 == j) := by
  rw [Bool.eq_iff_iff, List.any_eq_true, List.any_eq_true]
  exact ⟨fun ⟨e, he, q⟩ => ⟨e, p.mem_iff.mp he, q⟩, fun ⟨e, he, q⟩ => ⟨e, p.mem_iff.mpr he, q⟩⟩
theorem FsOk.any (x : FsOk w S n es t) (j : Int) : es.toList.any (·.1 == j) = S j := by
  rw [Bool.eq_iff_iff, List.any_eq_true, x.mem j, List.mem_map]
  simp
/-- a set's numbers into another one -/
theorem fs_merge {r : Addr} {Sr : Int → Bool} {nr : Nat} {er : Array (Int × Value)} {pr : Nat} {tr : SetTable} {id : String} {Q : Unit → Shared → Prop} (ho : s.heap.get? a = some (fsObj es ep t)) (x : FsOk w S n es t) (hn : 1 ≤ n)
    (hr : s.heap.get? r = some (fsObj er pr tr)) (xr : FsOk w Sr nr er tr) (Wr : Wide tr) (hnr : 64 ≤ nr) (hsum : nr + n < 256) (hne : r ≠ a)
    (h : ∀ h' n', Heap.SameBut r s.heap h' → FsAt w h' r (fun j => Sr j || S j) n' → nr ≤ n' → Q () { s with heap := h' }) :
    wpAny (model prog w) A (Builtin.Frozenset.merge id r a) Q E s := by
  unfold Builtin.Frozenset.merge
  refine wpAny_bind (fs_epoch ho x.fits ?_)
  unfold setMerge
  rw [if_neg (by simpa using hne)]
  refine wpAny_bind (wpAny_setState_of ho rfl x.fits ?_)
  dsimp only
  rw [if_neg (by rw [Array.isEmpty_iff_size_eq_zero, x.size]; omega)]
  have hfit := xr.fits
  unfold SetTable.fits at hfit
  simp only [Bool.and_eq_true, beq_iff_eq] at hfit
  have room : ∀ (Q' : Unit → Shared → Prop), (∀ h' er' pr' tr', Heap.SameBut r s.heap h' → h'.get? r = some (fsObj er' pr' tr') → FsOk w Sr nr er' tr' → Wide tr' → Q' () { s with heap := h' }) → wpAny (model prog w) A (setRoomFor r es.size) Q' E s := by
    intro Q' q
    unfold setRoomFor
    refine wpAny_bind (wpAny_setState_of hr rfl xr.fits ?_)
    dsimp only
    unfold SetTable.roomFor
    by_cases hc : (tr.fill + es.size) * 5 ≥ tr.mask * 3
    · rw [if_pos hc]
      dsimp only
      have e1 : tr.place.size = nr := by rw [hfit.1, xr.size]
      have e2 := x.size
      exact fs_relay hr xr (by rw [e1, e2]; omega) (by rw [e1, e2]; omega) fun h' es' t' sb g x' W' => q h' es' _ t' sb g x' W'
    · rw [if_neg hc]
      exact wpAny_pure (q s.heap er pr tr (.refl _ _) hr xr Wr)
  refine wpAny_bind (room _ fun h₁ er₁ pr₁ tr₁ sb₁ g₁ x₁ W₁ => ?_)
  have ha₁ : h₁.get? a = some (fsObj es ep t) := (sb₁.2 a (Ne.symm hne)).trans ho
  refine wpAny_bind (wpAny_setState_of (s := { s with heap := h₁ }) g₁ rfl x₁.fits ?_)
  have hfit₁ := x₁.fits
  unfold SetTable.fits at hfit₁
  simp only [Bool.and_eq_true, beq_iff_eq] at hfit₁
  have hroad : tr₁.road t = .oneByOne := by
    unfold SetTable.road
    rw [if_pos]
    rw [bne_iff_ne]
    unfold SetTable.fill
    have := hfit₁.1
    have := x₁.size
    omega
  dsimp only
  rw [hroad]
  dsimp only
  refine wpAny_bind (fs_walkUnseen (s := { s with heap := h₁ }) ha₁ x g₁ x₁ hne fun h₂ pr₂ tr₂ es₂ sb₂ g₂ x₂ p₂ => ?_)
  rw [← Array.forIn_toList]
  have sb := sb₁.trans sb₂
  refine wpAny_bind ?_
  refine fs_loop (s := s) (r := r) (w := w) (prog := prog) ?_ es₂.toList Sr nr _ (fun e he => x.els e (p₂.mem_iff.mp he)) ⟨h₂, rfl, sb⟩ ⟨_, _, _, g₂, x₂⟩ fun h₃ n₃ sb₃ x₃ le₃ => ?_
  · rintro s' k tok S' n' h0 h1 ⟨h', rfl, sb'⟩ y Q' hq
    dsimp only
    refine wpAny_bind (wpAny_holding (fs_add (s := { s with heap := h' }) y h0 h1 fun h₄ n₄ sb₄ y₄ le₄ => ?_))
    have ha₄ : h₄.get? a = some (fsObj es ep t) := ((sb'.trans sb₄).2 a (Ne.symm hne)).trans ho
    refine wpAny_bind (fs_unchanged (s := { s with heap := h₄ }) ha₄ x.fits ?_)
    refine wpAny_bind (wpAny_setState_of (s := { s with heap := h₄ }) ha₄ rfl x.fits ?_)
    refine PySem.bm_if_false (by simp) ?_
    exact wpAny_pure (hq h₄ n₄ sb₄ y₄ le₄)
  · refine wpAny_pure (h h₃ n₃ sb₃ (x₃.congr fun j => ?_) le₃)
    rw [any_perm p₂, x.any]
end
end Mine
end
section
open PySem PySem.W PyProof.Rows PySem.Calls
set_option Elab.async false
set_option linter.unusedVariables false
set_option maxRecDepth 100000
namespace Mine
/-- all but these stand -/
def Ext (W : List Addr) (h h' : Heap) : Prop := ∀ b o, b ∉ W → h.get? b = some o → h'.get? b = some o
theorem Ext.refl (W : List Addr) (h : Heap) : Ext W h h := fun _ _ _ e => e
theorem Ext.trans {W W' : List Addr} {h₁ h₂ h₃ : Heap} (x : Ext W h₁ h₂) (y : Ext W' h₂ h₃) : Ext (W ++ W') h₁ h₃ := fun b o hb e =>
  y b o (fun q => hb (List.mem_append_right _ q)) (x b o (fun q => hb (List.mem_append_left _ q)) e)
theorem Ext.comp {W : List Addr} {h₁ h₂ h₃ : Heap} (x : Ext W h₁ h₂) (y : Ext W h₂ h₃) : Ext W h₁ h₃ := fun b o hb e => y b o hb (x b o hb e)
theorem Ext.mono {W W' : List Addr} {h h' : Heap} (x : Ext W h h') (s : ∀ b ∈ W, b ∈ W') : Ext W' h h' := fun b o hb e => x b o (fun q => hb (s b q)) e
theorem Ext.of_same {a : Addr} {h h' : Heap} (x : Heap.SameBut a h h') : Ext [a] h h' := fun b o hb e => (x.2 b (by simpa using hb)).trans e
theorem Ext.push (h : Heap) (o : Obj) : Ext [] h (h.push o) := fun _ _ _ e => Heap.get?_push_of_some _ e
/-- what was not there need not stand -/
theorem Ext.drop {W W' : List Addr} {h h' : Heap} (x : Ext W h h') (s : ∀ b ∈ W, b ∈ W' ∨ h.get? b = none) : Ext W' h h' := fun b o hb e =>
  x b o (fun q => (s b q).elim hb fun z => by rw [z] at e; cases e) e
theorem get_size (h : Heap) : h.get? h.objs.size = none := by
  cases e : h.get? h.objs.size with
  | none => rfl
  | some o => exact absurd (Heap.lt_size e) (Nat.lt_irrefl _)
section
variable {prog : Program} {w : World} {A : Around} {E : Value → Shared → Prop} {s : Shared} {I r : Addr} {fp wr : List Addr} {P : Nat → Value → Prop} {St : Nat → Heap → Prop} {ks : List Int} {R : Result → Shared → Prop}
theorem fs_update (W : Walks prog w A.in1 I fp wr ks.length P St) (hrf : r ∉ fp) (hks : ∀ k ∈ ks, 0 ≤ k ∧ k < 128) (hP : ∀ i v, P i v → ∃ k tok, v = .int k tok ∧ ks[i]? = some k) :
    ∀ (j i : Nat) (s : Shared) (S : Int → Bool) (n : Nat), ks.length - i = j → i ≤ ks.length → St i s.heap → FsAt w s.heap r S n →
      (∀ h' tk n', Ext (r :: wr) s.heap h' → FsAt w h' r (fun k => S k || (ks.drop i).contains k) n' → n ≤ n' → R (.ok (.ret .none)) { s with heap := h', toks := tk }) →
      codeAny (model prog w) A (.builtin "set.update.loop" ⟨[.ref r, .ref I], []⟩) R s := by
  have hrw : r ∉ wr := fun h => hrf (W.sub _ h)
  intro j
  induction j with
  | zero =>
    intro i s S n hj hi hst x h
    have hin : i = ks.length := by omega
    subst hin
    refine codeAny_builtin PyProof.Rows.F.entry_set_update_loop ?_
    rw [Around.under_plainId PyProof.Rows.F.plain_set_update_loop _]
    show wpAny _ A.in1 (pyNext (.ref I) >>= _) _ _ s
    refine wpAny_bind (W.done s _ _ hst fun h' tk hk => ?_)
    show wpAny _ A.in1 (ret Value.none) _ _ _
    refine wpAny_pure (h h' tk n (fun b o hb e => hk b o (fun q => hb (List.mem_cons_of_mem _ q)) e) ?_ (Nat.le_refl _))
    exact (x.at fun o e => hk r o hrw e).congr fun k => by simp
  | succ j ih =>
    intro i s S n hj hi hst x h
    have hlt : i < ks.length := by omega
    refine codeAny_builtin PyProof.Rows.F.entry_set_update_loop ?_
    rw [Around.under_plainId PyProof.Rows.F.plain_set_update_loop _]
    show wpAny _ A.in1 (pyNext (.ref I) >>= _) _ _ s
    refine wpAny_bind (W.item i s _ _ hlt hst fun v h₁ tk₁ hPv hst₁ hk₁ => ?_)
    obtain ⟨k, tok, rfl, hk⟩ := hP i v hPv
    have hk0 := hks k (List.mem_of_getElem? hk)
    show wpAny _ A.in1 (holding [Value.int k tok] (setAdd r (.int k tok)) >>= _) _ _ _
    refine wpAny_bind (wpAny_holding ?_)
    unfold setAdd
    refine wpAny_holding ?_
    refine wpAny_bind (wpAny_pyHash_int ?_)
    rw [hashInt_small hk0.1 (by omega)]
    have x₁ : FsAt w h₁ r S n := x.at fun o e => hk₁ r o hrw e
    refine fs_add (s := { s with heap := h₁, toks := tk₁ + 1 }) x₁ hk0.1 hk0.2 fun h₂ n₂ sb₂ x₂ le₂ => ?_
    refine wpAny_pure ⟨plainId_quiet PyProof.Rows.F.plain_set_update_loop _, ih (i + 1) { s with heap := h₂, toks := tk₁ + 1 } _ n₂ (by omega) hlt (W.frame _ _ _ hst₁ fun b hb o e => ?_) x₂ fun h₃ tk₃ n₃ ex₃ x₃ le₃ => ?_⟩
    · show h₂.get? b = some o
      rw [sb₂.2 b (fun q => hrf (q ▸ hb))]; exact e
    · refine h h₃ tk₃ n₃ (fun b o hb e => ex₃ b o hb ?_) (x₃.congr fun c => ?_) (Nat.le_trans le₂ le₃)
      · show h₂.get? b = some o
        rw [sb₂.2 b (fun q => hb (q ▸ List.mem_cons_self))]
        exact hk₁ b o (fun q => hb (List.mem_cons_of_mem _ q)) e
      · have e : ks.drop i = k :: ks.drop (i + 1) := by
          have hlt' := hlt
          rw [List.drop_eq_getElem_cons hlt]
          rw [List.getElem?_eq_getElem hlt] at hk
          rw [Option.some.inj hk]
        rw [e, List.contains_cons]
        by_cases q : c = k
        · subst q; simp
        · have q1 : decide (c = k) = false := decide_eq_false q
          have q2 : (c == k) = false := by simpa using q
          simp [q1, q2]
end
end Mine
end
section
open PySem PySem.W PyProof.Rows PySem.Calls
set_option Elab.async false
set_option linter.unusedVariables false
set_option maxRecDepth 100000
namespace Mine
namespace Fc
theorem plain_fs : PlainAttrs "frozenset" :=
  ⟨⟨"object.__getattribute__", by rw [typeLookup_type, builtinLookup_eq_fast]; kernel_rfl, by decide +kernel⟩, by rw [typeLookup_type, builtinLookup_eq_fast]; kernel_rfl⟩
theorem slot_union : Slot "frozenset" "union" "frozenset.union" :=
  .of (owner := "frozenset") (n := "union") (by rw [typeLookup_type, builtinLookup_eq_fast]; kernel_rfl) (by decide +kernel) (by decide +kernel) (by decide +kernel)
    (by first | exact .inl (by decide +kernel) | exact .inr (by decide +kernel)) (by rw [isSubtype_type]; kernel_rfl)
theorem type_union : typeOf (.builtin "frozenset.union") = pure (.type "method_descriptor") := by show builtinType _ = _; rw [builtinType_eq_fast]; kernel_rfl
theorem entry_union : entryFor table "frozenset.union" = some Builtin.«frozenset.union» := entryFor_of_tree (by kernel_rfl)
theorem args_union (a b : Value) : argsOk "frozenset.union" ⟨[a, b], []⟩ := by unfold argsOk; kernel_rfl
theorem slot_diff : Slot "frozenset" "difference" "frozenset.difference" :=
  .of (owner := "frozenset") (n := "difference") (by rw [typeLookup_type, builtinLookup_eq_fast]; kernel_rfl) (by decide +kernel) (by decide +kernel) (by decide +kernel)
    (by first | exact .inl (by decide +kernel) | exact .inr (by decide +kernel)) (by rw [isSubtype_type]; kernel_rfl)
theorem type_diff : typeOf (.builtin "frozenset.difference") = pure (.type "method_descriptor") := by show builtinType _ = _; rw [builtinType_eq_fast]; kernel_rfl
theorem entry_diff : entryFor table "frozenset.difference" = some Builtin.«frozenset.difference» := entryFor_of_tree (by kernel_rfl)
theorem args_diff (a b : Value) : argsOk "frozenset.difference" ⟨[a, b], []⟩ := by unfold argsOk; kernel_rfl
end Fc
section
variable {prog : Program} {w : World} {A : Around} {E : Value → Shared → Prop} {s : Shared} {a : Addr} {S : Int → Bool} {n : Nat} {es : Array (Int × Value)} {ep : Nat} {t : SetTable}
theorem fs_noDict (ho : s.heap.get? a = some (fsObj es ep t)) : ∀ b, Value.ref a = .ref b → ∃ ob, s.heap.get? b = some ob ∧ ob.dict = none :=
  fun b e => by injection e with e; subst e; exact ⟨_, ho, rfl⟩
theorem getMethod_union {pl : Sem Bool} {Q : Value × List Value → Shared → Prop} (ho : s.heap.get? a = some (fsObj es ep t)) (h : Q (.builtin "frozenset.union", [.ref a]) s) : wpAny (model prog w) A (getMethod (.ref a) "union" pl) Q E s :=
  getMethod_builtin (fs_type ho) Fc.plain_fs Fc.slot_union Fc.type_union (fs_noDict ho) h
theorem getMethod_diff {pl : Sem Bool} {Q : Value × List Value → Shared → Prop} (ho : s.heap.get? a = some (fsObj es ep t)) (h : Q (.builtin "frozenset.difference", [.ref a]) s) : wpAny (model prog w) A (getMethod (.ref a) "difference" pl) Q E s :=
  getMethod_builtin (fs_type ho) Fc.plain_fs Fc.slot_diff Fc.type_diff (fs_noDict ho) h

/-- what an argument of union gives to the copy: by its kind -/
def Gives (prog : Program) (w : World) (A : Around) (E : Value → Shared → Prop) (v : Value) (T : Int → Bool) (h₀ : Heap) : Prop :=
  ∀ (s : Shared) (r : Addr) (S : Int → Bool) (n : Nat) (es : Array (Int × Value)) (ep : Nat) (t : SetTable) (Q : Unit → Shared → Prop), Ext [] h₀ s.heap → h₀.get? r = none → s.heap.get? r = some (fsObj es ep t) → FsOk w S n es t → Wide t → 64 ≤ n → n < 128 →
    (∀ h' tk n', Ext [r] s.heap h' → FsAt w h' r (fun k => S k || T k) n' → n ≤ n' → Q () { s with heap := h', toks := tk }) →
    wpAny (model prog w) A (Builtin.Frozenset.updateFrom "frozenset.union" r v) Q E s
theorem call_union {v : Value} {T : Int → Bool} {Q : Value → Shared → Prop} (ho : s.heap.get? a = some (fsObj es ep t)) (x : FsOk w S n es t) (hn : 64 ≤ n) (hn' : n < 128) (hv : v ≠ .ref a) (G : Gives prog w A.in1 E v T s.heap)
    (h : ∀ r h' tk n', Ext [] s.heap h' → s.heap.get? r = none → FsAt w h' r (fun k => S k || T k) n' → n ≤ n' → Q (.ref r) { s with heap := h', toks := tk }) :
    wpAny (model prog w) A (call (.builtin "frozenset.union") [.ref a, v]) Q E s := by
  refine wpAny_call_entry Fc.slot_union (fs_type ho) Fc.entry_union ?_ (Fc.args_union _ _)
  unfold Builtin.«frozenset.union» Builtin.Frozenset.manyOthers
  refine wpAny_bind ?_
  refine PySem.bm_if_false rfl ?_
  refine wpAny_bind (m := Builtin.Frozenset.addrOf _) (wpAny_pure (wpAny_pure ?_))
  dsimp only
  refine wpAny_bind (fs_copy ho x hn fun h₁ es₁ ep₁ t₁ k₁ sz₁ g₁ x₁ W₁ => ?_)
  refine wpAny_bind (wpAny_holding ?_)
  refine wpAny_bind ?_
  rw [List.forIn_cons]
  refine wpAny_bind ?_
  refine PySem.bm_if_true (c := v != Value.ref a) (bne_iff_ne.mpr hv) ?_
  refine wpAny_bind (m := Builtin.Frozenset.addrOf _) (wpAny_pure ?_)
  refine wpAny_bind (G { s with heap := h₁ } s.heap.objs.size S n es₁ ep₁ t₁ _ (fun b o _ e => k₁ b o e) (get_size _) g₁ x₁ W₁ hn hn' fun h₂ tk₂ n₂ ex₂ x₂ le₂ => ?_)
  refine wpAny_pure ?_
  dsimp only
  refine wpAny_pure (wpAny_pure (wpAny_pure ⟨_, rfl, h _ h₂ tk₂ n₂ (fun b o _ e => ex₂ b o (by simpa using Nat.ne_of_lt (Heap.lt_size e)) (k₁ b o e)) (get_size _) x₂ le₂⟩))
end
end Mine
end
section
open PySem PySem.W PyProof.Rows PySem.Calls
set_option Elab.async false
set_option linter.unusedVariables false
set_option maxRecDepth 100000
namespace Mine
section
variable {prog : Program} {w : World} {A : Around} {E : Value → Shared → Prop} {s : Shared}
theorem isAny_no {v : Value} {T : String} {Q : Bool → Shared → Prop} (hT : s.TypeIs v T) (h1 : isSubtype (.type T) (.type "set") = pure false) (h2 : isSubtype (.type T) (.type "frozenset") = pure false) (h : Q false s) :
    wpAny (model prog w) A (Builtin.Frozenset.isAnySet v) Q E s := by
  unfold Builtin.Frozenset.isAnySet
  refine wpAny_bind (wpAny_isInstance hT h1 ?_)
  exact wpAny_isInstance hT h2 h
theorem upd_iter {id : String} {r : Addr} {v : Value} {T : String} {Q : Unit → Shared → Prop} (hT : s.TypeIs v T) (h1 : isSubtype (.type T) (.type "set") = pure false) (h2 : isSubtype (.type T) (.type "frozenset") = pure false) (h3 : (Value.type T == Value.type "dict") = false)
    (h : wpAny (model prog w) A (pyIter v) (fun it s₁ => codeAny (model prog w) A (.builtin "set.update.loop" ⟨[.ref r, it], []⟩) (fun res s' => match res with | .ok (.ret _) => Q () s' | .ok _ => False | .error e => E e s') s₁) E s) :
    wpAny (model prog w) A (Builtin.Frozenset.updateFrom id r v) Q E s := by
  unfold Builtin.Frozenset.updateFrom
  refine wpAny_bind (isAny_no hT h1 h2 ?_)
  refine PySem.bm_if_false rfl ?_
  refine wpAny_bind (wpAny_typeOf hT ?_)
  refine PySem.bm_if_false h3 ?_
  refine wpAny_bind (wpAny_mono h (fun it s₁ c => ?_) fun _ _ e => e)
  refine wpAny_bind (wpAny_runValue (codeAny_mono c fun res s' q => ?_))
  cases res with
  | error e => exact q
  | ok f => cases f <;> first | exact wpAny_pure q | exact q
theorem ext_iter {h h' : Heap} {o : Obj} {r : Addr} (hr : r ≠ h.objs.size) (x : Ext [r, h.objs.size] (h.push o) h') : Ext [r] h h' := fun b q hb e =>
  x b q (by
    simp only [List.mem_cons, List.not_mem_nil, or_false] at hb ⊢
    exact fun z => z.elim hb (Nat.ne_of_lt (Heap.lt_size e))) (Heap.get?_push_of_some _ e)
theorem gives_bytes {b : Array UInt8} {tok : Tok} {h₀ : Heap} (hh : A.handled = none) (hb : ∀ k ∈ KBw.bInts b, k < 128) : Gives prog w A E (.bytes b tok) (fun k => (KBw.bInts b).contains k) h₀ := by
  intro s r S n es ep t Q hk hr ho x W hn hn' h
  have hlt : r ≠ s.heap.objs.size := Nat.ne_of_lt (Heap.lt_size ho)
  refine upd_iter (T := "bytes") (typeIs_bytes s b tok) PySem.F.sub_bytes_set PySem.F.sub_bytes_frozenset (by decide) (KBw.pyIter_bytes ?_)
  have Wk := KBw.walks (prog := prog) (w := w) (A := A.in1) (by simp [hh]) s.heap.objs.size b tok
  rw [← KBw.ints_length b] at Wk
  refine fs_update (ks := KBw.bInts b) Wk (by simpa using hlt) (fun k hk => ⟨(KBw.ints_in hk).1, hb k hk⟩) (fun i v hP => ?_) _ 0 _ S n rfl (Nat.zero_le _) ?_ ⟨es, ep, t, Heap.get?_push_of_some _ ho, x⟩ fun h' tk n' ex x' le => ?_
  · obtain ⟨c, u, hc, rfl⟩ := hP
    exact ⟨_, u, rfl, KBw.ints_get hc⟩
  · exact ⟨_, Heap.get?_push_size _ rfl, rfl, rfl⟩
  · exact h h' tk n' (ext_iter hlt ex) (x'.congr fun k => by simp) le
theorem ints_at {vs : List Value} {ns : List Int} (hi : IntsAre vs ns) {i : Nat} {v : Value} (hv : vs.toArray[i]? = some v) : ∃ k tok, v = .int k tok ∧ ns[i]? = some k := by
  have hv' : vs[i]? = some v := by simpa using hv
  obtain ⟨tok, e⟩ := IntsAre.int_at hi i v hv'
  have hlt : i < ns.length := by
    rw [← hi.length]
    exact (List.getElem?_eq_some_iff.mp hv').1
  exact ⟨_, tok, e, by simp [List.getD_eq_getElem?_getD, hlt]⟩
theorem gives_list {l : Addr} {vs : List Value} {ns : List Int} {h₀ : Heap} (hh : A.handled = none) (hl : h₀.IsList l vs.toArray) (hi : IntsAre vs ns) (hb : ∀ k ∈ ns, 0 ≤ k ∧ k < 128) : Gives prog w A E (.ref l) (fun k => ns.contains k) h₀ := by
  intro s r S n es ep t Q hk hr ho x W hn hn' h
  have hl' : s.heap.IsList l vs.toArray := hl.at fun o e => hk l o (by simp) e
  have hlt : r ≠ s.heap.objs.size := Nat.ne_of_lt (Heap.lt_size ho)
  obtain ⟨ol, hol, _⟩ := id hl
  have hrl : r ≠ l := fun e => by rw [e, hol] at hr; cases hr
  have hll : l < s.heap.objs.size := Heap.lt_size (hk l ol (by simp) hol)
  refine upd_iter (T := "list") hl'.typeIs PySem.F.sub_list_set PySem.F.sub_list_frozenset (by decide) (wpAny_pyIter_list hl' ?_)
  have Wk := Walks.list (prog := prog) (w := w) (A := A.in1) (by simp [hh]) s.heap.objs.size l (Nat.ne_of_lt hll) vs.toArray
  rw [show vs.toArray.size = ns.length by simp [hi.length]] at Wk
  refine fs_update (ks := ns) Wk (by simpa using ⟨hlt, hrl⟩) hb (fun i v hP => ints_at hi hP) _ 0 _ S n rfl (Nat.zero_le _) ?_ ⟨es, ep, t, Heap.get?_push_of_some _ ho, x⟩ fun h' tk n' ex x' le => ?_
  · exact ⟨⟨_, Heap.get?_push_size _ rfl, rfl, rfl⟩, hl'.at fun o e => Heap.get?_push_of_some _ e⟩
  · exact h h' tk n' (ext_iter hlt ex) (x'.congr fun k => by simp) le
theorem gives_tuple {l : Addr} {vs : List Value} {ns : List Int} {h₀ : Heap} (hh : A.handled = none) (hl : h₀.IsTuple l vs.toArray) (hi : IntsAre vs ns) (hb : ∀ k ∈ ns, 0 ≤ k ∧ k < 128) : Gives prog w A E (.ref l) (fun k => ns.contains k) h₀ := by
  intro s r S n es ep t Q hk hr ho x W hn hn' h
  have hl' : s.heap.IsTuple l vs.toArray := hl.at fun o e => hk l o (by simp) e
  have hlt : r ≠ s.heap.objs.size := Nat.ne_of_lt (Heap.lt_size ho)
  obtain ⟨ol, hol, _⟩ := id hl
  have hrl : r ≠ l := fun e => by rw [e, hol] at hr; cases hr
  have hll : l < s.heap.objs.size := Heap.lt_size (hk l ol (by simp) hol)
  refine upd_iter (T := "tuple") hl'.typeIs PySem.F.sub_tuple_set PySem.F.sub_tuple_frozenset (by decide) (wpAny_pyIter_tuple hl' ?_)
  have Wk := Walks.tuple (prog := prog) (w := w) (A := A.in1) (by simp [hh]) s.heap.objs.size l (Nat.ne_of_lt hll) vs.toArray
  rw [show vs.toArray.size = ns.length by simp [hi.length]] at Wk
  refine fs_update (ks := ns) Wk (by simpa using ⟨hlt, hrl⟩) hb (fun i v hP => ints_at hi hP) _ 0 _ S n rfl (Nat.zero_le _) ?_ ⟨es, ep, t, Heap.get?_push_of_some _ ho, x⟩ fun h' tk n' ex x' le => ?_
  · exact ⟨⟨_, Heap.get?_push_size _ rfl, rfl, rfl⟩, hl'.at fun o e => Heap.get?_push_of_some _ e⟩
  · exact h h' tk n' (ext_iter hlt ex) (x'.congr fun k => by simp) le
theorem gives_fs {o : Addr} {T : Int → Bool} {m : Nat} {h₀ : Heap} (hF : FsAt w h₀ o T m) (hm : 1 ≤ m) : Gives prog w A E (.ref o) T h₀ := by
  intro s r S n es ep t Q hk hr ho x W hn hn' h
  obtain ⟨eo, po, to, go, xo⟩ := hF
  have go' := hk o _ (by simp) go
  have hne : r ≠ o := fun e => by rw [e, go] at hr; cases hr
  unfold Builtin.Frozenset.updateFrom
  refine wpAny_bind (fs_isAny go' ?_)
  refine PySem.bm_if_true rfl ?_
  refine wpAny_bind (m := Builtin.Frozenset.addrOf _) (wpAny_pure ?_)
  have := xo.le
  refine fs_merge go' xo hm ho x W hn (by omega) hne fun h' n' sb x' le => ?_
  exact h h' s.toks n' (.of_same sb) x' le
end
end Mine
end
section
open PySem PySem.W PyProof.Rows PySem.Calls
set_option Elab.async false
set_option linter.unusedVariables false
set_option maxRecDepth 100000
namespace Mine
theorem eraseAt_list {α : Type} (xs : Array α) (i : Nat) : (SetTable.eraseAt xs i).toList = xs.toList.eraseIdx i := by
  rw [List.eraseIdx_eq_take_drop_succ]
  simp [SetTable.eraseAt, List.extract_eq_take_drop, List.take_of_length_le]
theorem eraseAt_size {α : Type} {xs : Array α} {i : Nat} (h : i < xs.size) : (SetTable.eraseAt xs i).size = xs.size - 1 := by
  rw [← Array.length_toList, eraseAt_list, List.length_eraseIdx, if_pos (by simpa using h), Array.length_toList]
theorem insertAt_size {α : Type} (xs : Array α) (p : Nat) (x : α) : (SetTable.insertAt xs p x).size = xs.size + 1 := by
  have := (SetTable.insertAt_perm xs p x).length_eq
  simpa using this
section
variable {prog : Program} {w : World} {A : Around} {E : Value → Shared → Prop} {s : Shared} {a : Addr} {S : Int → Bool} {n : Nat} {es : Array (Int × Value)} {ep : Nat} {t : SetTable}
theorem drop_fits {i : Nat} (hf : t.fits es.size = true) (hi : i < es.size) : (t.drop i).fits (SetTable.eraseAt es i).size = true := by
  unfold SetTable.fits SetTable.fill at hf ⊢
  simp only [Bool.and_eq_true, beq_iff_eq, decide_eq_true_eq] at hf ⊢
  have hi' : i < t.place.size := by rw [hf.1]; exact hi
  unfold SetTable.drop
  rw [Array.getElem?_eq_getElem hi']
  dsimp only
  rw [eraseAt_size hi', eraseAt_size hi, insertAt_size]
  omega
theorem drop_led {i : Nat} : (t.drop i).led = t.led := by unfold SetTable.drop; split <;> rfl
theorem drop_mask {i : Nat} : (t.drop i).mask = t.mask := by unfold SetTable.drop; split <;> rfl
theorem drop_dum {i : Nat} : (t.drop i).dummies.size ≤ t.dummies.size + 1 := by
  unfold SetTable.drop
  split
  · dsimp only; rw [insertAt_size]; exact Nat.le_refl _
  · exact Nat.le_succ _
theorem FsOk.erase (x : FsOk w S n es t) {k : Int} {i : Nat} (hi : es.toList.findIdx? (fun e => e.1 == k) = some i) : FsOk w (fun j => S j && !decide (j = k)) (n - 1) (SetTable.eraseAt es i) (t.drop i) := by
  obtain ⟨hlt, hp, _⟩ := List.findIdx?_eq_some_iff_getElem.mp hi
  have hk : es.toList[i].1 = k := by simpa using hp
  have hlt' : i < es.size := by simpa using hlt
  have perm := getIdx_perm hlt
  have pm := perm.map (·.1)
  have hnd : (es.toList[i].1 :: (es.toList.eraseIdx i).map (·.1)).Nodup := (pm.nodup_iff).mpr x.nodup
  rw [hk] at hnd
  have hnd' := List.nodup_cons.mp hnd
  exact {
    els := fun e he => x.els e (perm.mem_iff.mp (List.mem_cons_of_mem _ (by rw [eraseAt_list] at he; exact he)))
    nodup := by rw [eraseAt_list]; exact hnd'.2
    mem := fun j => by
      rw [eraseAt_list, Bool.and_eq_true, x.mem j, ← pm.mem_iff, List.map_cons, List.mem_cons, hk]
      simp only [Bool.not_eq_true', decide_eq_false_iff_not]
      constructor
      · rintro ⟨q | q, hne⟩
        · exact absurd q hne
        · exact q
      · exact fun q => ⟨.inr q, fun e => hnd'.1 (e ▸ q)⟩
    fits := drop_fits x.fits hlt'
    led := drop_led.trans x.led
    size := by rw [eraseAt_size hlt', x.size] }
theorem FsOk.skip (x : FsOk w S n es t) {k : Int} (hk : S k = false) : FsOk w (fun j => S j && !decide (j = k)) n es t := x.congr fun j => by
  by_cases e : j = k
  · subst e; rw [hk]; rfl
  · rw [decide_eq_false e]; simp
theorem fs_discard {k : Int} {tok : Tok} {Q : Bool → Shared → Prop} (ho : s.heap.get? a = some (fsObj es ep t)) (x : FsOk w S n es t) (h0 : 0 ≤ k) (h1 : k < 128)
    (h : ∀ h' b es' ep' t' n', Heap.SameBut a s.heap h' → h'.get? a = some (fsObj es' ep' t') → FsOk w (fun j => S j && !decide (j = k)) n' es' t' → t'.mask = t.mask → t'.dummies.size ≤ t.dummies.size + 1 → n ≤ n' + 1 → Q b { s with heap := h' }) :
    wpAny (model prog w) A (setDiscardHashed a (.int k tok) k) Q E s := by
  unfold setDiscardHashed
  refine wpAny_bind (fs_find ho x h0 (by omega) ?_)
  have hs := find_some x k
  cases hi : es.toList.findIdx? (fun e => e.1 == k) with
  | none =>
    rw [hi] at hs
    exact wpAny_pure (h s.heap false es ep t n (.refl _ _) ho (x.skip hs.symm) rfl (Nat.le_succ _) (Nat.le_succ _))
  | some i =>
    dsimp only
    refine wpAny_bind (wpAny_setState_of ho rfl x.fits ?_)
    dsimp only
    have x' := x.erase hi
    refine wpAny_bind (fs_store ho (by have := x'.le; rw [x'.size]; omega) fun h' sb g => ?_)
    refine wpAny_bind (wpAny_point (wpAny_pure ?_))
    exact h h' true _ _ _ _ sb g x' drop_mask drop_dum (by omega)
theorem entry_dloop : entryFor table "set.difference_update.loop" = some Builtin.«set.difference_update.loop» := entryFor_of_tree (by kernel_rfl)
theorem plain_dloop : plainId "set.difference_update.loop" = true := by decide +kernel
/-- `.difference([c])` -/
theorem call_diff {l : Addr} {k : Int} {tok : Tok} {Q : Value → Shared → Prop} (hh : A.handled = none) (ho : s.heap.get? a = some (fsObj es ep t)) (x : FsOk w S n es t) (hn : 64 ≤ n) (hl : s.heap.IsList l #[.int k tok]) (h0 : 0 ≤ k) (h1 : k < 128)
    (h : ∀ r h' tk n', Ext [] s.heap h' → s.heap.get? r = none → FsAt w h' r (fun j => S j && !decide (j = k)) n' → n ≤ n' + 1 → Q (.ref r) { s with heap := h', toks := tk }) :
    wpAny (model prog w) A (call (.builtin "frozenset.difference") [.ref a, .ref l]) Q E s := by
  refine wpAny_call_entry Fc.slot_diff (fs_type ho) Fc.entry_diff ?_ (Fc.args_diff _ _)
  unfold Builtin.«frozenset.difference» Builtin.Frozenset.manyOthers
  refine wpAny_bind ?_
  refine PySem.bm_if_false rfl ?_
  refine wpAny_bind (m := Builtin.Frozenset.addrOf _) (wpAny_pure (wpAny_pure ?_))
  dsimp only
  refine wpAny_bind ?_
  unfold Builtin.Frozenset.difference
  dsimp only
  refine wpAny_bind (isAny_no hl.typeIs PySem.F.sub_list_set PySem.F.sub_list_frozenset ?_)
  refine PySem.bm_if_true rfl ?_
  refine wpAny_bind (wpAny_typeOf hl.typeIs ?_)
  refine PySem.bm_if_true (by decide) ?_
  obtain ⟨ol, hol, _⟩ := id hl
  refine wpAny_bind (fs_copy ho x hn fun h₁ es₁ ep₁ t₁ k₁ sz₁ g₁ x₁ W₁ => ?_)
  have hl₁ : h₁.IsList l #[.int k tok] := hl.at fun o e => k₁ l o e
  have hlt : l < s.heap.objs.size := Heap.lt_size hol
  refine wpAny_bind (m := Builtin.Frozenset.addrOf _) (wpAny_pure ?_)
  refine wpAny_bind (wpAny_holding ?_)
  unfold Builtin.Frozenset.differenceUpdate
  refine PySem.bm_if_false (by simpa using Nat.ne_of_lt hlt) ?_
  refine wpAny_bind (isAny_no (s := { s with heap := h₁ }) hl₁.typeIs PySem.F.sub_list_set PySem.F.sub_list_frozenset ?_)
  refine PySem.bm_if_false rfl ?_
  refine wpAny_bind (wpAny_pyIter_list (s := { s with heap := h₁ }) hl₁ ?_)
  dsimp only
  refine wpAny_bind (wpAny_runValue ?_)
  have hlt₁ : l < h₁.objs.size := by rw [sz₁]; exact Nat.lt_succ_of_lt hlt
  have Wk := Walks.list (prog := prog) (w := w) (A := A.in1.in1) (by simp [hh]) h₁.objs.size l (Nat.ne_of_lt hlt₁) #[.int k tok]
  refine codeAny_builtin entry_dloop ?_
  rw [Around.under_plainId plain_dloop _]
  show wpAny _ _ (pyNext (.ref h₁.objs.size) >>= _) _ _ _
  refine wpAny_bind (Wk.item 0 _ _ _ (Nat.zero_lt_one) ⟨⟨_, Heap.get?_push_size _ rfl, rfl, rfl⟩, hl₁.at fun o e => Heap.get?_push_of_some _ e⟩ fun v h₂ tk₂ hP st₂ k₂ => ?_)
  obtain rfl : v = .int k tok := by simpa using hP.symm
  show wpAny _ _ (holding [Value.int k tok] (setDiscard s.heap.objs.size (.int k tok)) >>= _) _ _ _
  refine wpAny_bind (wpAny_holding ?_)
  unfold setDiscard
  refine wpAny_holding (wpAny_bind (wpAny_pyHash_int ?_))
  rw [hashInt_small h0 (by omega)]
  have hrI : s.heap.objs.size ≠ h₁.objs.size := by rw [sz₁]; exact Nat.ne_of_lt (Nat.lt_succ_self _)
  have g₂ : h₂.get? s.heap.objs.size = some (fsObj es₁ ep₁ t₁) := k₂ _ _ (by simpa using hrI) (Heap.get?_push_of_some _ g₁)
  refine fs_discard (s := { s with heap := h₂, toks := tk₂ + 1 }) g₂ x₁ h0 h1 fun h₃ b es₃ ep₃ t₃ n₃ sb₃ g₃ x₃ m₃ d₃ le₃ => ?_
  refine wpAny_pure ⟨plainId_quiet plain_dloop _, ?_⟩
  refine codeAny_builtin entry_dloop ?_
  rw [Around.under_plainId plain_dloop _]
  show wpAny _ _ (pyNext (.ref h₁.objs.size) >>= _) _ _ _
  have st₃ := Wk.frame 1 h₂ h₃ st₂ fun b hb o e => by
    rw [sb₃.2 b ?_]; exact e
    rintro rfl
    simp only [List.mem_cons, List.not_mem_nil, or_false] at hb
    exact hb.elim hrI (Nat.ne_of_gt hlt)
  refine wpAny_bind (Wk.done _ _ _ st₃ fun h₄ tk₄ k₄ => ?_)
  show wpAny _ _ (ret Value.none) _ _ _
  refine wpAny_pure ?_
  have g₄ : h₄.get? s.heap.objs.size = some (fsObj es₃ ep₃ t₃) := k₄ _ _ (by simpa using hrI) g₃
  show wpAny _ _ (setTidy _) _ _ _
  unfold setTidy
  refine wpAny_bind (wpAny_setState_of (s := { s with heap := h₄, toks := tk₄ }) g₄ rfl x₃.fits ?_)
  dsimp only
  refine PySem.bm_if_false ?_ ?_
  · unfold SetTable.tooManyDummies
    rw [W₁.dum] at d₃
    have hm := W₁.mask
    simp only [List.size_toArray, List.length_nil] at d₃
    rw [decide_eq_false]
    rw [m₃]
    omega
  · refine wpAny_pure (wpAny_pure (wpAny_bind (wpAny_holding (wpAny_pure (wpAny_pure ⟨_, rfl, h _ h₄ tk₄ n₃ (fun b o _ e => ?_) (get_size _) ⟨_, _, _, g₄, x₃⟩ le₃⟩)))))
    have hbs : b ≠ s.heap.objs.size := Nat.ne_of_lt (Heap.lt_size e)
    have hbI : b ≠ h₁.objs.size := Nat.ne_of_lt (Heap.lt_size (k₁ b o e))
    refine k₄ b o (by simpa using hbI) ?_
    show h₃.get? b = some o
    rw [sb₃.2 b hbs]
    exact k₂ b o (by simpa using hbI) (Heap.get?_push_of_some _ (k₁ b o e))
end
end Mine
end
section
open PySem PySem.W PyProof.Rows PySem.Calls
set_option Elab.async false
set_option linter.unusedVariables false
set_option maxRecDepth 100000
namespace Mine
theorem xor_fold {l l' : List Int} (p : List.Perm l l') (g : Int → Nat) (z : Nat) : l.foldl (fun acc x => acc ^^^ g x) z = l'.foldl (fun acc x => acc ^^^ g x) z :=
  p.foldl_eq' (fun x _ y _ z => by rw [Nat.xor_assoc, Nat.xor_assoc, Nat.xor_comm (g x) (g y)]) z
namespace Fc
theorem slot_ne : Slot "frozenset" (cmpInfo .NotEq).2.1 "frozenset.__ne__" :=
  .of (owner := "frozenset") (n := "__ne__") (by rw [typeLookup_type, builtinLookup_eq_fast]; kernel_rfl) (by decide +kernel) (by decide +kernel) (by decide +kernel)
    (by first | exact .inl (by decide +kernel) | exact .inr (by decide +kernel)) (by rw [isSubtype_type]; kernel_rfl)
theorem entry_ne : entryFor table "frozenset.__ne__" = some Builtin.«frozenset.__ne__» := entryFor_of_tree (by kernel_rfl)
theorem args_ne (a b : Value) : argsOk "frozenset.__ne__" ⟨[a, b], []⟩ := by unfold argsOk; kernel_rfl
end Fc
section
variable {prog : Program} {w : World} {A : Around} {E : Value → Shared → Prop} {s : Shared} {a b : Addr} {S : Int → Bool} {n : Nat} {es : Array (Int × Value)} {ep : Nat} {t : SetTable}
theorem fs_in {k : Int} {tok : Tok} {Q : Value → Shared → Prop} (hS : FsAt w s.heap a S n) (h0 : 0 ≤ k) (h1 : k < 256) (h : Q (.bool (S k)) { s with toks := s.toks + 1 }) : wpAny (model prog w) A (compareOp .In (.int k tok) (.ref a)) Q E s := by
  obtain ⟨es, ep, t, ho, x⟩ := hS
  have hT := fs_type ho
  show wpAny _ _ (do return .bool (← contains (.ref a) (.int k tok))) Q E s
  refine wpAny_bind ?_
  unfold contains
  refine wpAny_holding ?_
  refine wpAny_bind (wpAny_specialOf hT FB.slot_frozenset_contains.lookup ?_)
  refine PySem.bm_if_false (by rw [beq_builtin_none]) ?_
  refine wpAny_bind (wpAny_callSpecialUnlessNone?_slot (name := Str.ofString "__contains__") hT FB.slot_frozenset_contains
    (wpAny_call_entry FB.slot_frozenset_contains hT FB.entry_frozenset_contains ?_ (FB.args_frozenset_contains_2 _ _)))
  unfold Builtin.«frozenset.__contains__» Builtin.Frozenset.oneOther
  simp only [List.isEmpty_nil, bind_assoc]
  unfold Builtin.Frozenset.withSetAsKey setContains
  refine wpAny_bind (m := Builtin.Frozenset.addrOf _) (wpAny_pure (wpAny_bind (wpAny_pure ?_)))
  dsimp only
  refine wpAny_bind (wpAny_tryCatch (wpAny_holding (wpAny_bind (wpAny_pyHash_int ?_))))
  rw [hashInt_small h0 h1]
  refine wpAny_bind (fs_find (s := { s with toks := s.toks + 1 }) ho x h0 h1 (wpAny_pure ?_))
  show wpAny _ _ (ret (Value.bool _)) _ _ _
  rw [find_some x k]
  exact wpAny_pure ⟨_, rfl, wpAny_truthy_bool (wpAny_pure h)⟩
theorem fs_size {Q : Nat → Shared → Prop} (ho : s.heap.get? a = some (fsObj es ep t)) (x : FsOk w S n es t) (h : Q n s) : wpAny (model prog w) A (Builtin.Frozenset.sizeOf a) Q E s := by
  unfold Builtin.Frozenset.sizeOf
  refine wpAny_bind (fs_entries ho x.fits (wpAny_pure ?_))
  rw [x.size]; exact h
theorem keys_perm {es' : Array (Int × Value)} {n' : Nat} {t' : SetTable} (x : FsOk w S n es t) (x' : FsOk w S n' es' t') : List.Perm (es.toList.map (·.1)) (es'.toList.map (·.1)) :=
  (List.perm_ext_iff_of_nodup x.nodup x'.nodup).mpr fun k => (x.mem k).symm.trans (x'.mem k)
theorem forIn_all {α β : Type} {c : β} {f : α → β → Sem (ForInStep β)} {M : Model} {Q : β → Shared → Prop} (hq : Q c s) : ∀ {l : List α}, (∀ y ∈ l, ∀ Q' : ForInStep β → Shared → Prop, Q' (.yield c) s → wpAny M A (f y c) Q' E s) → wpAny M A (forIn l c f) Q E s
  | [], _ => wpAny_pure hq
  | y :: l, h => by
    rw [List.forIn_cons]
    exact wpAny_bind (h y (.head _) _ (forIn_all hq fun z hz => h z (.tail _ hz)))
theorem fs_subset {id : String} {eb : Array (Int × Value)} {pb n' : Nat} {tb : SetTable} {Q : Bool → Shared → Prop} (ho : s.heap.get? a = some (fsObj es ep t)) (x : FsOk w S n es t) (hb : s.heap.get? b = some (fsObj eb pb tb)) (xb : FsOk w S n' eb tb) (h : Q true s) :
    wpAny (model prog w) A (Builtin.Frozenset.subsetOf id a b) Q E s := by
  have hn : n = n' := by
    have := (keys_perm x xb).length_eq
    rw [List.length_map, List.length_map, Array.length_toList, Array.length_toList, x.size, xb.size] at this
    exact this
  subst hn
  unfold Builtin.Frozenset.subsetOf
  refine wpAny_bind (fs_size ho x (wpAny_bind (fs_size hb xb ?_)))
  rw [if_neg (Nat.lt_irrefl _)]
  refine wpAny_bind (fs_epoch ho x.fits ?_)
  refine wpAny_bind ?_
  unfold Builtin.Frozenset.walkUnseen
  refine wpAny_bind (fs_entries ho x.fits (wpAny_bind (fs_entries hb xb.fits (wpAny_bind ?_))))
  rw [forIn_const]
  · refine wpAny_pure (wpAny_pure (wpAny_bind ?_))
    refine forIn_all (c := (none, ())) ?_ ?_
    · exact wpAny_pure h
    · rintro ⟨k, v⟩ he Q' hq
      obtain ⟨⟨tok, ev⟩, h0, h1⟩ := x.els _ he
      dsimp only at ev h0 h1
      subst ev
      dsimp only
      refine wpAny_bind (wpAny_holding (fs_find hb xb h0 (by omega) ?_))
      have hs := find_some xb k
      rw [(x.mem k).mpr (List.mem_map.mpr ⟨_, he, rfl⟩)] at hs
      refine PySem.bm_if_false (by cases q : eb.toList.findIdx? (fun e => e.1 == k) with | none => rw [q] at hs; cases hs | some _ => rfl) ?_
      exact wpAny_bind (fs_unchanged ho x.fits (wpAny_pure hq))
  · intro e he
    have : ∃ tok, e.2 = .int e.1 tok := by
      rcases List.mem_append.mp he with q | q
      · exact (x.els e q).1
      · exact (xb.els e q).1
    obtain ⟨tok, q⟩ := this
    obtain ⟨k, v⟩ := e
    dsimp only at q
    subst q
    rfl
/-- two sets of the same numbers: `!=` is False -/
theorem fs_ne {n' : Nat} {Q : Value → Shared → Prop} (hu : A.units < cLine) (hS : FsAt w s.heap a S n) (hS' : FsAt w s.heap b S n') (h : Q (.bool false) s) : wpAny (model prog w) A (compareOp .NotEq (.ref a) (.ref b)) Q E s := by
  obtain ⟨es, ep, t, ho, x⟩ := hS
  obtain ⟨eb, pb, tb, hb, xb⟩ := hS'
  have kp := keys_perm x xb
  have hn : n = n' := by
    have := kp.length_eq
    rw [List.length_map, List.length_map, Array.length_toList, Array.length_toList, x.size, xb.size] at this
    exact this
  subst hn
  show wpAny _ _ (richCompare .NotEq (.ref a) (.ref b)) _ _ _
  refine wpAny_richCompare_same_or (T := "frozenset") (fs_type ho) (fs_type hb) Fc.slot_ne (wpAny_call_entry Fc.slot_ne (fs_type ho) Fc.entry_ne ?_ (Fc.args_ne _ _)) (.inr hu)
  unfold Builtin.«frozenset.__ne__»
  wp_delta
  refine wpAny_bind ?_
  unfold Builtin.Frozenset.slot1 slotArgs
  refine wpAny_bind ?_
  refine PySem.bm_if_false rfl ?_
  refine PySem.bm_if_false rfl ?_
  refine wpAny_pure (wpAny_pure ?_)
  dsimp only
  refine wpAny_bind (fs_isAny hb ?_)
  refine PySem.bm_if_false rfl ?_
  refine wpAny_bind (m := Builtin.Frozenset.addrOf _) (wpAny_pure (wpAny_bind (m := Builtin.Frozenset.addrOf _) (wpAny_pure ?_)))
  refine wpAny_bind (fs_size ho x (wpAny_bind (fs_size hb xb ?_)))
  refine wpAny_bind ?_
  refine PySem.bm_if_false (by simp) ?_
  refine wpAny_bind ?_
  refine wpAny_bind (wpAny_isInstance (fs_type ho) PySem.F.sub_frozenset_frozenset ?_)
  refine wpAny_isInstance (fs_type hb) PySem.F.sub_frozenset_frozenset ?_
  refine PySem.bm_if_true rfl ?_
  refine wpAny_bind (fs_entries ho x.fits (wpAny_bind (fs_entries hb xb.fits ?_)))
  rw [PySem.W.hashOf_perm kp]
  simp only [bne_self_eq_false, Bool.false_eq_true, ↓reduceIte]
  refine fs_subset ho x hb xb ?_
  exact wpAny_pure ⟨_, rfl, (fun z => nomatch z), h⟩
end
end Mine
end
section
open PySem PySem.W PyProof.Rows PySem.Calls
set_option Elab.async false
set_option linter.unusedVariables false
set_option maxRecDepth 100000
namespace Mine
namespace Fc
theorem mro_fs : mroOf (.type "frozenset") = pure [.type "frozenset", .type "object"] := by rw [mroOf_type]; kernel_rfl
theorem look_new : typeLookup (.type "frozenset") "__new__" = pure (some (.builtin "frozenset.__new__")) := by rw [typeLookup_type, builtinLookup_eq_fast]; kernel_rfl
theorem slot_init : Slot "frozenset" "__init__" "object.__init__" :=
  .of (owner := "object") (n := "__init__") (by rw [typeLookup_type, builtinLookup_eq_fast]; kernel_rfl) (by decide +kernel) (by decide +kernel) (by decide +kernel)
    (by first | exact .inl (by decide +kernel) | exact .inr (by decide +kernel)) (by rw [isSubtype_type]; kernel_rfl)
theorem called : TypeCalled "frozenset" "frozenset.__new__" "object.__init__" :=
  ⟨by decide +kernel, by decide +kernel, ⟨_, _, mro_fs⟩, madeBy_type mro_fs look_new (by decide +kernel), by decide +kernel, by rw [isSubtype_type]; kernel_rfl, slot_init⟩
theorem typeCall (a : Value) : checkTypeCall "frozenset" ⟨[a], []⟩ = pure () := by kernel_rfl
theorem newCall (a : Value) : checkBuiltinCall "frozenset.__new__" ⟨[.type "frozenset", a], []⟩ = pure () := by kernel_rfl
theorem plain_new : plainId "frozenset.__new__" = true := by decide +kernel
theorem entry_new : entryFor table "frozenset.__new__" = some Builtin.«frozenset.__new__» := entryFor_of_tree (by kernel_rfl)
end Fc
section
variable {prog : Program} {w : World} {A : Around} {E : Value → Shared → Prop} {s : Shared} {S : Int → Bool} {n : Nat} {es : Array (Int × Value)} {t : SetTable}
theorem FsOk.ge (x : FsOk w S n es t) {l : List Int} (hn : l.Nodup) (hs : ∀ k ∈ l, S k = true) : l.length ≤ n := by
  have := hn.length_le_of_subset (l₂ := es.toList.map (·.1)) fun k hk => (x.mem k).mp (hs k hk)
  simpa [x.size] using this
theorem FsOk.leOf (x : FsOk w S n es t) {l : List Int} (hs : ∀ k, S k = true → k ∈ l) : n ≤ l.length := by
  have := x.nodup.length_le_of_subset (l₂ := l) fun k hk => hs k ((x.mem k).mpr hk)
  simpa [x.size] using this
set_option maxHeartbeats 1000000 in
theorem call_fs_bytes {b : Array UInt8} {tok : Tok} {Q : Value → Shared → Prop} (hh : A.handled = none) (hb : ∀ k ∈ KBw.bInts b, k < 128)
    (h : ∀ r h' tk n', Ext [] s.heap h' → s.heap.get? r = none → FsAt w h' r (fun k => (KBw.bInts b).contains k) n' → Q (.ref r) { s with heap := h', toks := tk }) :
    wpAny (model prog w) A (call (.type "frozenset") [.bytes b tok]) Q E s := by
  refine callType_codes (Q₁ := fun obj s₁ => s₁.TypeIs obj "frozenset" ∧ Q obj s₁) Fc.called (Fc.typeCall _) F.entry_object_init ?_ fun obj s₁ h₁ =>
    ⟨h₁.1, F.args_object_init_2 obj _, object_init_meets Fc.called.init.lookup Fc.called.made (by decide) prog w A.in1 _ s₁ ⟨h₁.1, rfl, h₁.2⟩⟩
  refine codeAny_of_tree ?_
  show wpAny _ A.in1.in1 (do checkBuiltinCall "frozenset.__new__" ⟨[.type "frozenset", .bytes b tok], []⟩; again (.builtin "frozenset.__new__" ⟨[.type "frozenset", .bytes b tok], []⟩)) _ _ s
  refine wpAny_bind (wpAny_of_eq (Fc.newCall _) (wpAny_pure ⟨plainId_quiet Fc.plain_new _, codeAny_builtin Fc.entry_new ?_⟩))
  rw [Around.under_plainId Fc.plain_new _]
  unfold Builtin.«frozenset.__new__» Builtin.Frozenset.newClass
  have hsub := PySem.F.sub_frozenset_frozenset
  have hT := typeIs_bytes s b tok
  have hli := Fc.slot_init.lookup
  obtain ⟨hp, g, d, tk, os⟩ := s
  dsimp only at hT h ⊢
  generalize hN : Builtin.Frozenset.newFrom = NF
  wp_walk
  subst hN
  dsimp only
  unfold Builtin.Frozenset.newFrom
  refine wpAny_bind (fs_new ?_)
  refine wpAny_bind (m := Builtin.Frozenset.addrOf _) (wpAny_pure ?_)
  refine wpAny_bind (wpAny_holding ?_)
  dsimp only
  refine upd_iter (T := "bytes") (typeIs_bytes _ b tok) PySem.F.sub_bytes_set PySem.F.sub_bytes_frozenset (by decide) (KBw.pyIter_bytes ?_)
  have Wk := KBw.walks (prog := prog) (w := w) (A := A.in1.in1.in1) (by simp [hh]) (hp.push (fsObj #[] 0 (.fresh 0 0 (ledOf w)))).objs.size b tok
  rw [← KBw.ints_length b] at Wk
  have hne : hp.objs.size ≠ (hp.push (fsObj #[] 0 (.fresh 0 0 (ledOf w)))).objs.size := by rw [Heap.size_push]; exact Nat.ne_of_lt (Nat.lt_succ_self _)
  refine fs_update (ks := KBw.bInts b) Wk (by simpa using hne) (fun k hk => ⟨(KBw.ints_in hk).1, hb k hk⟩) (fun i v hP => ?_) _ 0 _ (fun _ => false) 0 rfl (Nat.zero_le _) ?_
    ⟨_, _, _, Heap.get?_push_of_some _ (Heap.get?_push_size _ rfl), fs_empty w⟩ fun h' tk n' ex x' le => ?_
  · obtain ⟨c, u, hc, rfl⟩ := hP
    exact ⟨_, u, rfl, KBw.ints_get hc⟩
  · exact ⟨_, Heap.get?_push_size _ rfl, rfl, rfl⟩
  · refine wpAny_pure (wpAny_pure ?_)
    obtain ⟨es', ep', t', g', x''⟩ := x'
    refine ⟨⟨_, g', rfl⟩, h _ h' tk n' (fun c o _ e => ?_) (get_size _) ⟨es', ep', t', g', x''.congr fun k => by simp⟩⟩
    refine ex c o ?_ (Heap.get?_push_of_some _ (Heap.get?_push_of_some _ e))
    have hlt := Heap.lt_size e
    simp only [List.mem_cons, List.not_mem_nil, or_false, not_or]
    exact ⟨Nat.ne_of_lt hlt, by rw [Heap.size_push]; exact Nat.ne_of_lt (Nat.lt_succ_of_lt hlt)⟩
end
end Mine
end
section
open PySem PySem.W PyProof.Rows PySem.Calls Builtin Builtin.ObjectAttr
set_option Elab.async false
set_option linter.unusedVariables false
set_option maxRecDepth 100000
namespace Mine
/-! QUOTERS: instances of the text's class at 49 -/
abbrev safeS : Str := Str.ofString "safe"
abbrev qObj (d : Addr) (es : Array DictEntry) (ep : Nat) : Obj := ⟨.ref 49, some d, .dict es ep, #[]⟩
namespace Kf
variable (P : Params)
theorem gattr : findIn (K P) (.ref 49) "__getattribute__" = some (some (.builtin "dict.__getattribute__")) := by kernel_rfl
theorem ghook : findIn (K P) (.ref 49) "__getattr__" = some none := by kernel_rfl
theorem sattr : findIn (K P) (.ref 49) "__setattr__" = some (some (.builtin "object.__setattr__")) := by kernel_rfl
theorem gitem : findIn (K P) (.ref 49) "__getitem__" = some (some (.builtin "dict.__getitem__")) := by kernel_rfl
theorem sitem : findIn (K P) (.ref 49) "__setitem__" = some (some (.builtin "dict.__setitem__")) := by kernel_rfl
theorem iter : findIn (K P) (.ref 49) "__iter__" = some (some (.builtin "dict.__iter__")) := by kernel_rfl
theorem miss : findIn (K P) (.ref 49) "__missing__" = some (some (.ref 46)) := by kernel_rfl
theorem init : findIn (K P) (.ref 49) "__init__" = some (some (.ref 32)) := by kernel_rfl
theorem safe : findIn (K P) (.ref 49) safeS = some none := by kernel_rfl
theorem items : findIn (K P) (.ref 49) "items" = some (some (.builtin "dict.items")) := by kernel_rfl
theorem isDict : mroIn (K P) 49 (.type "dict") = some true := by kernel_rfl
theorem isObject : mroIn (K P) 49 (.type "object") = some true := by kernel_rfl
theorem isSet : mroIn (K P) 49 (.type "set") = some false := by kernel_rfl
theorem isFs : mroIn (K P) 49 (.type "frozenset") = some false := by kernel_rfl
theorem isOrd : mroIn (K P) 49 (.type "collections.OrderedDict") = some false := by kernel_rfl
def cd : ClassData := { name := Str.ofString "_Quoter", bases := [.type "dict"], mro := [.ref 49, .type "dict", .type "object"], ns := 48, qualname := Str.ofString "_Quoter" }
theorem cls : clsIn (K P) 49 = some cd := by kernel_rfl
theorem fnInit : typeIn (K P) (.ref 32) = some (.type "function") := by kernel_rfl
theorem fnMiss : typeIn (K P) (.ref 46) = some (.type "function") := by kernel_rfl
theorem kind_ga : builtinKind "dict.__getattribute__" = some .slot := by decide +kernel
theorem split_ga : splitId "dict.__getattribute__" = some ("dict", "__getattribute__") := by decide +kernel
end Kf
section
variable {prog : Program} {w : World} {A : Around} {E : Value → Shared → Prop} {s : Shared} {q d f : Addr} {es : Array DictEntry} {ep : Nat} {tk : Tok}
abbrev safeDict (w : World) (tk : Tok) (f : Addr) : Obj := dictOf [⟨PyData.keyHash w.params safeS, .str safeS tk, .ref f⟩] 1
theorem q_inst {od : Obj} {h : Heap} (hq : h.get? q = some (qObj d es ep)) (hd : h.get? d = some od) : InstAt h q (qObj d es ep) 49 (some od) := ⟨hq, rfl, rfl, hd⟩
theorem q_type {M : Model} {h : Heap} (hq : h.get? q = some (qObj d es ep)) : Looks M h (typeOf (.ref q)) (.ref 49) := fun _ _ _ _ k z => wpAny_typeOf_ref (k _ _ hq) z
theorem q_isa {M : Model} {h : Heap} {T : Value} {b : Bool} (X : (K w.params).In h) (hq : h.get? q = some (qObj d es ep)) (e : mroIn (K w.params) 49 T = some b) : Looks M h (isInstance (.ref q) T) b :=
  (q_type hq).andThen (looks_mroIn X e)
theorem q_check {i n : String} {rest : List Value} {Q : Unit → Shared → Prop} (hk : builtinKind i = some .slot) (hs : splitId i = some ("dict", n)) (X : (K w.params).In s.heap) (hq : s.heap.get? q = some (qObj d es ep)) (ha : argsOk i ⟨.ref q :: rest, []⟩) (h : Q () s) :
    wpAny (model prog w) A (checkBuiltinCall i ⟨.ref q :: rest, []⟩) Q E s :=
  @check_slot (model prog w) A E s i "dict" n (.ref q) rest [] Q hk hs (q_isa X hq (Kf.isDict w.params)) ha h
theorem find_safe (w : World) (tk : Tok) (f : Addr) : findObj (K w.params) 49 (some (safeDict w tk f)) safeS = some (.value (.ref f)) := by kernel_rfl

set_option maxHeartbeats 400000 in
theorem q_get_safe {expr : Bool} {Q : Value → Shared → Prop} (X : (K w.params).In s.heap) (hq : s.heap.get? q = some (qObj d es ep)) (hd : s.heap.get? d = some (safeDict w tk f))
    (h : Q (.ref f) { s with toks := s.toks + 1 }) : wpAny (model prog w) A (getAttr (.ref q) safeS expr) Q E s := by
  have I := q_inst hq hd
  obtain ⟨hh, g, dr, t, os⟩ := s
  dsimp only at X hq hd h I
  have L0 := I.type (M := model prog w)
  have L1 := looks_findIn (M := model prog w) X (Kf.gattr w.params)
  have L2 := looks_findIn (M := model prog w) X (Kf.ghook w.params)
  have L3 := looks_find (M := model prog w) X I (find_safe w tk f)
  have Li := q_isa (M := model prog w) X hq (Kf.isDict w.params)
  unfold getAttr getAttrBy
  refine wpAny_bind (wpAny_mkText (wpAny_holding (wpAny_bind (L0.at (wpAny_bind (L1.at ?_))))))
  show wpAny _ _ (getAttrByItsOwn _ _ _ _ _ _) _ _ _
  unfold getAttrByItsOwn hookBefore
  refine wpAny_bind ?_
  refine PySem.bm_if_true (c := onTheHeap (.ref 49)) rfl (L2.at ?_)
  refine wpAny_bind (wpAny_attempt ?_)
  refine wpAny_holding ?_
  unfold callGetattribute boundAndCalled
  refine PySem.bm_if_false (c := expr && onTheHeap (.builtin "dict.__getattribute__")) (by cases expr <;> rfl) ?_
  rw [PySem.F.slot_dict_getattribute.bind]
  refine wpAny_bind (wpAny_pure ?_)
  dsimp only [List.cons_append, List.nil_append]
  refine wpAny_call ?_
  refine codeAny_call_builtin PySem.F.slot_dict_getattribute.plain PySem.F.entry_dict_ga ?_
  have ck := fun E Q => q_check (prog := prog) (A := A.in1) (E := E) (s := ⟨hh, g, dr, t + 1, os⟩) (i := "dict.__getattribute__") (n := "__getattribute__") (rest := [.str safeS t]) (Q := Q) Kf.kind_ga Kf.split_ga X hq (PySem.F.args_dict_getattribute_2 _ _)
  refine ck _ _ ?_
  unfold Builtin.«object.__getattribute__» slotArgs
  refine wpAny_bind (wpAny_pure ?_)
  refine wpAny_bind (m := attrName _) (wpAny_pure (wpAny_bind (L0.at (wpAny_bind (L3.at ?_)))))
  exact wpAny_pure (wpAny_pure h)
end
end Mine
end
section
open PySem PySem.W PyProof.Rows PySem.Calls Builtin Builtin.ObjectAttr
set_option Elab.async false
set_option linter.unusedVariables false
set_option maxRecDepth 100000
namespace Mine
theorem refuse_dict (self : Value) : refuseLoop self "__setattr__" [.type "dict", .type "object"] = pure () := by kernel_rfl
section
variable {prog : Program} {w : World} {A : Around} {E : Value → Shared → Prop} {s : Shared} {q d f : Addr} {es : Array DictEntry} {ep : Nat} {tk : Tok}
theorem put_safe (w : World) (tk : Tok) (f : Addr) : Obj.putName safeS (PyData.keyHash w.params safeS) (.str safeS tk) (.ref f) (dictOf [] 0) = safeDict w tk f := by
  rw [putName_dict]; rfl
set_option maxHeartbeats 1000000 in
theorem q_setattr {R : Result → Shared → Prop} {tn : Tok} (X : (K w.params).In s.heap) (hq : s.heap.get? q = some (qObj d es ep)) (hd : s.heap.get? d = some (dictOf [] 0))
    (h : ∀ h', Heap.SameBut d s.heap h' → h'.get? d = some (safeDict w s.toks f) → R (.ok (.ret .none)) { s with heap := h', toks := s.toks + 1 }) :
    codeAny (model prog w) A (.call (.builtin "object.__setattr__") ⟨[.ref q, .str safeS tn, .ref f], []⟩) R s := by
  have SF := PySem.F.store_object
  have sub : Looks (model prog w) s.heap (isInstance (.ref q) (.type "object")) true := q_isa X hq (Kf.isObject w.params)
  have ty := q_type (M := model prog w) hq
  have hm : Looks (model prog w) s.heap (mroOf (.ref 49)) Kf.cd.mro := (looks_clsIn X (Kf.cls w.params)).andThen .now
  have fd := looks_findIn (M := model prog w) X (Kf.safe w.params)
  have hc := looks_clsIn (M := model prog w) X (Kf.cls w.params)
  refine codeAny_call_builtin SF.slot.plain SF.entry ?_
  have ck := fun E' Q' => @check_slot (model prog w) A.in1 E' s "object.__setattr__" "object" "__setattr__" (.ref q) [.str safeS tn, .ref f] [] Q' SF.kind SF.split sub (SF.args (.ref q) (.str safeS tn) (.ref f))
  refine ck _ _ ?_
  rw [osa_eq, refuse_eq]
  refine wpAny_bind (wpAny_bind (ty.here (wpAny_bind (hm.here ?_))))
  show wpAny _ _ (refuseLoop _ _ [.ref 49, .type "dict", .type "object"]) _ _ _
  rw [refuseLoop_ref, refuse_dict]
  refine wpAny_pure (wpAny_bind (ty.here (wpAny_bind (fd.here ?_))))
  refine wpAny_bind (wpAny_pure ?_)
  dsimp only
  have D' : (s.heap.update d (Obj.putName safeS (PyData.keyHash w.params safeS) (.str safeS s.toks) (.ref f))).get? d = some (safeDict w s.toks f) := by
    have := Heap.get?_update_self (Obj.putName safeS (PyData.keyHash w.params safeS) (.str safeS s.toks) (.ref f)) hd (by rw [put_safe]; rfl)
    rw [put_safe] at this; exact this
  refine wpAny_bind (wpAny_pure (wpAny_bind (wpAny_bind (wpAny_loadPart hq (wpAny_bind (hc.here ?_))))))
  refine wpAny_pure (a := some d) (wpAny_bind (wpAny_pure (wpAny_bind ?_)))
  unfold nsSet
  refine wpAny_bind (wpAny_bind (wpAny_askSetting (wpAny_pure (wpAny_bind (wpAny_mkText (wpAny_bind (wpAny_loadPart hd ?_)))))))
  dsimp only
  rw [aRefKeyMayBeTheName_at]
  refine PySem.bm_if_false (by simp) ?_
  refine wpAny_updatePart (s := { s with toks := s.toks + 1 }) hd ?_
  refine wpAny_bind (wpAny_lookBehind D' (by exact pastItsLine_dict (by rw [sizeLine_eq]; simp)) ?_)
  exact wpAny_pure (h _ (Heap.SameBut.update ..) D')
theorem q_set_safe {Q : Unit → Shared → Prop} (X : (K w.params).In s.heap) (hq : s.heap.get? q = some (qObj d es ep)) (hd : s.heap.get? d = some (dictOf [] 0))
    (h : ∀ h' tk, Heap.SameBut d s.heap h' → h'.get? d = some (safeDict w tk f) → Q () { s with heap := h', toks := s.toks + 1 + 1 }) : wpAny (model prog w) A (setAttr (.ref q) safeS (.ref f)) Q E s := by
  have ty := q_type (M := model prog w) hq
  have fa := looks_findIn (M := model prog w) X (Kf.sattr w.params)
  unfold setAttr
  refine wpAny_bind (wpAny_mkText (wpAny_bind ?_))
  unfold callSpecial? specialOf
  refine wpAny_bind (wpAny_bind (ty _ _ _ _ (fun _ _ e => e) (fa _ _ _ _ (fun _ _ e => e) ?_)))
  dsimp only
  refine wpAny_holding ?_
  rw [PySem.F.store_object.slot.bind]
  refine wpAny_bind (wpAny_pure (wpAny_bind (wpAny_call ?_)))
  refine q_setattr (s := { s with toks := s.toks + 1 }) X hq hd fun h' sb g => ?_
  exact wpAny_pure (wpAny_pure (h h' _ sb g))
end
end Mine
end
section
open PySem PySem.W PyProof.Rows PySem.Calls Builtin Builtin.ObjectAttr
set_option Elab.async false
set_option linter.unusedVariables false
set_option maxRecDepth 100000
namespace Mine
section
variable {prog : Program} {w : World} {A : Around} {E : Value → Shared → Prop} {s : Shared} {R : Result → Shared → Prop} {h : Heap}
theorem lk_made (X : (K w.params).In h) : Looks (model prog w) h (Bind.madeBy (.ref 49)) (some "dict.__new__") := Looks.of_peek X (by kernel_rfl)
theorem lk_check (X : (K w.params).In h) (v : Value) : Looks (model prog w) h (checkBuiltinCall "dict.__new__" ⟨[.ref 49, v], []⟩) () := Looks.of_peek X (by kernel_rfl)
theorem lk_isType (X : (K w.params).In h) : Looks (model prog w) h (isType (.ref 49)) true := Looks.of_peek X (by kernel_rfl)
theorem lk_mro (X : (K w.params).In h) : Looks (model prog w) h (mroOf (.ref 49)) [.ref 49, .type "dict", .type "object"] := Looks.of_peek X (by kernel_rfl)
theorem lk_call (X : (K w.params).In h) : Looks (model prog w) h (specialOf (.ref 49) "__call__") (some (.builtin "type.__call__")) := Looks.of_peek X (by kernel_rfl)
theorem lk_typ (X : (K w.params).In h) : Looks (model prog w) h (isInstance (.ref 49) (.type "type")) true := Looks.of_peek X (by kernel_rfl)
theorem lk_del (X : (K w.params).In h) : Looks (model prog w) h (classHasDel 49) false := Looks.of_peek X (by kernel_rfl)
theorem q_new {v : Value} (X : (K w.params).In s.heap) (hR : R (.ok (.ret (.ref (s.heap.objs.size + 1)))) { s with heap := (s.heap.push (dictOf [] 0)).push (qObj s.heap.objs.size #[] 0) }) :
    codeAny (model prog w) A (.call (.builtin "dict.__new__") ⟨[.ref 49, v], []⟩) R s := by
  refine codeAny_call_builtin PySem.F.kt_plain_dict_new PySem.F.kt_entry_dict_new ?_
  refine lk_check X v _ _ _ _ (fun _ _ e => e) ?_
  unfold Builtin.«dict.__new__»
  refine wpAny_bind (lk_isType X _ _ _ _ (fun _ _ e => e) ?_)
  refine PySem.bm_if_false rfl ?_
  refine wpAny_bind (looks_mroIn X (Kf.isDict w.params) _ _ _ _ (fun _ _ e => e) ?_)
  refine PySem.bm_if_false rfl ?_
  refine wpAny_bind (lk_mro X _ _ _ _ (fun _ _ e => e) ?_)
  refine PySem.bm_if_false (by decide +kernel) ?_
  dsimp only
  refine wpAny_bind (wpAny_alloc (wpAny_bind ?_))
  unfold newObj
  dsimp only
  rw [if_neg (by simp)]
  unfold newObjAsIs
  refine wpAny_bind (wpAny_alloc (wpAny_bind (lk_del (X.keeps fun b o e => Heap.get?_push_of_some _ (Heap.get?_push_of_some _ e)) _ _ _ _ (fun _ _ e => e) ?_)))
  refine PySem.bm_if_false rfl (wpAny_pure (wpAny_pure ?_))
  rw [Heap.size_push]
  exact hR
set_option maxHeartbeats 1000000 in
theorem q_make {v : Value} (X : (K w.params).In s.heap)
    (hq : codeAny (model prog w) (A.under (.builtin "type.__call__" ⟨[.ref 49, v], []⟩)) (.call (.ref 32) ⟨[.ref (s.heap.objs.size + 1), v], []⟩) (InitBack (s.heap.objs.size + 1) R) { s with heap := (s.heap.push (dictOf [] 0)).push (qObj s.heap.objs.size #[] 0) }) :
    codeAny (model prog w) A (.call (.ref 49) ⟨[v], []⟩) R s := by
  obtain ⟨od, hC⟩ : ∃ o, s.heap.get? 49 = some o ∧ o = o49_d1 w.params := ⟨_, X 49 _ (by kernel_rfl), rfl⟩
  have k : ∀ b o, s.heap.get? b = some o → ((s.heap.push (dictOf [] 0)).push (qObj s.heap.objs.size #[] 0)).get? b = some o := fun b o e => Heap.get?_push_of_some _ (Heap.get?_push_of_some _ e)
  have X' := X.keeps k
  have hx : ((s.heap.push (dictOf [] 0)).push (qObj s.heap.objs.size #[] 0)).get? (s.heap.objs.size + 1) = some (qObj s.heap.objs.size #[] 0) := by
    have := Heap.get?_push_size (s.heap.push (dictOf [] 0)) (o := qObj s.heap.objs.size #[] 0) rfl
    rwa [Heap.size_push] at this
  refine codeAny_of_tree ?_
  show wpAny _ _ (callAny (.ref 49) _) _ _ _
  refine nd_load hC.1 ?_
  rw [hC.2]
  show wpAny _ _ (callAny.viaDunder (.ref 49) _) _ _ _
  unfold callAny.viaDunder
  refine wpAny_bind (lk_call X _ _ _ _ (fun _ _ e => e) ?_)
  dsimp only
  rw [tc_bind]
  refine wpAny_bind (wpAny_pure (wpAny_bind (wpAny_pure ?_)))
  refine wpAny_pure (a := Fin.again (.call (.builtin "type.__call__") ⟨[.ref 49, v], []⟩)) (And.intro rfl ?_)
  refine codeAny_call_builtin_at (Code.quiet_builtin _ (by decide +kernel)) entry_typeCall ?_
  have ck := fun A' E' Q' => @check_slot (model prog w) A' E' s "type.__call__" "type" "__call__" (.ref 49) [v] [] Q' tc_kind tc_split (lk_typ X) (tc_args _ _ _)
  refine ck _ _ _ ?_
  unfold Builtin.«type.__call__»
  refine PySem.bm_if_false rfl ?_
  dsimp only
  refine wpAny_bind (lk_mro X _ _ _ _ (fun _ _ e => e) ?_)
  refine PySem.bm_if_false rfl ?_
  refine wpAny_bind (lk_made X _ _ _ _ (fun _ _ e => e) ?_)
  dsimp only
  refine wpAny_bind (wpAny_pure (wpAny_bind (wpAny_holding (wpAny_call (q_new X ?_)))))
  dsimp only
  have li := q_isa (M := model prog w) (w := w) X' hx (show mroIn (K w.params) 49 (.ref 49) = some true by kernel_rfl)
  refine wpAny_bind (li _ _ _ _ (fun _ _ e => e) ?_)
  refine PySem.bm_if_false rfl ?_
  refine wpAny_bind (wpAny_holding ?_)
  unfold callSpecial? specialOf
  refine wpAny_bind (wpAny_bind (q_type (M := model prog w) hx _ _ _ _ (fun _ _ e => e) (looks_findIn X' (Kf.init w.params) _ _ _ _ (fun _ _ e => e) ?_)))
  dsimp only
  refine wpAny_holding (wpAny_bind (bind_fn X' _ (Kf.fnInit w.params) _ _ _ _ (fun _ _ e => e) ?_))
  dsimp only
  refine wpAny_bind (wpAny_call (codeAny_mono hq fun r s' z => ?_))
  rcases r with e | (v | _ | _ | _) <;> first | exact z | exact z.elim | skip
  obtain ⟨rfl, z⟩ := z
  exact wpAny_pure (PySem.bm_if_false rfl (wpAny_pure z))
end
end Mine
end
section
open PySem PySem.W PyProof.Rows PySem.Calls Builtin Builtin.ObjectAttr
set_option Elab.async false
set_option linter.unusedVariables false
set_option maxRecDepth 100000
namespace Mine
/-- what every heap of the law's run has -/
structure Base (w : World) (h : Heap) : Prop where
  k : (K w.params).In h
  s15 : h.get? 15 = some (o15_c3 w.params)
  g : ∃ mg, h.Ns mainGlobals mg
  b : ∃ mb, h.Ns builtinsNs mb ∧ ∀ x : Str, x ≠ "__name__" → mb x = bootBuiltins x
  lim : h.NoLimit
  nod : ∃ mc, h.Ns cStatics mc ∧ mc "sys.int_max_str_digits" = none
theorem Base.keeps {w : World} {h h' : Heap} (B : Base w h) (k : ∀ b o, h.get? b = some o → h'.get? b = some o) : Base w h' where
  k := B.k.keeps k
  s15 := k _ _ B.s15
  g := let ⟨mg, x⟩ := B.g; ⟨mg, PySem.Heap.Ns.keeps x k⟩
  b := let ⟨mb, x, y⟩ := B.b; ⟨mb, PySem.Heap.Ns.keeps x k, y⟩
  lim := B.lim.keeps k
  nod := let ⟨mc, x, y⟩ := B.nod; ⟨mc, PySem.Heap.Ns.keeps x k, y⟩
section
variable {M : Model} {w : World} {A : Around} {E : Value → Shared → Prop} {s : Shared} {env : Env}
theorem Base.glob (B : Base w s.heap) {x : Str} {pos : Pos} {v : Value} {Q : Value → Shared → Prop} (e : nsIn (K w.params) mainGlobals x = some (some v)) (h : Q v s)
    (hg : env.globals = mainGlobals := by rfl) (hk : env.scope.kind = .function := by rfl) (hx : env.kindOf x = some .globalImplicit := by rfl) (hd : (x == ("__debug__" : Str)) = false := by decide) :
    wpAny M A (eval (.Name x pos) env) Q E s := by
  obtain ⟨mg, G⟩ := B.g
  refine wpAny_Name ?_ hd
  rw [loadName_read hk hx]
  exact loadGlobal_global (hg ▸ G) (mg_of B.k G e) h
theorem Base.blt (B : Base w s.heap) {x : Str} {pos : Pos} {v : Value} {Q : Value → Shared → Prop} (e : nsIn (K w.params) mainGlobals x = some none) (eb : bootBuiltins x = some v) (h : Q v s) (hn : x ≠ "__name__" := by decide)
    (hg : env.globals = mainGlobals := by rfl) (hb : env.builtins = builtinsNs := by rfl) (hk : env.scope.kind = .function := by rfl) (hx : env.kindOf x = some .globalImplicit := by rfl) (hd : (x == ("__debug__" : Str)) = false := by decide) :
    wpAny M A (eval (.Name x pos) env) Q E s := by
  obtain ⟨mg, G⟩ := B.g
  obtain ⟨mb, H, hm⟩ := B.b
  refine wpAny_Name ?_ hd
  rw [loadName_read hk hx]
  exact loadGlobal_builtin (hg ▸ G) (mg_none_of B.k G e) (hb ▸ H) ((hm x hn).trans eb) h
end
abbrev fdOf (name qual : Str) (params : Arguments) (body : List Stmt) (scope : Scope) (md : Str) (t : Nat) (c : Addr) : FuncData :=
  ⟨name, qual, params, .stmts body, scope, 3, [], .none, .none, .none, .str md t, none, .ref c, .none, 0⟩
def fd32 : FuncData := fdOf (Str.ofString "__init__") (Str.ofString "_Quoter.__init__") initP initB initS (Str.ofString "cpy313.urllib.parse") 187 31
def fd46 : FuncData := fdOf (Str.ofString "__missing__") (Str.ofString "_Quoter.__missing__") missP missB missS (Str.ofString "cpy313.urllib.parse") 187 45
def fd60 : FuncData := fdOf (Str.ofString "_law_written") (Str.ofString "_law_written") writP writB writS (Str.ofString "law_dn0241_02") 368 59
theorem K32 (P : Params) : (K P).lookup 32 = some ⟨.type "function", none, .func fd32, #[]⟩ := by kernel_rfl
theorem K46 (P : Params) : (K P).lookup 46 = some ⟨.type "function", none, .func fd46, #[]⟩ := by kernel_rfl
theorem K60 (P : Params) : (K P).lookup 60 = some ⟨.type "function", none, .func fd60, #[]⟩ := by kernel_rfl
theorem C32 (P : Params) : codeIn (K P) fd32.code fd32.qualname = true := by kernel_rfl
theorem C46 (P : Params) : codeIn (K P) fd46.code fd46.qualname = true := by kernel_rfl
theorem C60 (P : Params) : codeIn (K P) fd60.code fd60.qualname = true := by kernel_rfl
theorem G_safe (P : Params) : nsIn (K P) mainGlobals (Str.ofString "_ALWAYS_SAFE") = some (some (.ref 15)) := by kernel_rfl
theorem G_quoter (P : Params) : nsIn (K P) mainGlobals (Str.ofString "_Quoter") = some (some (.ref 49)) := by kernel_rfl
theorem G_written (P : Params) : nsIn (K P) mainGlobals (Str.ofString "_law_written") = some (some (.ref 60)) := by kernel_rfl
theorem G_chr (P : Params) : nsIn (K P) mainGlobals (Str.ofString "chr") = some none := by kernel_rfl
theorem bind32 (x y : Value) : bindArgs fd32 ⟨[x, y], []⟩ = pure [(Str.ofString "self", x), (Str.ofString "safe", y)] := by kernel_rfl
theorem bind46 (x y : Value) : bindArgs fd46 ⟨[x, y], []⟩ = pure [(Str.ofString "self", x), (Str.ofString "b", y)] := by kernel_rfl
theorem bind60 (x y : Value) : bindArgs fd60 ⟨[x, y], []⟩ = pure [(Str.ofString "c", x), (Str.ofString "safe", y)] := by kernel_rfl
section
variable {prog : Program} {w : World} {A : Around} {E : Value → Shared → Prop} {s : Shared} {R : Result → Shared → Prop}
/-- the call of a def of the text with two arguments -/
theorem call_two {f : Addr} {fd : FuncData} {x y : Value} {n1 n2 : Str} {body : List Stmt} (B : Base w s.heap) (hroom : A.depth < recursionLimit)
    (hl : (K w.params).lookup f = some ⟨.type "function", none, .func fd, #[]⟩) (hc : codeIn (K w.params) fd.code fd.qualname = true) (hb : fd.body = .stmts body)
    (hbind : bindArgs fd ⟨[x, y], []⟩ = pure [(n1, x), (n2, y)]) (hcell : ∀ x ∈ fd.scope.names, x.2 ≠ .cell) (hloc : fd.scope.names.lookup n1 = some .local ∧ fd.scope.names.lookup n2 = some .local)
    (hco : fd.scope.isCoroutine = false) (hgen : fd.scope.isGenerator = false) (hk : fd.scope.kind = .function)
    (h : ∀ h₁, Fr s.heap s.heap.objs.size h₁ (fun z => [(n2, y), (n1, x)].lookup z) →
      wpAny (model prog w) (A.deeper (callEnv fd s.heap.objs.size f)) (execs body (callEnv fd s.heap.objs.size f)) (fun f s' => R (.ok (.ret (match f with | .ret v => v | _ => .none))) s')
        (fun e s' => wpAny (model prog w) (A.deeper (callEnv fd s.heap.objs.size f)) (leaving (callEnv fd s.heap.objs.size f) e) (fun _ s'' => R (.error e) s'') (fun e' s'' => R (.error e') s'') s')
        { s with heap := h₁, toks := s.toks + 2 }) :
    codeAny (model prog w) A (.call (.ref f) ⟨[x, y], []⟩) R s := by
  refine codeAny_call_plain hroom (B.k _ _ hl) rfl B.lim (codeRec_of B.k hc) hb hbind hcell (fun z hz => ?_) (fun h₀ hn hk₀ => ?_) hco hgen hk
  · simp only [List.mem_cons, List.not_mem_nil, or_false] at hz
    rcases hz with rfl | rfl
    · exact hloc.1
    · exact hloc.2
  · exact h h₀ ⟨hn, hk₀, Nat.le_refl _⟩
end
end Mine
end
section
open PySem PySem.W PyProof.Rows PySem.Calls Builtin Builtin.ObjectAttr
set_option Elab.async false
set_option linter.unusedVariables false
set_option maxRecDepth 100000
namespace Mine
/-- the signs that are always safe -/
def alw (k : Int) : Bool := (decide (65 ≤ k) && decide (k ≤ 90)) || (decide (97 ≤ k) && decide (k ≤ 122)) || (decide (48 ≤ k) && decide (k ≤ 57)) || (k == 45) || (k == 46) || (k == 95) || (k == 126)
theorem alw_range {k : Int} (h : alw k = true) : 0 ≤ k ∧ k < 128 := by
  unfold alw at h
  simp only [Bool.or_eq_true, Bool.and_eq_true, decide_eq_true_eq, beq_iff_eq] at h
  omega
def alwL : List Int := ((List.range 128).map Int.ofNat).filter alw
theorem alw_mem (k : Int) : alw k = true ↔ k ∈ alwL := by
  unfold alwL
  rw [List.mem_filter, List.mem_map]
  refine ⟨fun h => ⟨⟨k.toNat, ?_, ?_⟩, h⟩, fun h => h.2⟩
  · have := alw_range h; rw [List.mem_range]; omega
  · have := alw_range h; show ((k.toNat : Nat) : Int) = k; omega
def es15 (P : Params) : Array (Int × Value) := match (o15_c3 P).data with | .set es _ _ => es | _ => #[]
def tb15 (P : Params) : SetTable := match (o15_c3 P).data with | .set _ _ t => t | _ => .fresh 0 0 false
def ep15 (P : Params) : Nat := match (o15_c3 P).data with | .set _ n _ => n | _ => 0
theorem o15_is (P : Params) : o15_c3 P = fsObj (es15 P) (ep15 P) (tb15 P) := rfl
theorem es15_keys (P : Params) : (es15 P).toList.map (·.1) = alwL := by kernel_rfl
theorem es15_ok (P : Params) : (es15 P).toList.all (fun e => match e.2 with | .int k _ => k == e.1 && decide (0 ≤ k) && decide (k < 128) | _ => false) = true := by kernel_rfl
theorem fs15 (w : World) : FsOk w alw 66 (es15 w.params) (tb15 w.params) where
  els := fun e he => by
    have := List.all_eq_true.mp (es15_ok w.params) e he
    obtain ⟨a, v⟩ := e
    cases v <;> simp_all
    omega
  nodup := by rw [es15_keys]; decide +kernel
  mem := fun k => by rw [es15_keys]; exact alw_mem k
  fits := by kernel_rfl
  led := rfl
  size := by kernel_rfl
theorem Base.fs {w : World} {h : Heap} (B : Base w h) : FsAt w h 15 alw 66 := ⟨_, _, _, (o15_is _) ▸ B.s15, fs15 w⟩
end Mine
end
section
open PySem PySem.W PyProof.Rows PySem.Calls Builtin Builtin.ObjectAttr
set_option Elab.async false
set_option linter.unusedVariables false
set_option maxRecDepth 100000
namespace Mine
/-- room for a call -/
structure Rm (A : Around) : Prop where
  h : A.handled = none
  d : A.depth ≤ 400
  u : A.units ≤ 400
theorem tcW (v : Value) : (Code.builtin "type.__call__" ⟨[.ref 49, v], []⟩).weight = 1 := by kernel_rfl
theorem tcU (v : Value) : (Code.builtin "type.__call__" ⟨[.ref 49, v], []⟩).cUnits = 1 := by kernel_rfl
section
variable {prog : Program} {w : World} {A : Around} {E : Value → Shared → Prop} {s : Shared} {R : Result → Shared → Prop}
set_option maxHeartbeats 1000000 in
/-- the body of __init__ -/
theorem init_body {h₀ : Heap} {L q d : Addr} {v : Value} {T : Int → Bool} {Q : Flow → Shared → Prop} (B : Base w h₀) (F : Fr h₀ L s.heap (fun z => [(Str.ofString "safe", v), (Str.ofString "self", .ref q)].lookup z))
    (hv : v ≠ .ref 15) (G : Gives prog w A.in1 E v T s.heap) (hq : s.heap.get? q = some (qObj d #[] 0)) (hd : s.heap.get? d = some (dictOf [] 0))
    (h : ∀ f h' tk tk' n', Ext [d] s.heap h' → s.heap.get? f = none → h'.get? d = some (safeDict w tk' f) → FsAt w h' f (fun k => alw k || T k) n' → 66 ≤ n' → Q .next { s with heap := h', toks := tk }) :
    wpAny (model prog w) A (execs initB (callEnv fd32 L 32)) Q E s := by
  have Bs : Base w s.heap := B.keeps F.keep
  obtain ⟨es, ep, t, ho, x⟩ := Bs.fs
  refine wpAny_execs_cons ?_
  refine plainObj_wpAny_Assign_Attribute ?_
  refine MethodCall_ ?_
  refine Bs.glob (G_safe _) ?_
  refine getMethod_union ho ?_
  refine callWith_method1 ?_
  refine args_cons ?_
  refine ldc rfl rfl F.ns rfl ?_
  refine args_nil ?_
  refine call_union ho x (by decide) (by decide) hv G fun r h' tk n' ex nr xr le => ?_
  have F' : Fr h₀ L h' _ := ⟨PySem.Heap.Ns.keeps F.ns fun b o e => ex b o (by simp) e, fun b o e => ex b o (by simp) (F.keep b o e), F.above⟩
  refine ldc (s := { s with heap := h', toks := tk }) rfl rfl F'.ns rfl ?_
  refine q_set_safe (s := { s with heap := h', toks := tk }) (B.keeps F'.keep).k (ex _ _ (by simp) hq) (ex _ _ (by simp) hd) fun h'' tk' sb g => ?_
  refine wpAny_execs_nil ?_
  have rd : r ≠ d := fun e => by rw [e, hd] at nr; cases nr
  refine h r h'' _ tk' n' ?_ nr g (xr.at fun o e => (sb.2 r rd).trans e) le
  exact fun b o hb e => Ext.of_same sb b o hb (ex b o (by simp) e)
end
section
variable {prog : Program} {w : World} {A : Around} {E : Value → Shared → Prop} {s : Shared} {R : Result → Shared → Prop}
set_option maxHeartbeats 1000000 in
/-- a quoter is made -/
theorem mk_quoter {v : Value} {T : Int → Bool} (B : Base w s.heap) (rm : Rm A) (hv : v ≠ .ref 15)
    (G : ∀ A' E' h', A'.handled = none → Ext [] s.heap h' → Gives prog w A' E' v T h')
    (h : ∀ q d f h' tk tk' n', 1 < q → Ext [] s.heap h' → s.heap.get? q = none → s.heap.get? d = none → s.heap.get? f = none → q ≠ d → q ≠ f → d ≠ f → h'.get? q = some (qObj d #[] 0) → h'.get? d = some (safeDict w tk' f) →
      FsAt w h' f (fun k => alw k || T k) n' → 66 ≤ n' → R (.ok (.ret (.ref q))) { s with heap := h', toks := tk }) :
    codeAny (model prog w) A (.call (.ref 49) ⟨[v], []⟩) R s := by
  refine q_make B.k ?_
  have k : ∀ b o, s.heap.get? b = some o → ((s.heap.push (dictOf [] 0)).push (qObj s.heap.objs.size #[] 0)).get? b = some o := fun b o e => Heap.get?_push_of_some _ (Heap.get?_push_of_some _ e)
  have hx : ((s.heap.push (dictOf [] 0)).push (qObj s.heap.objs.size #[] 0)).get? (s.heap.objs.size + 1) = some (qObj s.heap.objs.size #[] 0) := by
    have := Heap.get?_push_size (s.heap.push (dictOf [] 0)) (o := qObj s.heap.objs.size #[] 0) rfl
    rwa [Heap.size_push] at this
  have hdd : ((s.heap.push (dictOf [] 0)).push (qObj s.heap.objs.size #[] 0)).get? s.heap.objs.size = some (dictOf [] 0) := Heap.get?_push_of_some _ (Heap.get?_push_size _ rfl)
  generalize (s.heap.push (dictOf [] 0)).push (qObj s.heap.objs.size #[] 0) = hp at k hx hdd ⊢
  refine call_two (s := { s with heap := hp }) (B.keeps k) ?_ (K32 _) (C32 _) rfl (bind32 _ _) (by decide) ⟨rfl, rfl⟩ rfl rfl rfl fun h₁ F => ?_
  · show A.depth + (Code.builtin "type.__call__" ⟨[.ref 49, v], []⟩).weight < 1000
    rw [tcW]; have := rm.d; omega
  have k₁ : ∀ b o, s.heap.get? b = some o → h₁.get? b = some o := fun b o e => F.keep b o (k b o e)
  refine init_body (s := { s with heap := h₁, toks := s.toks + 2 }) (B.keeps k) F hv (G _ _ _ rm.h fun b o _ e => k₁ b o e) (F.keep _ _ hx) (F.keep _ _ hdd) fun f h' tk tk' n' ex nf gd gf le => ?_
  refine ⟨rfl, ?_⟩
  have sz : s.heap.get? s.heap.objs.size = none := get_size _
  refine h _ s.heap.objs.size f h' tk tk' n' ?_ ?_ (PySem.Heap.get?_none_of_le (Nat.le_succ _)) sz ?_ (Nat.ne_of_gt (Nat.lt_succ_self _)) ?_ ?_ ?_ gd gf le
  · have hz : 49 < s.heap.objs.size := Heap.lt_size (B.k 49 (o49_d1 w.params) (by kernel_rfl))
    exact Nat.lt_succ_of_lt (Nat.lt_of_le_of_lt (by decide) hz)
  · intro b o _ e
    refine ex b o (fun hb => ?_) (k₁ b o e)
    rw [List.mem_singleton] at hb
    rw [hb, sz] at e; cases e
  · cases e : s.heap.get? f with
    | none => rfl
    | some o => have := k₁ _ _ e; rw [nf] at this; cases this
  · intro e; have := F.keep _ _ hx; rw [e, nf] at this; cases this
  · intro e; have := F.keep _ _ hdd; rw [e, nf] at this; cases this
  · exact ex _ _ (by simp) (F.keep _ _ hx)
end
end Mine
end
section
open PySem PySem.W PyProof.Rows PySem.Calls Builtin Builtin.ObjectAttr
set_option Elab.async false
set_option linter.unusedVariables false
set_option maxRecDepth 100000
namespace Mine
def hx (d : Nat) : Nat := if d < 10 then 48 + d else 55 + d
/-- the percent text of an octet -/
def pct (n : Int) : PySem.Str := ⟨#[37, hx (n.toNat / 16), hx (n.toNat % 16)]⟩
def hex2 (n : Int) : PySem.Str := ⟨#[hx (n.toNat / 16), hx (n.toNat % 16)]⟩
abbrev spec2 : PySem.Str := ⟨#[48, 50, 88]⟩
theorem all256 {α : Type} [DecidableEq α] (f g : Nat → α) (h : ∀ k : _root_.Fin 256, f k.val = g k.val) (k : Nat) (hk : k < 256) : f k = g k := h ⟨k, hk⟩
theorem le256 (f : Nat → PySem.Str) (h : ∀ k : _root_.Fin 256, (f k.val).length ≤ 2) (k : Nat) (hk : k < 256) : (f k).length ≤ 2 := h ⟨k, hk⟩
section
variable {prog : Program} {w : World} {A : Around} {E : Value → Shared → Prop} {s : Shared}
set_option maxHeartbeats 2000000 in
theorem int_fmt {n : Int} {u t : Tok} (h0 : 0 ≤ n) (h1 : n < 256) : Meets («int.__format__» ⟨[.int n u, .str spec2 t], []⟩) (fun _ R s => ∀ t' k, R (.ok (.ret (.str (hex2 n) t'))) { s with toks := k }) := by
  apply KPc.meets_of
  intro pr w A s Q E hq
  unfold Builtin.«int.__format__»
  refine wpAny_bind (wpAny_of_eq (a := (_, _)) rfl ?_)
  refine wpAny_bind (wpAny_of_eq (a := _) rfl ?_)
  kxf_if
  refine wpAny_bind (wpAny_typeNameOf (T := "str") (typeIs_str _ _ _) (by decide) fun _ => ?_)
  refine wpAny_bind (wpAny_of_eq (a := some _) rfl ?_)
  kxf_if
  kxf_if
  refine wpAny_bind (wpAny_typeNameOfCut_int ?_)
  repeat kxf_if
  wp_delta
  repeat kxf_if
  refine KXf.ret_text (T := hex2 n) ?_ ?_ ?_
  · obtain ⟨k, rfl⟩ : ∃ k : Nat, n = (k : Int) := ⟨n.toNat, by omega⟩
    obtain ⟨j, rfl⟩ : ∃ j : _root_.Fin 256, k = j.val := ⟨⟨k, by omega⟩, rfl⟩
    clear h0 h1 hq
    revert j
    decide +kernel
  · obtain ⟨k, rfl⟩ : ∃ k : Nat, n = (k : Int) := ⟨n.toNat, by omega⟩
    refine Nat.le_trans (m := 2) ?_ (by rw [sizeLine_eq]; decide)
    obtain ⟨j, rfl⟩ : ∃ j : _root_.Fin 256, k = j.val := ⟨⟨k, by omega⟩, rfl⟩
    clear h0 h1 hq
    revert j
    decide +kernel
  · exact hq
end
end Mine
end
section
open PySem PySem.W PyProof.Rows PySem.Calls Builtin Builtin.ObjectAttr
set_option Elab.async false
set_option linter.unusedVariables false
set_option maxRecDepth 100000
namespace Mine
abbrev fmtS : PySem.Str := ⟨#[37, 123, 58, 48, 50, 88, 125]⟩
section
variable {prog : Program} {w : World} {A : Around} {E : Value → Shared → Prop} {s : Shared}
theorem formatOf_hex {n : Int} {u : Tok} {spec : PySem.Str} {Q : Value → Shared → Prop} (hs : spec = spec2) (h0 : 0 ≤ n) (h1 : n < 256) (h : ∀ t' k, Q (.str (hex2 n) t') { s with toks := k }) :
    wpAny (model prog w) A (PySem.Builtin.Str.formatOf (.int n u) spec) Q E s := by
  subst hs
  unfold PySem.Builtin.Str.formatOf
  refine wpAny_ite (KPc.ite_no Bool.false_ne_true ?_)
  refine wpAny_bind (wpAny_mkStr ?_ (by decide))
  refine wpAny_bind (m := callSpecial? (.int n u) (PySem.Str.ofString "__format__") [.str spec2 s.toks]) (wpAny_callSpecial?_slot (name := PySem.Str.ofString "__format__") (typeIs_int _ n u) F.slot_int_format
    (call_meets F.slot_int_format (typeIs_int _ n u) F.entry_int_format (F.args_int_format_2 _ _) (int_fmt h0 h1) fun t' k => ?_))
  refine wpAny_bind (wpAny_of_eq (a := some (hex2 n)) rfl ?_)
  refine wpAny_ite (KPc.ite_no Bool.false_ne_true ?_)
  exact wpAny_pure (h _ _)
theorem hex2_len (n : Int) : (hex2 n).length = 2 := rfl
theorem pct_cat (n : Int) : ((PySem.Str.empty ++ (⟨#[37]⟩ : PySem.Str)) ++ hex2 n) = pct n := by
  rw [KFm.cat_ex]; rfl
set_option maxHeartbeats 2000000 in
theorem fmt_meets {n : Int} {u t : Tok} (h0 : 0 ≤ n) (h1 : n < 256) : Meets («str.format» ⟨[.str fmtS t, .int n u], []⟩) (fun _ R s => ∀ t' k, R (.ok (.ret (.str (pct n) t'))) { s with toks := k }) := by
  apply KPc.meets_of
  intro pr w A s Q E hq
  unfold Builtin.«str.format»
  refine wpAny_bind (wpAny_of_eq (a := (_, _, _)) rfl ?_)
  refine wpAny_bind ?_
  unfold Builtin.Str.buildString
  refine wpAny_bind ?_
  rw [KPc.range_list]
  refine KFm.start ?_
  intro w₀ g₀
  refine KPc.turn ?_
  kpc_if
  kpc_check
  refine wpAny_bind (KFm.field_auto (by kfm_num) (by rfl) ?_)
  refine wpAny_bind (wpAny_holding (wpAny_of_eq (a := _) rfl ?_))
  kpc_if
  refine wpAny_bind (wpAny_pure ?_)
  refine wpAny_bind (wpAny_holding (formatOf_hex (by decide +kernel) h0 h1 ?_))
  intro t' k
  refine wpAny_bind (wpAny_of_eq (a := some _) rfl ?_)
  refine wpAny_pure ?_
  refine KFm.after_field (x' := ⟨#[37]⟩) (K := 2) (T' := pct n) (r' := []) g₀ (by decide +kernel) (by kpc_obj) (Nat.le_of_eq (hex2_len n)) (by kpc_obj) (pct_cat n) (by decide +kernel) ?_
  intro w₁ g₁
  refine KPc.turn ?_
  kpc_if
  kfm_close
theorem fmt_call {n : Int} {u t : Tok} {X : PySem.Str} {Q : Value → Shared → Prop} (hX : X = fmtS) (h0 : 0 ≤ n) (h1 : n < 256) (h : ∀ t' k, Q (.str (pct n) t') { s with toks := k }) :
    wpAny (model prog w) A (call (.builtin "str.format") [.str X t, .int n u]) Q E s := KFm.call_k hX (KFm.args_2 _ _) (fmt_meets h0 h1) h
end
end Mine
end
section
open PySem PySem.W PyProof.Rows PySem.Calls Builtin Builtin.ObjectAttr
set_option Elab.async false
set_option linter.unusedVariables false
set_option maxRecDepth 100000
namespace Mine
/-- an entry of a quoter: an octet with its text -/
def ent (W : Int → PySem.Str) (x : Int × Tok × Tok) : DictEntry := ⟨hashInt x.1, .int x.1 x.2.1, .str (W x.1) x.2.2⟩
def EsOk (W : Int → PySem.Str) (ks : List Int) (es : Array DictEntry) : Prop := ∃ l : List (Int × Tok × Tok), es.toList = l.map (ent W) ∧ l.map (·.1) = ks
theorem EsOk.nil (W : Int → PySem.Str) : EsOk W [] #[] := ⟨[], rfl, rfl⟩
theorem EsOk.size {W : Int → PySem.Str} {ks : List Int} {es : Array DictEntry} (x : EsOk W ks es) : es.size = ks.length := by
  obtain ⟨l, e, rfl⟩ := x
  rw [← Array.length_toList, e]; simp
theorem EsOk.push {W : Int → PySem.Str} {ks : List Int} {es : Array DictEntry} (x : EsOk W ks es) (k : Int) (t t' : Tok) : EsOk W (ks ++ [k]) (es.push (ent W (k, t, t'))) := by
  obtain ⟨l, e, rfl⟩ := x
  exact ⟨l ++ [(k, t, t')], by simp [e], by simp⟩
theorem EsOk.keys {W : Int → PySem.Str} {ks : List Int} {es : Array DictEntry} (prog : Program) (w : World) (x : EsOk W ks es) : KeysOf (intKind prog w) es := fun e he => by
  obtain ⟨l, q, rfl⟩ := x
  have : e ∈ l.map (ent W) := by rw [← q]; exact Array.mem_toList_iff.mpr he
  obtain ⟨y, hy, rfl⟩ := List.mem_map.mp this
  exact ⟨y.1, by simp [intKind, ent, Value.isInt], rfl⟩
theorem EsOk.find {W : Int → PySem.Str} {ks : List Int} {es : Array DictEntry} (prog : Program) (w : World) (x : EsOk W ks es) (k : Int) :
    (∃ i t, (es.findIdx? fun e => (intKind prog w).is k e.key) = some i ∧ (es[i]?).map (·.val) = some (.str (W k) t) ∧ k ∈ ks) ∨ ((es.findIdx? fun e => (intKind prog w).is k e.key) = none ∧ k ∉ ks) := by
  obtain ⟨l, q, rfl⟩ := x
  obtain ⟨el⟩ := es
  dsimp only at q
  subst q
  simp only [List.findIdx?_toArray, List.getElem?_toArray]
  induction l with
  | nil => exact .inr ⟨rfl, by simp⟩
  | cons y l ih =>
    simp only [List.map_cons, List.findIdx?_cons]
    have hy : (intKind prog w).is k (ent W y).key = decide (y.1 = k) := by simp only [intKind, ent, Value.isInt]; exact Bool.eq_iff_iff.mpr (by simp)
    rw [hy]
    by_cases e : y.1 = k
    · refine .inl ⟨0, y.2.2, by simp [e], ?_, by simp [e]⟩
      subst e
      rfl
    · rw [decide_eq_false e]
      rcases ih with ⟨i, t, h1, h2, h3⟩ | ⟨h1, h2⟩
      · refine .inl ⟨i + 1, t, by simp [h1], by simpa using h2, .tail _ h3⟩
      · exact .inr ⟨by simp [h1], by simpa [Ne.symm e] using h2⟩
section
variable {prog : Program} {w : World} {A : Around} {E : Value → Shared → Prop} {s : Shared} {q d f : Addr} {es : Array DictEntry} {ep : Nat} {W : Int → PySem.Str} {ks : List Int} {k : Int} {t : Tok}
theorem q_dictGet {Q : Option Value → Shared → Prop} (hq : s.heap.get? q = some (qObj d es ep)) (x : EsOk W ks es) (h1 : k ∈ ks → ∀ t', Q (some (.str (W k) t')) { s with toks := s.toks + 1 }) (h2 : k ∉ ks → Q none { s with toks := s.toks + 1 }) :
    wpAny (model prog w) A (dictGet q (.int k t)) Q E s := by
  unfold dictGet
  refine wpAny_holding (wpAny_bind ((intKind prog w).pyHash (k := k) (by simp [intKind, Value.isInt]) (wpAny_bind (wpAny_dictFind_of (knd := intKind prog w) (s := { s with toks := s.toks + 1 }) (by simp [intKind, Value.isInt]) hq rfl (x.keys prog w) ?_))))
  rcases x.find prog w k with ⟨i, t', e1, e2, e3⟩ | ⟨e1, e2⟩
  · rw [e1]
    refine wpAny_bind (wpAny_dictEntries (s := { s with toks := s.toks + 1 }) hq rfl (wpAny_pure ?_))
    rw [e2]
    exact h1 e3 t'
  · rw [e1]
    exact wpAny_pure (h2 e2)
theorem q_dictSet {v : PySem.Str} {tv : Tok} {Q : Unit → Shared → Prop} (hq : s.heap.get? q = some (qObj d es ep)) (x : EsOk W ks es) (hk : k ∉ ks) (hz : es.size ≤ 4096) (hv : v = W k)
    (h : ∀ h', Heap.SameBut q s.heap h' → h'.get? q = some (qObj d (es.push (ent W (k, t, tv))) (ep + 1)) → Q () { s with heap := h', toks := s.toks + 1 }) :
    wpAny (model prog w) A (dictSet q (.int k t) (.str v tv)) Q E s := by
  subst hv
  unfold dictSet
  refine wpAny_holding (wpAny_bind ((intKind prog w).pyHash (k := k) (by simp [intKind, Value.isInt]) ?_))
  unfold dictSetHashed
  refine wpAny_holding (wpAny_bind (wpAny_dictFind_of (knd := intKind prog w) (s := { s with toks := s.toks + 1 }) (by simp [intKind, Value.isInt]) hq rfl (x.keys prog w) ?_))
  rcases x.find prog w k with ⟨i, t', e1, e2, e3⟩ | ⟨e1, e2⟩
  · exact absurd e3 hk
  rw [e1]
  have hz' : es.size ≤ sizeLine := by rw [sizeLine_eq]; omega
  refine wpAny_bind (wpAny_rule (wpAny_updateDictKeys (hz := hz') (s := { s with toks := s.toks + 1 }) hq rfl ?_))
  have g := Heap.get?_update_self (Obj.mapDictKeys fun x => x.push ⟨hashInt k, .int k t, .str (W k) tv⟩) hq rfl
  exact h _ (Heap.SameBut.update ..) g
end
end Mine
end
section
open PySem PySem.W PyProof.Rows PySem.Calls Builtin Builtin.ObjectAttr
set_option Elab.async false
set_option linter.unusedVariables false
set_option maxRecDepth 100000
namespace Mine
theorem plain_gi : plainId "dict.__getitem__" = true := by decide +kernel
theorem kind_gi : builtinKind "dict.__getitem__" = some .method := by decide +kernel
theorem split_gi : splitId "dict.__getitem__" = some ("dict", "__getitem__") := by decide +kernel
theorem bind_gi (v : Value) : bindSpecial (.builtin "dict.__getitem__") v = pure (.builtin "dict.__getitem__", [v]) := PySem.slot_dict_getitem.bind v
theorem plain_si : plainId "dict.__setitem__" = true := by decide +kernel
theorem kind_si : builtinKind "dict.__setitem__" = some .slot := by decide +kernel
theorem split_si : splitId "dict.__setitem__" = some ("dict", "__setitem__") := by decide +kernel
theorem bind_si (v : Value) : bindSpecial (.builtin "dict.__setitem__") v = pure (.builtin "dict.__setitem__", [v]) := PySem.slot_dict_setitem.bind v
section
variable {prog : Program} {w : World} {A : Around} {E : Value → Shared → Prop} {s : Shared} {q d f : Addr} {es : Array DictEntry} {ep : Nat} {W : Int → PySem.Str} {ks : List Int} {k : Int} {t : Tok}
theorem lk_deque {h : Heap} (X : (K w.params).In h) : Looks (model prog w) h (seqItemTypes.anyM fun n => isSubtype (.ref 49) (.type n)) false := Looks.of_peek X (by kernel_rfl)
theorem q_seqKey {h : Heap} {v : Value} {n : PySem.Str} (X : (K w.params).In h) (hq : h.get? q = some (qObj d es ep)) : Looks (model prog w) h (sequenceKey (.ref q) v n) v := by
  unfold sequenceKey
  refine (q_type hq).andThen ?_
  dsimp only
  exact (lk_deque X).andThen .now
/-- an item of a quoter: what it holds, else __missing__ -/
theorem q_item {Q : Value → Shared → Prop} (B : Base w s.heap) (hq : s.heap.get? q = some (qObj d es ep)) (x : EsOk W ks es) (h1 : k ∈ ks → ∀ t', Q (.str (W k) t') { s with toks := s.toks + 1 })
    (h2 : k ∉ ks → codeAny (model prog w) A.in1 (.call (.ref 46) ⟨[.ref q, .int k t], []⟩) (fun r s' => match r with | .ok (.ret v) => Q v s' | .ok _ => False | .error e => E e s') { s with toks := s.toks + 1 }) :
    wpAny (model prog w) A (getItem (.ref q) (.int k t)) Q E s := by
  unfold getItem
  refine wpAny_holding (wpAny_bind (q_seqKey B.k hq _ _ _ _ (fun _ _ e => e) (wpAny_bind ?_)))
  unfold callSpecial? specialOf
  refine wpAny_bind (wpAny_bind (q_type (M := model prog w) hq _ _ _ _ (fun _ _ e => e) (looks_findIn B.k (Kf.gitem w.params) _ _ _ _ (fun _ _ e => e) ?_)))
  dsimp only
  refine wpAny_holding ?_
  rw [bind_gi]
  refine wpAny_bind (wpAny_pure (wpAny_bind (wpAny_call ?_)))
  dsimp only [List.cons_append, List.nil_append]
  refine codeAny_call_builtin plain_gi PySem.F.entry_dict_getitem ?_
  have ck := fun E' Q' => @PySem.W.kfo_check (model prog w) A.in1 E' s "dict.__getitem__" "dict" "__getitem__" (.ref q) [.int k t] [] Q' kind_gi split_gi (q_isa B.k hq (Kf.isDict w.params)) (PySem.F.args_dict_getitem_2 _ _)
  refine ck _ _ ?_
  unfold Builtin.«dict.__getitem__» Builtin.Dict.keyArg Builtin.Dict.nameIsSure
  refine wpAny_bind (wpAny_of_eq (a := (q, Value.int k t)) rfl ?_)
  dsimp only
  refine wpAny_bind (q_dictGet hq x (fun hk t' => wpAny_pure (wpAny_pure (wpAny_pure (h1 hk t')))) fun hk => ?_)
  dsimp only
  refine wpAny_bind (wpAny_missed_int ?_)
  dsimp only
  refine wpAny_bind (q_type (M := model prog w) hq _ _ _ { s with toks := s.toks + 1 } (fun _ _ e => e) ?_)
  refine PySem.bm_if_true rfl ?_
  refine wpAny_bind ?_
  unfold callSpecial? specialOf
  refine wpAny_bind (wpAny_bind (q_type (M := model prog w) hq _ _ _ _ (fun _ _ e => e) (looks_findIn B.k (Kf.miss w.params) _ _ _ _ (fun _ _ e => e) ?_)))
  dsimp only
  refine wpAny_holding (wpAny_bind (bind_fn B.k _ (Kf.fnMiss w.params) _ _ _ _ (fun _ _ e => e) ?_))
  dsimp only
  refine wpAny_bind (wpAny_call (codeAny_mono (h2 hk) fun r s' z => ?_))
  rcases r with e | (v | _ | _ | _) <;> first | exact z | exact z.elim | skip
  exact wpAny_pure (wpAny_bind (wpAny_rule (wpAny_pure (wpAny_pure (wpAny_pure z)))))
theorem q_store {v : PySem.Str} {tv : Tok} {Q : Unit → Shared → Prop} (B : Base w s.heap) (hq : s.heap.get? q = some (qObj d es ep)) (x : EsOk W ks es) (hk : k ∉ ks) (hz : es.size ≤ 4096) (hv : v = W k)
    (h : ∀ h', Heap.SameBut q s.heap h' → h'.get? q = some (qObj d (es.push (ent W (k, t, tv))) (ep + 1)) → Q () { s with heap := h', toks := s.toks + 1 }) :
    wpAny (model prog w) A (setItem (.ref q) (.int k t) (.str v tv)) Q E s := by
  unfold setItem
  refine wpAny_holding (wpAny_bind (q_seqKey B.k hq _ _ _ _ (fun _ _ e => e) (wpAny_bind ?_)))
  unfold callSpecial? specialOf
  refine wpAny_bind (wpAny_bind (q_type (M := model prog w) hq _ _ _ _ (fun _ _ e => e) (looks_findIn B.k (Kf.sitem w.params) _ _ _ _ (fun _ _ e => e) ?_)))
  dsimp only
  refine wpAny_holding ?_
  rw [bind_si]
  refine wpAny_bind (wpAny_pure (wpAny_bind (wpAny_call ?_)))
  dsimp only [List.cons_append, List.nil_append]
  refine codeAny_call_builtin plain_si PySem.F.entry_dict_setitem ?_
  have ck := fun E' Q' => @check_slot (model prog w) A.in1 E' s "dict.__setitem__" "dict" "__setitem__" (.ref q) [.int k t, .str v tv] [] Q' kind_si split_si (q_isa B.k hq (Kf.isDict w.params)) (PySem.F.args_dict_setitem_3 _ _ _)
  refine ck _ _ ?_
  unfold Builtin.«dict.__setitem__» Builtin.Dict.notOrdered
  refine wpAny_bind ?_
  refine PySem.bm_if_true (by decide) ?_
  refine wpAny_bind (q_type (M := model prog w) hq _ _ _ _ (fun _ _ e => e) ?_)
  refine PySem.bm_if_true rfl ?_
  refine wpAny_bind (q_isa (M := model prog w) B.k hq (Kf.isOrd w.params) _ _ _ _ (fun _ _ e => e) ?_)
  refine PySem.bm_if_false rfl (wpAny_pure ?_)
  refine PySem.bm_if_false rfl ?_
  refine wpAny_bind (wpAny_of_eq (a := (Value.ref q, [Value.int k t, Value.str v tv])) rfl ?_)
  dsimp only
  refine wpAny_bind (wpAny_of_eq (a := q) rfl (wpAny_bind (q_dictSet hq x hk hz hv fun h' sb g => ?_)))
  exact wpAny_pure (wpAny_pure (wpAny_pure (h h' sb g)))
end
end Mine
end
section
open PySem PySem.W PyProof.Rows PySem.Calls Builtin Builtin.ObjectAttr
set_option Elab.async false
set_option linter.unusedVariables false
set_option maxRecDepth 100000
namespace Mine
/-- an octet's text, by whether it is safe -/
def qtext (S : Int → Bool) (k : Int) : PySem.Str := if S k then ⟨#[k.toNat]⟩ else pct k
theorem qtext_t {S : Int → Bool} {k : Int} (h : S k = true) : qtext S k = ⟨#[k.toNat]⟩ := by unfold qtext; rw [h]; rfl
theorem qtext_f {S : Int → Bool} {k : Int} (h : S k = false) : qtext S k = pct k := by unfold qtext; rw [h]; rfl
section
variable {prog : Program} {w : World} {A : Around} {E : Value → Shared → Prop} {s : Shared} {R : Result → Shared → Prop} {q d f : Addr} {es : Array DictEntry} {ep n : Nat} {S : Int → Bool} {ks : List Int} {k : Int} {t tk : Tok}
set_option maxHeartbeats 1000000 in
theorem missing_call (B : Base w s.heap) (rm : Rm A) (hq : s.heap.get? q = some (qObj d es ep)) (hd : s.heap.get? d = some (safeDict w tk f)) (hf : FsAt w s.heap f S n) (x : EsOk (qtext S) ks es) (hk : k ∉ ks) (h0 : 0 ≤ k) (h1 : k < 256) (hz : es.size ≤ 4096)
    (h : ∀ h' tk' t' tv, Ext [q] s.heap h' → h'.get? q = some (qObj d (es.push (ent (qtext S) (k, t, tv))) (ep + 1)) → R (.ok (.ret (.str (qtext S k) t'))) { s with heap := h', toks := tk' }) :
    codeAny (model prog w) A (.call (.ref 46) ⟨[.ref q, .int k t], []⟩) R s := by
  refine call_two B ?_ (K46 _) (C46 _) rfl (bind46 _ _) (by decide) ⟨rfl, rfl⟩ rfl rfl rfl fun h₁ F => ?_
  · have := rm.d; show A.depth < 1000; omega
  have B₁ : Base w h₁ := B.keeps F.keep
  have L0 : s.heap.get? s.heap.objs.size = none := get_size _
  refine wpAny_execs_cons (wpAny_Assign_Name ?_)
  have tail : ∀ t' tk', wpAny (model prog w) (A.deeper (callEnv fd46 s.heap.objs.size 46)) (storeName (callEnv fd46 s.heap.objs.size 46) (Str.ofString "res") (.str (qtext S k) t'))
      (fun _ s' => wpAny (model prog w) (A.deeper (callEnv fd46 s.heap.objs.size 46)) (execs (missB.drop 1) (callEnv fd46 s.heap.objs.size 46)) (fun f s' => R (.ok (.ret (match f with | .ret v => v | _ => .none))) s')
        (fun e s' => wpAny (model prog w) (A.deeper (callEnv fd46 s.heap.objs.size 46)) (leaving (callEnv fd46 s.heap.objs.size 46) e) (fun _ s'' => R (.error e) s'') (fun e' s'' => R (.error e') s'') s') s')
        (fun e s' => wpAny (model prog w) (A.deeper (callEnv fd46 s.heap.objs.size 46)) (leaving (callEnv fd46 s.heap.objs.size 46) e) (fun _ s'' => R (.error e) s'') (fun e' s'' => R (.error e') s'') s')
        { s with heap := h₁, toks := tk' } := by
    intro t' tk'
    refine wpAny_storeName_local (s := { s with heap := h₁, toks := tk' }) rfl F.ns fun h₂ hn sb => ?_
    have F₂ := F.set hn sb
    refine wpAny_execs_cons (wpAny_Assign_Subscript ?_)
    refine ldc (s := { s with heap := h₂, toks := tk' + 1 }) rfl rfl F₂.ns rfl ?_
    refine ldc (s := { s with heap := h₂, toks := tk' + 1 }) rfl rfl F₂.ns rfl ?_
    refine ldc (s := { s with heap := h₂, toks := tk' + 1 }) rfl rfl F₂.ns rfl ?_
    refine q_store (s := { s with heap := h₂, toks := tk' + 1 }) (B.keeps F₂.keep) (F₂.keep _ _ hq) x hk hz rfl fun h₃ sb₃ g₃ => ?_
    have qL : s.heap.objs.size ≠ q := fun e => by rw [← e, L0] at hq; cases hq
    have ns₃ := PySem.Heap.Ns.sameBut hn sb₃ qL
    refine wpAny_execs_cons (wpAny_Return_some ?_)
    refine ldc (s := { s with heap := h₃, toks := tk' + 1 + 1 }) rfl rfl ns₃ rfl ?_
    exact h h₃ _ _ _ (fun b o hb e => (sb₃.2 b (by simpa using hb)).trans (F₂.keep b o e)) g₃
  refine wpAny_IfExp ?_
  refine wpAny_isTrue_Compare1 ?_
  refine ldc rfl rfl F.ns rfl ?_
  refine Attribute_Name_ ?_
  refine ldc rfl rfl F.ns rfl ?_
  refine q_get_safe (s := { s with heap := h₁, toks := s.toks + 2 }) B₁.k (F.keep _ _ hq) (F.keep _ _ hd) ?_
  refine fs_in (s := { s with heap := h₁, toks := s.toks + 2 + 1 }) (hf.at fun o e => F.keep _ _ e) h0 h1 ?_
  refine wpAny_truthy_bool ?_
  cases hS : S k with
  | true =>
    refine Call_ (Base.blt (s := { s with heap := h₁, toks := s.toks + 2 + 1 + 1 }) B₁ (G_chr _) PyProof.Rows.Boot.chr ?_)
    refine callWith_builtin1 (args_cons (ldc rfl rfl F.ns rfl (args_nil ?_)))
    refine chr_of_range h0 (by omega) ?_
    rw [← qtext_t hS]
    exact tail _ _
  | false =>
    refine MethodCall_ (Constant_str ?_)
    refine KFm.method ?_
    refine callWith_method1 (args_cons (ldc rfl rfl F.ns rfl (args_nil ?_)))
    refine fmt_call (by decide +kernel) h0 h1 fun t' k' => ?_
    rw [← qtext_f hS]
    exact tail _ _
end
end Mine
end
section
open PySem PySem.W PyProof.Rows PySem.Calls Builtin Builtin.ObjectAttr
set_option Elab.async false
set_option linter.unusedVariables false
set_option maxRecDepth 100000
namespace Mine
section
variable {prog : Program} {w : World} {A : Around} {E : Value → Shared → Prop} {s : Shared} {R : Result → Shared → Prop} {l : Addr} {vs : List Value} {ns : List Int} {k : Int} {t : Tok}
def ifB : Stmt → List Stmt
  | .If _ b _ _ => b
  | _ => []
def told (ns : List Int) (k : Int) : Bool := alw k || ns.any (· == k)
theorem wr_text {k : Int} (h0 : 0 ≤ k) (h1 : k < 256) {a b : Nat} (ha : (⟨#[48,49,50,51,52,53,54,55,56,57,65,66,67,68,69,70]⟩ : PySem.Str).cps[(k / 16).toNat]? = some a) (hb : (⟨#[48,49,50,51,52,53,54,55,56,57,65,66,67,68,69,70]⟩ : PySem.Str).cps[(k % 16).toNat]? = some b) :
    (⟨#[37, a, b]⟩ : PySem.Str) = pct k := by
  obtain ⟨j, rfl⟩ : ∃ j : _root_.Fin 256, k = (j.val : Int) := ⟨⟨k.toNat, by omega⟩, by show k = ((k.toNat : Nat) : Int); omega⟩
  have e1 : ∀ j : _root_.Fin 256, (⟨#[48,49,50,51,52,53,54,55,56,57,65,66,67,68,69,70]⟩ : PySem.Str).cps[((j.val : Int) / 16).toNat]? = some (hx (j.val / 16)) := by decide +kernel
  have e2 : ∀ j : _root_.Fin 256, (⟨#[48,49,50,51,52,53,54,55,56,57,65,66,67,68,69,70]⟩ : PySem.Str).cps[((j.val : Int) % 16).toNat]? = some (hx (j.val % 16)) := by decide +kernel
  rw [e1 j] at ha
  rw [e2 j] at hb
  cases ha; cases hb
  rfl
theorem fdiv16 {k : Int} (h0 : 0 ≤ k) : k.fdiv 16 = k / 16 := Int.fdiv_eq_ediv_of_nonneg _ (by omega)
theorem fmod16 {k : Int} (h0 : 0 ≤ k) : k.fmod 16 = k % 16 := Int.fmod_eq_emod_of_nonneg _ (by omega)
abbrev hexS : PySem.Str := ⟨#[48,49,50,51,52,53,54,55,56,57,65,66,67,68,69,70]⟩
theorem hex_item {value slice : Expr} {X : PySem.Str} {i : Int} {u : Tok} {Q : Value → Shared → Prop} (hX : X = hexS) (h0 : 0 ≤ i) (h1 : i < 16) (h : ∀ c, hexS.cps[i.toNat]? = some c → Q (.str ⟨#[c]⟩ s.toks) { s with toks := s.toks + 1 })
    (hs : subscripted slice false (.str X t) (.int i u) = operate [.str X t, .int i u] (getItem (.str X t) (.int i u))) (ht : ∀ r, letTemporaryGo value (.str X t) r = pure ()) :
    wpAny (model prog w) A (subscriptTail value slice (.str X t) (.int i u)) Q E s := by
  subst hX
  refine subscriptTail_builtin (typeIs_str s _ t) F.slot_str_getitem.lookup ?_ hs ht
  obtain ⟨j, rfl⟩ : ∃ j : _root_.Fin 16, i = (j.val : Int) := ⟨⟨i.toNat, by omega⟩, by show i = ((i.toNat : Nat) : Int); omega⟩
  have e : ∀ j : _root_.Fin 16, ∃ c, hexS.cps[((j.val : Int)).toNat]? = some c ∧ (seqIndex? (j.val : Int) hexS.length).bind (hexS.cps[·]?) = some c := by
    intro j
    refine ⟨hexS.cps[j.val]!, ?_, ?_⟩
    · revert j; decide +kernel
    · revert j; decide +kernel
  obtain ⟨c, e1, e2⟩ := e j
  refine P.getItem_str ?_ e2 (h c e1)
  have := j.isLt
  rw [Bool.or_eq_false_iff, decide_eq_false_iff_not, decide_eq_false_iff_not]
  omega
theorem rng_test {L a : Addr} {fd : FuncData} {m : PySem.Str → Option Value} {lo hi : Int} {k1 k2 : Nat} {p p1 p2 p3 : Pos} {whole : Sem Value} {Q : Bool → Shared → Prop} (hk : fd.scope.kind = .function) (hl : (callEnv fd L a).kindOf (Str.ofString "c") = some .local) (hn : s.heap.Ns L m) (hv : m (Str.ofString "c") = some (.int k t))
    (h : ∀ tk, Q (decide (lo ≤ k) && decide (k ≤ hi)) { s with toks := tk }) :
    wpAny (model prog w) A (isTrue (.Compare (.Constant (.int lo) k1 p1) [.LtE, .LtE] [.Name (Str.ofString "c") p2, .Constant (.int hi) k2 p3] p) (callEnv fd L a) whole) Q E s := by
  refine isTrue_chain (wpAny_Constant_int (test_link (ldc (s := { s with toks := s.toks + 1 }) hk hl hn hv (P.le_int (wpAny_truthy_bool ?_)))))
  by_cases e : lo ≤ k
  · rw [if_pos (decide_eq_true e)]
    refine test_last (wpAny_Constant_int (P.le_int (wpAny_truthy_bool ?_)))
    have := h (s.toks + 1 + 1)
    rw [decide_eq_true e, Bool.true_and] at this
    exact this
  · rw [if_neg (by simp [e])]
    have := h (s.toks + 1)
    rw [decide_eq_false e, Bool.false_and] at this
    exact this
def ifT : Stmt → Expr
  | .If t _ _ _ => t
  | _ => .Constant .none 0 ⟨0, 0, 0, 0⟩
def hd1 (l : List Stmt) : Stmt := l.headD (.Pass ⟨0, 0, 0, 0⟩)
theorem writ_test {h₀ : Heap} {L : Addr} {whole : Sem Value} {Q : Bool → Shared → Prop} (B : Base w h₀) (F : Fr h₀ L s.heap (fun z => [(Str.ofString "safe", .ref l), (Str.ofString "c", .int k t)].lookup z)) (hl : s.heap.IsList l vs.toArray) (hi : IntsAre vs ns)
    (h : ∀ h' tk, Ext [] s.heap h' → Q (told ns k) { s with heap := h', toks := tk }) :
    wpAny (model prog w) A (isTrue (ifT (hd1 writB)) (callEnv fd60 L 60) whole) Q E s := by
  have r0 := fun tk => h s.heap tk (Ext.refl _ _)
  refine isTrue_or ?_
  refine rng_test rfl rfl F.ns rfl fun tk1 => ?_
  cases e1 : (decide (65 ≤ k) && decide (k ≤ 90)) with
  | true => rw [if_pos rfl]; have := r0 tk1; unfold told alw at this; rw [e1] at this; exact this
  | false =>
  rw [if_neg Bool.false_ne_true]
  refine isTrue_or ?_
  refine rng_test (s := { s with toks := tk1 }) rfl rfl F.ns rfl fun tk2 => ?_
  cases e2 : (decide (97 ≤ k) && decide (k ≤ 122)) with
  | true => rw [if_pos rfl]; have := r0 tk2; unfold told alw at this; rw [e1, e2] at this; exact this
  | false =>
  rw [if_neg Bool.false_ne_true]
  refine isTrue_or ?_
  refine rng_test (s := { s with toks := tk2 }) rfl rfl F.ns rfl fun tk3 => ?_
  cases e3 : (decide (48 ≤ k) && decide (k ≤ 57)) with
  | true => rw [if_pos rfl]; have := r0 tk3; unfold told alw at this; rw [e1, e2, e3] at this; exact this
  | false =>
  rw [if_neg Bool.false_ne_true]
  refine isTrue_or (wpAny_isTrue_Compare1 ?_)
  refine ldc (s := { s with toks := tk3 }) rfl rfl F.ns rfl ?_
  refine wpAny_Tuple (args_cons (wpAny_Constant_int (args_cons (wpAny_Constant_int (args_cons (wpAny_Constant_int (args_cons (wpAny_Constant_int (args_nil ⟨by rw [sizeLine_eq]; show 4 ≤ _; decide, ?_⟩)))))))))
  have px : Ext [] s.heap (s.heap.push { cls := .type "tuple", data := .seq [Value.int 45 tk3, .int 46 (tk3 + 1), .int 95 (tk3 + 1 + 1), .int 126 (tk3 + 1 + 1 + 1)].toArray }) := Ext.push _ _
  refine in_tuple_ints (ns := [45, 46, 95, 126]) ⟨_, Heap.get?_push_size _ rfl, rfl, _, rfl⟩ (.cons _ _ (.cons _ _ (.cons _ _ (.cons _ _ .nil)))) (wpAny_truthy_bool ?_)
  have r1 := fun tk => h _ tk px
  cases e4 : ([45, 46, 95, 126].any (· == k)) with
  | true =>
    rw [if_pos rfl]
    have := r1 (tk3 + 1 + 1 + 1 + 1)
    have e : told ns k = true := by
      unfold told alw
      rw [e1, e2, e3]
      simp at e4
      rcases e4 with rfl | rfl | rfl | rfl <;> rfl
    rw [e] at this
    exact this
  | false =>
  rw [if_neg Bool.false_ne_true]
  refine isTrue_or (wpAny_isTrue_Compare1 ?_)
  have F₁ := PyProof.Rows.Fr.keptAll F fun b o e => px b o (by simp) e
  refine ldc (s := { s with heap := s.heap.push _, toks := tk3 + 1 + 1 + 1 + 1 }) rfl rfl F₁.ns rfl ?_
  refine ldc (s := { s with heap := s.heap.push _, toks := tk3 + 1 + 1 + 1 + 1 }) rfl rfl F₁.ns rfl ?_
  refine in_list_ints (s := { s with heap := s.heap.push _, toks := tk3 + 1 + 1 + 1 + 1 }) (PyProof.Rows.lstKept hl fun b o e => px b o (by simp) e) hi (wpAny_truthy_bool ?_)
  have e : told ns k = ns.any (· == k) := by
    unfold told alw
    rw [e1, e2, e3]
    simp at e4
    simp [Ne.symm e4.1, Ne.symm e4.2.1, Ne.symm e4.2.2.1, Ne.symm e4.2.2.2]
  have := r1 (tk3 + 1 + 1 + 1 + 1)
  rw [e] at this
  cases e5 : (ns.any (· == k)) with
  | true => rw [if_pos rfl]; rw [e5] at this; exact this
  | false => rw [if_neg Bool.false_ne_true]; rw [e5] at this; exact isTrue_or_nil this
end
end Mine
end
section
open PySem PySem.W PyProof.Rows PySem.Calls Builtin Builtin.ObjectAttr
set_option Elab.async false
set_option linter.unusedVariables false
set_option maxRecDepth 100000
namespace Mine
section
variable {prog : Program} {w : World} {A : Around} {E : Value → Shared → Prop} {s : Shared} {R : Result → Shared → Prop} {l : Addr} {vs : List Value} {ns : List Int} {k : Int} {t : Tok}
theorem len1 (a : Nat) : (⟨#[a]⟩ : PySem.Str).length ≠ 0 := by show 1 ≠ 0; decide
theorem len2 (a b : Nat) : (⟨#[a, b]⟩ : PySem.Str).length ≤ 100 := by show 2 ≤ 100; decide
theorem len2n (a b : Nat) : (⟨#[a, b]⟩ : PySem.Str).length ≠ 0 := by show 2 ≠ 0; decide
theorem len3 (a b c : Nat) : ((⟨#[a, b]⟩ : PySem.Str) ++ ⟨#[c]⟩).length ≤ 100 := by show 3 ≤ 100; decide
theorem cat2 (a : Nat) : Str.ofString "%" ++ (⟨#[a]⟩ : PySem.Str) = ⟨#[37, a]⟩ := by
  rw [show Str.ofString "%" = ⟨#[37]⟩ by decide +kernel]; rfl
theorem add_texts {x y : PySem.Str} {t u : Tok} {Q : Value → Shared → Prop} (hx : x.length ≠ 0) (hy : y.length ≠ 0) (hz : (x ++ y).length ≤ 100) (h : ∀ t' tk, Q (.str (x ++ y) t') { s with toks := tk }) :
    wpAny (model prog w) A (binaryOp .Add (.str x t) (.str y u)) Q E s := by
  refine P.add_str ?_
  rw [if_neg (by simpa using hx), if_neg (by simpa using hy)]
  exact ⟨by rw [sizeLine_eq]; omega, h _ _⟩
set_option maxHeartbeats 1000000 in
theorem writ_body {h₀ : Heap} {L : Addr} {Q : Flow → Shared → Prop} (B : Base w h₀) (F : Fr h₀ L s.heap (fun z => [(Str.ofString "safe", .ref l), (Str.ofString "c", .int k t)].lookup z)) (hl : s.heap.IsList l vs.toArray) (hi : IntsAre vs ns) (h0 : 0 ≤ k) (h1 : k < 256)
    (h : ∀ h' tk t', Ext [] s.heap h' → Q (.ret (.str (qtext (told ns) k) t')) { s with heap := h', toks := tk }) :
    wpAny (model prog w) A (execs writB (callEnv fd60 L 60)) Q E s := by
  refine wpAny_execs_cons (wpAny_If ?_)
  refine writ_test B F hl hi fun h₂ tk₂ ex => ?_
  have F₂ := PyProof.Rows.Fr.keptAll F fun b o e => ex b o (by simp) e
  have B₂ : Base w h₂ := B.keeps F₂.keep
  cases e : told ns k with
  | true =>
    rw [if_pos rfl]
    refine wpAny_execs_cons (wpAny_Return_some ?_)
    refine Call_ (Base.blt (s := { s with heap := h₂, toks := tk₂ }) B₂ (G_chr _) PyProof.Rows.Boot.chr ?_)
    refine callWith_builtin1 (args_cons (ldc (s := { s with heap := h₂, toks := tk₂ }) rfl rfl F₂.ns rfl (args_nil ?_)))
    refine chr_of_range h0 (by omega) ?_
    have := h h₂ (tk₂ + 1) tk₂ ex
    rw [qtext_t e] at this
    exact this
  | false =>
    rw [if_neg Bool.false_ne_true]
    refine wpAny_execs_nil ?_
    refine wpAny_execs_cons (wpAny_Return_some ?_)
    refine wpAny_BinOp (wpAny_BinOp (Constant_str (Subscript_ (Constant_str ?_))))
    refine wpAny_BinOp (ldc (s := { s with heap := h₂, toks := tk₂ + 1 + 1 }) rfl rfl F₂.ns rfl (wpAny_Constant_int ?_))
    refine floordiv_int (by decide) ?_ (Or.inl (PyProof.noPylong_of_log2 (by decide +kernel)))
    refine hex_item (by decide +kernel) (by rw [fdiv16 h0]; omega) (by rw [fdiv16 h0]; omega) (fun a ha => ?_) rfl (fun _ => rfl)
    rw [fdiv16 h0] at ha
    refine add_texts (by decide) (len1 a) (by rw [cat2 a]; exact len2 37 a) fun t1 tk1 => ?_
    refine Subscript_ (Constant_str ?_)
    refine wpAny_BinOp (ldc (s := { s with heap := h₂, toks := tk1 + 1 }) rfl rfl F₂.ns rfl (wpAny_Constant_int ?_))
    refine mod_int' (by decide) ?_
    refine hex_item (by decide +kernel) (by rw [fmod16 h0]; omega) (by rw [fmod16 h0]; omega) (fun b hb => ?_) rfl (fun _ => rfl)
    rw [fmod16 h0] at hb
    rw [cat2 a]
    refine add_texts (len2n 37 a) (len1 b) (len3 37 a b) fun t2 tk2 => ?_
    have := h h₂ tk2 t2 ex
    rw [qtext_f e, ← wr_text h0 h1 ha hb] at this
    exact this
theorem written_call (B : Base w s.heap) (rm : Rm A) (hl : s.heap.IsList l vs.toArray) (hi : IntsAre vs ns) (h0 : 0 ≤ k) (h1 : k < 256)
    (h : ∀ h' tk' t', Ext [] s.heap h' → R (.ok (.ret (.str (qtext (told ns) k) t'))) { s with heap := h', toks := tk' }) :
    codeAny (model prog w) A (.call (.ref 60) ⟨[.int k t, .ref l], []⟩) R s := by
  refine call_two B ?_ (K60 _) (C60 _) rfl (bind60 _ _) (by decide) ⟨rfl, rfl⟩ rfl rfl rfl fun h₁ F => ?_
  · have := rm.d; show A.depth < 1000; omega
  refine writ_body (s := { s with heap := h₁, toks := s.toks + 2 }) B F (PyProof.Rows.lstKept hl F.keep) hi h0 h1 fun h' tk t' ex => ?_
  exact h h' tk t' fun b o hb e => ex b o hb (F.keep b o e)
end
end Mine
end
section
open PySem PySem.W PyProof.Rows PySem.Calls Builtin Builtin.ObjectAttr
set_option Elab.async false
set_option linter.unusedVariables false
set_option maxRecDepth 100000
namespace Mine
/-! the walk over a quoter's keys -/
abbrev keyIt (q : Addr) (i n ep : Nat) : Obj := ⟨.type "dict_keyiterator", none, .fields #[.ref q, .int i 0, .int n 0, .int ep 0], #[]⟩
section
variable {prog : Program} {w : World} {A : Around} {E : Value → Shared → Prop} {s : Shared} {q d it : Addr} {es : Array DictEntry} {i ep : Nat}
theorem key_next {Q : Option Value → Shared → Prop} (hit : s.heap.get? it = some (keyIt q i es.size ep)) (hq : s.heap.get? q = some (qObj d es ep)) (hi : i < es.size)
    (hQ : ∀ h', h'.get? it = some (keyIt q (i + 1) es.size ep) → Heap.SameBut it s.heap h' → Q (some es[i].key) { s with heap := h' }) :
    wpAny (model prog w) A (pyNext (.ref it)) Q E s := by
  have hT : s.TypeIs (.ref it) "dict_keyiterator" := ⟨_, hit, rfl⟩
  unfold pyNext
  refine wpAny_bind (wpAny_attempt (wpAny_callSpecial?_slot (name := Str.ofString "__next__") hT F.slot_dict_keyiterator_next
    (wpAny_call_entry F.slot_dict_keyiterator_next hT F.entry_dict_keyiterator_next ?_ (F.args_dict_keyiterator_next_1 _))))
  refine wpAny_bind (wpAny_pure (wpAny_bind (wpAny_bind (wpAny_bind (wpAny_typeNameOfWhole_keyiter hT (wpAny_pure ?_))))))
  refine wpAny_bind (wpAny_fieldsOf hit rfl ?_)
  show wpAny _ _ (if (Value.ref q == Value.none) = true then _ else _) _ _ s
  refine PySem.bm_if_false rfl (wpAny_bind (wpAny_pure (wpAny_bind (wpAny_dictEntries hq rfl ?_))))
  refine PySem.bm_if_false (by simp) (wpAny_bind (wpAny_pure (wpAny_bind (wpAny_dictEpoch hq rfl ?_))))
  refine PySem.bm_if_false (by simp) (wpAny_pure ?_)
  simp only [show ¬ ((i : Int) < 0) from by omega, if_false, Int.toNat_natCast, Array.getElem?_eq_getElem hi]
  refine wpAny_bind (wpAny_bind (wpAny_typeNameOfWhole_keyiter hT (wpAny_pure (wpAny_bind (wpAny_isOneOf_keyiter hT ?_)))))
  show wpAny _ _ (setField (.ref it) 1 (rawInt ((i : Int) + 1)) >>= _) _ _ s
  refine wpAny_bind (wpAny_setField hit rfl (by simp) ?_)
  have g : (s.heap.update it (Obj.mapFields (·.setIfInBounds 1 (rawInt ((i : Int) + 1))))).get? it = some (keyIt q (i + 1) es.size ep) := by
    rw [Heap.get?_update_self _ hit rfl]; rfl
  refine wpAny_bind (wpAny_holding (wpAny_bind (wpAny_isOneOf_keyiter (s := { s with heap := _ }) ⟨_, g, rfl⟩ ?_)))
  show wpAny _ _ (pure es[i].key) _ _ _
  exact wpAny_pure (wpAny_pure ⟨_, rfl, wpAny_pure (hQ _ g (Heap.SameBut.update ..))⟩)
theorem key_end {Q : Option Value → Shared → Prop} (hh : A.handled = none) (hit : s.heap.get? it = some (keyIt q i es.size ep)) (hq : s.heap.get? q = some (qObj d es ep)) (hi : es.size ≤ i)
    (hQ : ∀ h', Heap.ExtBut it s.heap h' → Q none { s with heap := h' }) :
    wpAny (model prog w) A (pyNext (.ref it)) Q E s := by
  have hT : s.TypeIs (.ref it) "dict_keyiterator" := ⟨_, hit, rfl⟩
  unfold pyNext
  refine wpAny_bind (wpAny_attempt (wpAny_callSpecial?_slot (name := Str.ofString "__next__") hT F.slot_dict_keyiterator_next
    (wpAny_call_entry F.slot_dict_keyiterator_next hT F.entry_dict_keyiterator_next ?_ (F.args_dict_keyiterator_next_1 _))))
  refine wpAny_bind (wpAny_pure (wpAny_bind (wpAny_bind (wpAny_bind (wpAny_typeNameOfWhole_keyiter hT (wpAny_pure ?_))))))
  refine wpAny_bind (wpAny_fieldsOf hit rfl ?_)
  show wpAny _ _ (if (Value.ref q == Value.none) = true then _ else _) _ _ s
  refine PySem.bm_if_false rfl (wpAny_bind (wpAny_pure (wpAny_bind (wpAny_dictEntries hq rfl ?_))))
  refine PySem.bm_if_false (by simp) (wpAny_bind (wpAny_pure (wpAny_bind (wpAny_dictEpoch hq rfl ?_))))
  refine PySem.bm_if_false (by simp) (wpAny_pure ?_)
  simp only [show ¬ ((i : Int) < 0) from by omega, if_false, Int.toNat_natCast, Array.getElem?_eq_none hi]
  refine wpAny_bind (wpAny_bind (wpAny_typeNameOfWhole_keyiter hT (wpAny_pure ?_)))
  show wpAny _ _ (setField (.ref it) 0 .none >>= _) _ _ s
  refine wpAny_bind (wpAny_setField hit rfl (by simp) ?_)
  show wpAny _ _ (newExc (.type "StopIteration") [] >>= _) _ _ _
  refine wpAny_bind ?_
  unfold newExc newTuple
  refine wpAny_bind (wpAny_newObj_type ?_ (by size_fits))
  refine wpAny_bind (m := firstArgMember _ _) (wpAny_of_eq (a := Value.none) (by first | rfl | (simp only [firstArgMember]; rfl)) ?_)
  refine wpAny_newObj_type ?_ (by size_fits)
  unfold raiseNew
  refine wpAny_bind (wpAny_handled ?_)
  rw [show A.in1.handled = none from hh]
  refine wpAny_bind (wpAny_pure (wpAny_throw ?_))
  refine wpAny_bind (wpAny_isInstance (T := "StopIteration") (b := true) ⟨_, Heap.get?_push_size _ rfl, rfl⟩ isSubtype_stop ?_)
  exact wpAny_pure (hQ _ (((Heap.SameBut.update ..).extBut.push _).push _))
theorem key_walks (hh : A.handled = none) (I : Addr) (hne : q ≠ I) : Walks prog w A I [I, q] [I] es.size (fun i v => ∃ e, es[i]? = some e ∧ v = e.key) (fun i h => h.get? I = some (keyIt q i es.size ep) ∧ h.get? q = some (qObj d es ep)) where
  sub := fun b hb => by simp at hb; simp [hb]
  frame := fun _ _ _ st hk => ⟨hk I (by simp) _ st.1, hk q (by simp) _ st.2⟩
  item := fun i s Q E hi st hQ => by
    refine key_next st.1 st.2 hi fun h' g sb => ?_
    exact hQ _ h' s.toks ⟨_, Array.getElem?_eq_getElem hi, rfl⟩ ⟨g, (sb.2 q hne).trans st.2⟩ fun b o hb e => sb.extBut b o (fun h => hb (by simp [h])) e
  done := fun s Q E st hQ => key_end hh st.1 st.2 (Nat.le_refl _) fun h' he' => hQ h' s.toks fun b o hb e => he' b o (fun h => hb (by simp [h])) e
  self := fun _ s Q E st hQ => wpAny_pyIter_keyiter ⟨_, st.1, rfl, rfl⟩ hQ
end
end Mine
end
section
open PySem PySem.W PyProof.Rows PySem.Calls Builtin Builtin.ObjectAttr
set_option Elab.async false
set_option linter.unusedVariables false
set_option maxRecDepth 100000
namespace Mine
section
variable {prog : Program} {w : World} {A : Around} {E : Value → Shared → Prop} {s : Shared} {q d : Addr} {es : Array DictEntry} {ep : Nat} {W : Int → PySem.Str} {ks : List Int}
theorem kind_it : builtinKind "dict.__iter__" = some .slot := by decide +kernel
theorem split_it : splitId "dict.__iter__" = some ("dict", "__iter__") := by decide +kernel
theorem plain_it : plainId "dict.__iter__" = true := by decide +kernel
theorem q_iter {Q : Value → Shared → Prop} (B : Base w s.heap) (h1q : 1 < q) (hq : s.heap.get? q = some (qObj d es ep)) (h : Q (.ref s.heap.objs.size) { s with heap := s.heap.push (keyIt q 0 es.size ep) }) :
    wpAny (model prog w) A (pyIter (.ref q)) Q E s := by
  have call_ : wpAny (model prog w) A (call (.builtin "dict.__iter__") [.ref q]) (fun it s' => it = .ref s.heap.objs.size ∧ s' = { s with heap := s.heap.push (keyIt q 0 es.size ep) }) E s := by
    refine wpAny_call (codeAny_call_builtin plain_it F.entry_dict_iter ?_)
    have ck := fun E' Q' => @check_slot (model prog w) A.in1 E' s "dict.__iter__" "dict" "__iter__" (.ref q) [] [] Q' kind_it split_it (q_isa B.k hq (Kf.isDict w.params)) (F.args_dict_iter_1 _)
    refine ck _ _ ?_
    unfold Builtin.«dict.__iter__» Builtin.Dict.dictSlotNone Builtin.Dict.notOrdered
    refine wpAny_bind (wpAny_bind ?_)
    refine PySem.bm_if_true (by decide) ?_
    refine wpAny_bind (q_type (M := model prog w) hq _ _ _ _ (fun _ _ e => e) ?_)
    refine PySem.bm_if_true rfl ?_
    refine wpAny_bind (q_isa (M := model prog w) B.k hq (Kf.isOrd w.params) _ _ _ _ (fun _ _ e => e) ?_)
    refine PySem.bm_if_false rfl (wpAny_pure ?_)
    refine wpAny_bind (wpAny_of_eq (a := (Value.ref q, [])) rfl (wpAny_pure ?_))
    refine wpAny_bind (wpAny_of_eq (a := q) rfl ?_)
    unfold Builtin.Dict.showsAll
    refine wpAny_bind ?_
    refine PySem.bm_if_false (beq_eq_false_iff_ne.mpr (Nat.ne_of_gt h1q)) (wpAny_pure ?_)
    refine wpAny_bind (wpAny_dictEntries hq rfl (wpAny_bind (wpAny_dictEpoch hq rfl ?_)))
    exact wpAny_bind (wpAny_newObj_type (wpAny_pure ⟨rfl, rfl⟩))
  unfold pyIter
  refine wpAny_bind ?_
  have sp := looks_findIn (M := model prog w) B.k (Kf.iter w.params)
  unfold specialOf
  refine wpAny_bind (q_type (M := model prog w) hq _ _ _ _ (fun _ _ e => e) (sp _ _ _ _ (fun _ _ e => e) ?_))
  dsimp only
  refine wpAny_bind ?_
  unfold callSpecialIfBoundUnlessNone? bindSpecialIfBound? specialOf
  refine wpAny_holding (wpAny_bind (wpAny_bind (wpAny_bind (q_type (M := model prog w) hq _ _ _ _ (fun _ _ e => e) (sp _ _ _ _ (fun _ _ e => e) ?_)))))
  dsimp only
  rw [F.slot_dict_iter.bind]
  refine wpAny_bind (wpAny_askSetting (wpAny_ite ?_))
  split
  case' isTrue => refine wpAny_bind (wpAny_pure (wpAny_pure (PySem.bm_if_false rfl (wpAny_bind ?_))))
  case' isFalse => refine wpAny_tryCatch (wpAny_bind (wpAny_pure (wpAny_pure (PySem.bm_if_false rfl (wpAny_bind ?_)))))
  all_goals
    refine wpAny_mono call_ (fun it s' z => ?_) fun _ _ e => e
    obtain ⟨rfl, rfl⟩ := z
    exact wpAny_pure (wpAny_bind (wpAny_specialOf (T := "dict_keyiterator") ⟨_, Heap.get?_push_size _ rfl, rfl⟩ F.slot_dict_keyiterator_next.lookup (wpAny_pure h)))
end
end Mine
end
section
open PySem PySem.W PyProof.Rows PySem.Calls Builtin Builtin.ObjectAttr
set_option Elab.async false
set_option linter.unusedVariables false
set_option maxRecDepth 100000
namespace Mine
theorem EsOk.at {W : Int → PySem.Str} {ks : List Int} {es : Array DictEntry} (x : EsOk W ks es) {i : Nat} {e : DictEntry} (he : es[i]? = some e) : ∃ k t t', e = ent W (k, t, t') ∧ ks[i]? = some k := by
  obtain ⟨l, q, rfl⟩ := x
  rw [← Array.getElem?_toList, q, List.getElem?_map] at he
  cases hl : l[i]? with
  | none => rw [hl] at he; cases he
  | some y =>
    rw [hl] at he
    cases he
    exact ⟨y.1, y.2.1, y.2.2, rfl, by simp [hl]⟩
section
variable {prog : Program} {w : World} {A : Around} {E : Value → Shared → Prop} {s : Shared} {q d : Addr} {es : Array DictEntry} {ep : Nat} {W : Int → PySem.Str} {ks : List Int}
theorem q_upd {id : String} {r : Addr} {Q : Unit → Shared → Prop} (B : Base w s.heap) (hq : s.heap.get? q = some (qObj d es ep))
    (h : wpAny (model prog w) A (pyIter (.ref q)) (fun it s₁ => codeAny (model prog w) A (.builtin "set.update.loop" ⟨[.ref r, it], []⟩) (fun res s' => match res with | .ok (.ret _) => Q () s' | .ok _ => False | .error e => E e s') s₁) E s) :
    wpAny (model prog w) A (Builtin.Frozenset.updateFrom id r (.ref q)) Q E s := by
  unfold Builtin.Frozenset.updateFrom Builtin.Frozenset.isAnySet
  refine wpAny_bind (wpAny_bind (q_isa (M := model prog w) B.k hq (Kf.isSet w.params) _ _ _ _ (fun _ _ e => e) (q_isa (M := model prog w) B.k hq (Kf.isFs w.params) _ _ _ _ (fun _ _ e => e) ?_)))
  refine PySem.bm_if_false rfl ?_
  refine wpAny_bind (q_type (M := model prog w) hq _ _ _ _ (fun _ _ e => e) ?_)
  refine PySem.bm_if_false rfl ?_
  refine wpAny_bind (wpAny_mono h (fun it s₁ c => ?_) fun _ _ e => e)
  refine wpAny_bind (wpAny_runValue (codeAny_mono c fun res s' q => ?_))
  cases res with
  | error e => exact q
  | ok f => cases f <;> first | exact wpAny_pure q | exact q
theorem gives_q {h₀ : Heap} (B : Base w h₀) (h1q : 1 < q) (hh : A.handled = none) (hq : h₀.get? q = some (qObj d es ep)) (x : EsOk W ks es) (hb : ∀ k ∈ ks, 0 ≤ k ∧ k < 128) : Gives prog w A E (.ref q) (fun k => ks.contains k) h₀ := by
  intro s r S n es' ep' t Q hk hr ho xr Wd hn hn' h
  have hq' := hk q _ (by simp) hq
  have hlt : r ≠ s.heap.objs.size := Nat.ne_of_lt (Heap.lt_size ho)
  have hrl : r ≠ q := fun e => by rw [e, hq] at hr; cases hr
  have hll : q < s.heap.objs.size := Heap.lt_size hq'
  refine q_upd (B.keeps fun b o e => hk b o (by simp) e) hq' (q_iter (B.keeps fun b o e => hk b o (by simp) e) h1q hq' ?_)
  have Wk := key_walks (prog := prog) (w := w) (A := A.in1) (q := q) (d := d) (es := es) (ep := ep) (by simp [hh]) s.heap.objs.size (Nat.ne_of_lt hll)
  rw [x.size] at Wk
  refine fs_update (ks := ks) Wk (by simpa using ⟨hlt, hrl⟩) hb (fun i v hP => ?_) _ 0 _ S n rfl (Nat.zero_le _) ?_ ⟨es', ep', t, Heap.get?_push_of_some _ ho, xr⟩ fun h' tk n' ex x' le => ?_
  · obtain ⟨e, he, rfl⟩ := hP
    obtain ⟨k, t, t', rfl, hk⟩ := x.at he
    exact ⟨k, t, rfl, hk⟩
  · exact ⟨by rw [x.size]; exact Heap.get?_push_size _ rfl, Heap.get?_push_of_some _ hq'⟩
  · exact h h' tk n' (ext_iter hlt ex) (x'.congr fun k => by simp) le
end
end Mine
end
section
open PySem PySem.W PyProof.Rows PySem.Calls Builtin Builtin.ObjectAttr
set_option Elab.async false
set_option linter.unusedVariables false
set_option maxRecDepth 100000
namespace Mine
/-! the walk over a quoter's items -/
abbrev itemIt (f0 f1 : Value) (q : Addr) (i n ep : Nat) (k0 v0 : Value) : Obj := ⟨.type "dict_itemiterator", none, .fields #[f0, f1, .ref q, .int i 0, .int n 0, .int ep 0, k0, v0], #[]⟩
abbrev tupObj (vs : Array Value) : Obj := { cls := .type "tuple", data := .seq vs }
def ItSt (h : Heap) (it q : Addr) (i n ep : Nat) : Prop := ∃ f0 f1 k0 v0, h.get? it = some (itemIt f0 f1 q i n ep k0 v0) ∧
  ((f0 = .none ∧ f1 = .bool false) ∨ ∃ a vs b, f0 = rawInt (a : Nat) ∧ f1 = .bool b ∧ h.get? a = some (tupObj vs) ∧ a ≠ it)
theorem ItSt.keeps {h h' : Heap} {it q : Addr} {i n ep : Nat} (x : ItSt h it q i n ep) (k : ∀ o, h.get? it = some o → h'.get? it = some o) (kt : ∀ a vs, h.get? a = some (tupObj vs) → h'.get? a = some (tupObj vs)) : ItSt h' it q i n ep := by
  obtain ⟨f0, f1, k0, v0, g, r⟩ := x
  refine ⟨f0, f1, k0, v0, k _ g, ?_⟩
  rcases r with r | ⟨a, vs, b, e0, e1, ga, ne⟩
  · exact .inl r
  · exact .inr ⟨a, vs, b, e0, e1, kt _ _ ga, ne⟩
section
variable {prog : Program} {w : World} {A : Around} {E : Value → Shared → Prop} {s : Shared} {q d it : Addr} {es : Array DictEntry} {i ep : Nat}
theorem pair_own {k v : Value} {n : Nat} {Q : Value → Shared → Prop} (st : ItSt s.heap it q i n ep)
    (hQ : ∀ h', ItSt h' it q i n ep → h'.get? s.heap.objs.size = some (tupObj #[k, v]) → (∀ b o, b ≠ it → s.heap.get? b = some o → h'.get? b = some o) → Q (.ref s.heap.objs.size) { s with heap := h' }) :
    wpAny (model prog w) A (Builtin.Dict_items.pairFromOwner (.ref it) 6 k v) Q E s := by
  obtain ⟨f0, f1, k0, v0, g, r⟩ := st
  have il : it < s.heap.objs.size := Heap.lt_size g
  have ti : s.heap.objs.size ≠ it := Nat.ne_of_gt il
  unfold Builtin.Dict_items.pairFromOwner
  refine wpAny_bind (wpAny_newTuple ?_)
  have g₂ : (s.heap.push (tupObj #[k, v])).get? it = some (itemIt f0 f1 q i n ep k0 v0) := Heap.get?_push_of_some _ g
  have t₂ : (s.heap.push (tupObj #[k, v])).get? s.heap.objs.size = some (tupObj #[k, v]) := Heap.get?_push_size _ rfl
  have k₂ : ∀ b o, s.heap.get? b = some o → (s.heap.push (tupObj #[k, v])).get? b = some o := fun b o e => Heap.get?_push_of_some _ e
  have gt₂ : ∀ a vs, s.heap.get? a = some (tupObj vs) → (s.heap.push (tupObj #[k, v])).get? a = some (tupObj vs) := fun a vs e => k₂ _ _ e
  show wpAny _ _ (Builtin.Dict_items.ownedTupleIsFree (.ref it) >>= _) _ _ { s with heap := s.heap.push (tupObj #[k, v]) }
  generalize s.heap.push (tupObj #[k, v]) = h₂ at g₂ t₂ k₂ gt₂ ⊢
  refine wpAny_bind ?_
  unfold Builtin.Dict_items.ownedTupleIsFree
  rcases r with ⟨rfl, rfl⟩ | ⟨a, vs, b, rfl, rfl, ga, ne⟩
  · refine wpAny_bind (wpAny_field g₂ rfl (x := .none) rfl (wpAny_pure ?_))
    refine PySem.bm_if_true rfl ?_
    refine wpAny_bind (wpAny_field g₂ rfl (x := k0) rfl (wpAny_bind (wpAny_field g₂ rfl (x := v0) rfl ?_)))
    refine wpAny_bind (wpAny_setField_rec g₂ (by simp) fun h₃ g₃ s₃ => ?_)
    refine wpAny_bind (wpAny_setField_rec g₃ (by simp) fun h₄ g₄ s₄ => ?_)
    refine wpAny_bind (wpAny_setField_rec g₄ (by simp) fun h₅ g₅ s₅ => ?_)
    refine wpAny_bind (wpAny_setField_rec g₅ (by simp) fun h₆ g₆ s₆ => ?_)
    refine wpAny_bind (wpAny_letGo (wpAny_pure ?_))
    dsimp only at s₃ s₄ s₅ s₆
    have e6 : ∀ b o, b ≠ it → h₂.get? b = some o → h₆.get? b = some o := fun b o hb e => (s₆.2 b hb).trans ((s₅.2 b hb).trans ((s₄.2 b hb).trans ((s₃.2 b hb).trans e)))
    exact hQ h₆ ⟨_, _, _, _, g₆, .inr ⟨s.heap.objs.size, _, _, rfl, rfl, e6 _ _ ti t₂, ti⟩⟩ (e6 _ _ ti t₂) fun b o hb e => e6 b o hb (k₂ b o e)
  · refine wpAny_bind (wpAny_field g₂ rfl (x := rawInt (a : Nat)) rfl ?_)
    show wpAny _ _ (loadIfAlive ((a : Int).toNat) >>= _) _ _ _
    rw [Int.toNat_natCast]
    refine wpAny_bind (kdx_alive (gt₂ _ _ ga) ?_)
    refine PySem.bm_if_false rfl ?_
    refine wpAny_bind (wpAny_field g₂ rfl (x := .bool b) rfl ?_)
    cases b with
    | true =>
      refine PySem.bm_if_false rfl (wpAny_pure (PySem.bm_if_false rfl (wpAny_pure ?_)))
      exact hQ h₂ ⟨_, _, _, _, g₂, .inr ⟨a, vs, true, rfl, rfl, gt₂ _ _ ga, ne⟩⟩ t₂ fun b o _ e => k₂ b o e
    | false =>
      refine PySem.bm_if_true rfl (wpAny_bind (wpAny_setField_rec g₂ (by simp) fun h₃ g₃ s₃ => wpAny_pure (PySem.bm_if_false rfl (wpAny_pure ?_))))
      dsimp only at s₃
      exact hQ h₃ ⟨_, _, _, _, g₃, .inr ⟨a, vs, true, rfl, rfl, (s₃.2 a ne).trans (gt₂ _ _ ga), ne⟩⟩ ((s₃.2 _ ti).trans t₂) fun b o hb e => (s₃.2 b hb).trans (k₂ b o e)
end
end Mine
end
section
open PySem PySem.W PyProof.Rows PySem.Calls Builtin Builtin.ObjectAttr
set_option Elab.async false
set_option linter.unusedVariables false
set_option maxRecDepth 100000
namespace Mine
section
variable {prog : Program} {w : World} {A : Around} {E : Value → Shared → Prop} {s : Shared} {q d it : Addr} {es : Array DictEntry} {i ep : Nat}
theorem item_next {Q : Option Value → Shared → Prop} (st : ItSt s.heap it q i es.size ep) (hq : s.heap.get? q = some (qObj d es ep)) (hi : i < es.size)
    (hQ : ∀ h', ItSt h' it q (i + 1) es.size ep → h'.get? s.heap.objs.size = some (tupObj #[es[i].key, es[i].val]) → (∀ b o, b ≠ it → s.heap.get? b = some o → h'.get? b = some o) → Q (some (.ref s.heap.objs.size)) { s with heap := h' }) :
    wpAny (model prog w) A (pyNext (.ref it)) Q E s := by
  obtain ⟨f0, f1, k0, v0, g, r⟩ := st
  have hT : s.TypeIs (.ref it) "dict_itemiterator" := ⟨_, g, rfl⟩
  unfold pyNext
  refine wpAny_bind (wpAny_attempt (wpAny_callSpecial?_slot (name := Str.ofString "__next__") hT F.slot_dict_itemiterator_next
    (wpAny_call_entry F.slot_dict_itemiterator_next hT F.entry_dict_itemiterator_next ?_ (F.args_dict_itemiterator_next_1 _))))
  refine wpAny_bind (wpAny_pure (wpAny_bind (wpAny_bind (wpAny_bind (wpAny_typeNameOfWhole_itemiter hT (wpAny_pure ?_))))))
  refine wpAny_bind (wpAny_fieldsOf g rfl ?_)
  show wpAny _ _ (if (Value.ref q == Value.none) = true then _ else _) _ _ s
  refine PySem.bm_if_false rfl (wpAny_bind (wpAny_pure (wpAny_bind (wpAny_dictEntries hq rfl ?_))))
  refine PySem.bm_if_false (by simp) (wpAny_bind (wpAny_pure (wpAny_bind (wpAny_dictEpoch hq rfl ?_))))
  refine PySem.bm_if_false (by simp) (wpAny_pure ?_)
  simp only [show ¬ ((i : Int) < 0) from by omega, if_false, Int.toNat_natCast, Array.getElem?_eq_getElem hi]
  refine wpAny_bind (wpAny_bind (wpAny_typeNameOfWhole_itemiter hT (wpAny_pure (wpAny_bind (wpAny_isOneOf_itemiter hT ?_)))))
  show wpAny _ _ (setField (.ref it) 3 (rawInt ((i : Int) + 1)) >>= _) _ _ s
  refine wpAny_bind (wpAny_setField_rec g (by simp) fun h₁ g₁ s₁ => ?_)
  have g₁' : h₁.get? it = some (itemIt f0 f1 q (i + 1) es.size ep k0 v0) := g₁
  have st₁ : ItSt h₁ it q (i + 1) es.size ep := by
    refine ⟨f0, f1, k0, v0, g₁', ?_⟩
    rcases r with r | ⟨a, vs, b, e0, e1, ga, ne⟩
    · exact .inl r
    · exact .inr ⟨a, vs, b, e0, e1, (s₁.2 a ne).trans ga, ne⟩
  have hT₁ : Shared.TypeIs { s with heap := h₁ } (.ref it) "dict_itemiterator" := ⟨_, g₁', rfl⟩
  refine wpAny_bind (wpAny_holding (wpAny_bind (wpAny_isOneOf_itemiter hT₁ (wpAny_bind (wpAny_isOneOf_itemiter hT₁ ?_)))))
  show wpAny _ _ (Builtin.Dict_items.pairFromOwner (.ref it) 6 es[i].key es[i].val) _ _ { s with heap := h₁ }
  refine pair_own (s := { s with heap := h₁ }) st₁ fun h₂ st₂ t₂ k₂ => ?_
  have hz : h₁.objs.size = s.heap.objs.size := s₁.1
  dsimp only at t₂ k₂
  rw [hz] at t₂
  show wpAny _ _ (ret (.ref h₁.objs.size)) _ _ _
  rw [hz]
  exact wpAny_pure ⟨_, rfl, wpAny_pure (hQ h₂ st₂ t₂ fun b o hb e => k₂ b o hb ((s₁.2 b hb).trans e))⟩
theorem item_end {Q : Option Value → Shared → Prop} (hh : A.handled = none) (st : ItSt s.heap it q i es.size ep) (hq : s.heap.get? q = some (qObj d es ep)) (hi : es.size ≤ i)
    (hQ : ∀ h', Heap.ExtBut it s.heap h' → Q none { s with heap := h' }) :
    wpAny (model prog w) A (pyNext (.ref it)) Q E s := by
  obtain ⟨f0, f1, k0, v0, g, r⟩ := st
  have hT : s.TypeIs (.ref it) "dict_itemiterator" := ⟨_, g, rfl⟩
  unfold pyNext
  refine wpAny_bind (wpAny_attempt (wpAny_callSpecial?_slot (name := Str.ofString "__next__") hT F.slot_dict_itemiterator_next
    (wpAny_call_entry F.slot_dict_itemiterator_next hT F.entry_dict_itemiterator_next ?_ (F.args_dict_itemiterator_next_1 _))))
  refine wpAny_bind (wpAny_pure (wpAny_bind (wpAny_bind (wpAny_bind (wpAny_typeNameOfWhole_itemiter hT (wpAny_pure ?_))))))
  refine wpAny_bind (wpAny_fieldsOf g rfl ?_)
  show wpAny _ _ (if (Value.ref q == Value.none) = true then _ else _) _ _ s
  refine PySem.bm_if_false rfl (wpAny_bind (wpAny_pure (wpAny_bind (wpAny_dictEntries hq rfl ?_))))
  refine PySem.bm_if_false (by simp) (wpAny_bind (wpAny_pure (wpAny_bind (wpAny_dictEpoch hq rfl ?_))))
  refine PySem.bm_if_false (by simp) (wpAny_pure ?_)
  simp only [show ¬ ((i : Int) < 0) from by omega, if_false, Int.toNat_natCast, Array.getElem?_eq_none hi]
  refine wpAny_bind (wpAny_bind (wpAny_typeNameOfWhole_itemiter hT (wpAny_pure ?_)))
  show wpAny _ _ (setField (.ref it) 2 .none >>= _) _ _ s
  refine wpAny_bind (wpAny_setField g rfl (by simp) ?_)
  show wpAny _ _ (newExc (.type "StopIteration") [] >>= _) _ _ _
  refine wpAny_bind ?_
  unfold newExc newTuple
  refine wpAny_bind (wpAny_newObj_type ?_ (by size_fits))
  refine wpAny_bind (m := firstArgMember _ _) (wpAny_of_eq (a := Value.none) (by first | rfl | (simp only [firstArgMember]; rfl)) ?_)
  refine wpAny_newObj_type ?_ (by size_fits)
  unfold raiseNew
  refine wpAny_bind (wpAny_handled ?_)
  rw [show A.in1.handled = none from hh]
  refine wpAny_bind (wpAny_pure (wpAny_throw ?_))
  refine wpAny_bind (wpAny_isInstance (T := "StopIteration") (b := true) ⟨_, Heap.get?_push_size _ rfl, rfl⟩ isSubtype_stop ?_)
  exact wpAny_pure (hQ _ (((Heap.SameBut.update ..).extBut.push _).push _))
theorem view_iter {v : Addr} {Q : Value → Shared → Prop} (hv : s.heap.IsItemsView v q) (hq : s.heap.get? q = some (qObj d es ep))
    (hQ : Q (.ref s.heap.objs.size) { s with heap := s.heap.push (itemIt .none (.bool false) q 0 es.size ep .none .none) }) :
    wpAny (model prog w) A (pyIter (.ref v)) Q E s := by
  obtain ⟨ov, hov, hcv, hdv⟩ := id hv
  refine wpAny_pyIter_slot hv.typeIs F.slot_dict_items_iter (wpAny_call_entry F.slot_dict_items_iter hv.typeIs F.entry_dict_items_iter ?_ (F.args_dict_items_iter_1 _))
  unfold Builtin.«dict_items.__iter__» Builtin.Dict_items.dictOf Builtin.Dict_items.newIterator
  refine wpAny_bind (wpAny_pure (wpAny_bind (wpAny_bind (wpAny_field hov hdv (x := .ref q) rfl (wpAny_pure ?_)))))
  refine wpAny_bind (wpAny_bind (wpAny_dictEntries hq rfl (wpAny_bind (wpAny_dictEpoch hq rfl ?_))))
  simp only [show Builtin.Dict_items.ownsTuple "dict_itemiterator" = true by decide, if_true]
  refine wpAny_newObj_type (wpAny_pure ⟨_, rfl, "dict_itemiterator", _, ⟨_, Heap.get?_push_size _ rfl, rfl⟩, F.slot_dict_itemiterator_next.lookup, hQ⟩) (by
    simp only [sizeOk, Builtin.Dict_items.ownedTupleFields, List.size_toArray, List.length_append, List.length_cons, List.length_nil, sizeLine_eq]; omega)
end
end Mine
end
section
open PySem PySem.W PyProof.Rows PySem.Calls Builtin Builtin.ObjectAttr
set_option Elab.async false
set_option linter.unusedVariables false
set_option maxRecDepth 100000
namespace Mine
/-- tuples of a quoter's entries, one after the other -/
def TupsAre (h : Heap) (es : Array DictEntry) (as : List Addr) : Prop := ∀ (j : Nat) (a : Addr), as[j]? = some a → ∃ e : DictEntry, es[j]? = some e ∧ h.get? a = some (tupObj #[e.key, e.val])
theorem TupsAre.keeps {h h' : Heap} {es : Array DictEntry} {as : List Addr} (x : TupsAre h es as) (k : ∀ a vs, h.get? a = some (tupObj vs) → h'.get? a = some (tupObj vs)) : TupsAre h' es as := fun j a e =>
  let ⟨y, e1, e2⟩ := x j a e; ⟨y, e1, k _ _ e2⟩
abbrev lstObj (acc : Array Value) (c : Nat) : Obj := { cls := .type "list", dict := none, data := .seq acc c, slots := #[] }
section
variable {prog : Program} {w : World} {A : Around} {E : Value → Shared → Prop} {s : Shared} {q d S I : Addr} {es : Array DictEntry} {ep : Nat} {R : Result → Shared → Prop}
theorem items_loop {h₁ : Heap} {res : Value} (hh : A.handled = none) (hSI : S ≠ I) (hSq : q ≠ S) (hqI : q ≠ I) (hz : es.size ≤ 4096)
    (hR : ∀ h' tk acc c as, (∀ b o, b ≠ S → b ≠ I → h₁.get? b = some o → h'.get? b = some o) → h'.get? S = some (lstObj acc c) → as.length = es.size → acc.toList = as.map Value.ref → TupsAre h' es as → R (.ok (.ret res)) { s with heap := h', toks := tk }) :
    ∀ (j i : Nat) (h : Heap) (tk c : Nat) (acc : Array Value) (as : List Addr), es.size - i = j → i ≤ es.size → ItSt h I q i es.size ep → h.get? q = some (qObj d es ep) → (∀ b o, b ≠ S → b ≠ I → h₁.get? b = some o → h.get? b = some o) →
      h.get? S = some (lstObj acc c) → acc.toList = as.map Value.ref → as.length = i → TupsAre h es as →
      codeAny (model prog w) A (.builtin "list.extend.loop" ⟨[.ref S, .ref I, res], []⟩) R { s with heap := h, toks := tk } := by
  have noS : ∀ {h : Heap} {acc c a vs}, h.get? S = some (lstObj acc c) → h.get? a = some (tupObj vs) → a ≠ S := fun hS ha e => by
    rw [e, hS] at ha; exact absurd (congrArg Obj.cls (Option.some.inj ha)) (by simp)
  have noI : ∀ {h : Heap} {i n a vs}, ItSt h I q i n ep → h.get? a = some (tupObj vs) → a ≠ I := fun st ha e => by
    obtain ⟨f0, f1, k0, v0, g, _⟩ := st
    rw [e, g] at ha; exact absurd (congrArg Obj.cls (Option.some.inj ha)) (by simp)
  intro j
  induction j with
  | zero =>
    intro i h tk c acc as hj hi st hq hk hS hacc hal hT
    refine codeAny_builtin F.entry_extend_loop ?_
    rw [Around.under_plainId F.plain_extend_loop _]
    show wpAny _ A.in1 (pyNext (.ref I) >>= _) _ _ _
    refine wpAny_bind (item_end (s := { s with heap := h, toks := tk }) (A := A.in1) hh st hq (by omega) fun h' he => ?_)
    exact wpAny_pure (hR h' tk acc c as (fun b o h1 h2 e => he b o h2 (hk b o h1 h2 e)) (he S _ hSI hS) (by omega) hacc (hT.keeps fun a vs e => he a _ (noI st e) e))
  | succ j ih =>
    intro i h tk c acc as hj hi st hq hk hS hacc hal hT
    have hlt : i < es.size := by omega
    have hsz : acc.size = i := by rw [← Array.length_toList, hacc, List.length_map, hal]
    refine codeAny_builtin F.entry_extend_loop ?_
    rw [Around.under_plainId F.plain_extend_loop _]
    show wpAny _ A.in1 (pyNext (.ref I) >>= _) _ _ _
    refine wpAny_bind (item_next (s := { s with heap := h, toks := tk }) st hq hlt fun h' st' ht hkp => ?_)
    dsimp only at ht hkp ⊢
    have hS' := hkp S _ hSI hS
    have tS : h.objs.size ≠ S := Nat.ne_of_gt (Heap.lt_size hS)
    have up : ∀ b o, b ≠ S → h'.get? b = some o → (h'.update S (Obj.mapSeq (·.push (Value.ref h.objs.size)))).get? b = some o := fun b o hb e => (Heap.get?_update_other _ _ (Ne.symm hb)).trans e
    show wpAny _ A.in1 (updateSeq S (·.push (Value.ref h.objs.size)) >>= _) _ _ _
    refine wpAny_bind ?_
    refine wpAny_updateSeq hS' rfl (wpAny_pure ⟨plainId_quiet F.plain_extend_loop _, ih (i + 1) _ tk _ (acc.push (Value.ref h.objs.size)) (as ++ [h.objs.size]) (by omega) hlt (st'.keeps (fun o e => up I o (Ne.symm hSI) e) fun a vs e => up a _ (noS hS' e) e)
      (up q _ hSq (hkp q _ hqI hq)) (fun b o h1 h2 e => up b o h1 (hkp b o h2 (hk b o h1 h2 e))) (Heap.get?_update_self _ hS' rfl) (by rw [Array.toList_push, hacc, List.map_append]; rfl) (by rw [List.length_append, hal]; rfl) ?_⟩)
      (by rw [hsz, sizeLine_eq]; omega) (by show (acc.push (Value.ref h.objs.size)).size ≤ sizeLine + 1; rw [Array.size_push, hsz, sizeLine_eq]; omega)
    intro j' a ha
    by_cases h1 : j' < as.length
    · rw [List.getElem?_append_left h1] at ha
      obtain ⟨e, e1, e2⟩ := hT j' a ha
      have e3 := hkp a _ (noI st e2) e2
      exact ⟨e, e1, up a _ (noS hS' e3) e3⟩
    · rw [List.getElem?_append_right (by omega)] at ha
      have : j' - as.length = 0 := by
        cases hz : j' - as.length with
        | zero => rfl
        | succ m => rw [hz] at ha; simp at ha
      rw [this] at ha
      obtain rfl : h.objs.size = a := by simpa using ha
      obtain rfl : j' = i := by omega
      exact ⟨es[j'], Array.getElem?_eq_getElem hlt, up _ _ tS ht⟩
end
end Mine
end
section
open PySem PySem.W PyProof.Rows PySem.Calls Builtin Builtin.ObjectAttr
set_option Elab.async false
set_option linter.unusedVariables false
set_option maxRecDepth 100000
namespace Mine
section
variable {prog : Program} {w : World} {A : Around} {E : Value → Shared → Prop} {s : Shared} {q d v : Addr} {es : Array DictEntry} {ep : Nat}
theorem view_keeps {h h' : Heap} (x : h.IsItemsView v q) (k : ∀ o, h.get? v = some o → h'.get? v = some o) : h'.IsItemsView v q := let ⟨o, ho, r⟩ := x; ⟨o, k _ ho, r⟩
set_option maxHeartbeats 1000000 in
theorem items_extend {R : Result → Shared → Prop} {S : Addr} {res : Value} {c₀ : Nat} (hh : A.handled = none) (hv : s.heap.IsItemsView v q) (hq : s.heap.get? q = some (qObj d es ep)) (hSv : S ≠ v) (hSq : q ≠ S) (hS : s.heap.get? S = some (lstObj #[] c₀)) (hz : es.size ≤ 4096)
    (hR : ∀ h' tk acc c as, (∀ b o, b ≠ S → s.heap.get? b = some o → h'.get? b = some o) → h'.get? S = some (lstObj acc c) → as.length = es.size → acc.toList = as.map Value.ref → TupsAre h' es as → R (.ok (.ret res)) { s with heap := h', toks := tk }) :
    wpAny (model prog w) A.in1 (Builtin.List.listExtendWith (.ref S) (.ref v) res)
      (fun fin s' => match fin with | .done f => R (.ok f) s' | .again c' => c'.quiet = true ∧ codeAny (model prog w) A c' R s') (fun e s' => R (.error e) s') s := by
  have hSI : S ≠ s.heap.objs.size := Nat.ne_of_lt (Heap.lt_size hS)
  have hqI : q ≠ s.heap.objs.size := Nat.ne_of_lt (Heap.lt_size hq)
  have key : ∀ (h : Heap) (c₁ tk : Nat), (∀ b o, b ≠ S → (s.heap.push (itemIt .none (.bool false) q 0 es.size ep .none .none)).get? b = some o → h.get? b = some o) →
      h.get? S = some (lstObj #[] c₁) → codeAny (model prog w) A (.builtin "list.extend.loop" ⟨[.ref S, .ref s.heap.objs.size, res], []⟩) R { s with heap := h, toks := tk } := by
    intro h c₁ tk hk hS₁
    have hI := hk s.heap.objs.size _ (Ne.symm hSI) (Heap.get?_push_size _ rfl)
    exact items_loop (s := s) (h₁ := s.heap) (ep := ep) hh hSI hSq hqI hz (fun h' tk' acc c as hk' hS' hl hacc hT => hR h' tk' acc c as (fun b o hb e => hk' b o hb (Nat.ne_of_lt (Heap.lt_size e)) e) hS' hl hacc hT)
      _ 0 h tk c₁ #[] [] rfl (Nat.zero_le _) ⟨_, _, _, _, hI, .inl ⟨rfl, rfl⟩⟩ (hk q _ hSq (Heap.get?_push_of_some _ hq)) (fun b o hb _ e => hk b o hb (Heap.get?_push_of_some _ e)) hS₁ rfl rfl (fun j a e => by simp at e)
  unfold Builtin.List.listExtendWith
  refine wpAny_bind (wpAny_typeOf (T := "dict_items") hv.typeIs ?_)
  have h1 : Builtin.List.listSameRef (.ref S) (.ref v) = false := by simp [Builtin.List.listSameRef, hSv]
  have h2 : (Value.type "dict_items" == Value.type "list") = false := by decide
  have h3 : (Value.type "dict_items" == Value.type "tuple") = false := by decide
  simp only [h1, h2, h3, Bool.or_false, Bool.false_eq_true, if_false]
  refine wpAny_bind (view_iter hv hq ?_)
  have hS₁ : (s.heap.push (itemIt .none (.bool false) q 0 es.size ep .none .none)).get? S = _ := Heap.get?_push_of_some _ hS
  refine wpAny_bind (wpAny_holding (kdx_hint (view_keeps hv fun o e => Heap.get?_push_of_some _ e).typeIs ?_))
  refine wpAny_ite_split (fun _ => ?_) (fun _ => wpAny_pure ⟨plainId_quiet F.plain_extend_loop _, key _ c₀ _ (fun b o _ e => e) hS₁⟩)
  refine wpAny_bind (wpAny_rule (wpAny_bind ?_))
  show wpAny _ _ (updateSeq S (·.push .none) >>= fun _ => updateSeq S (·.pop)) _ _ _
  refine wpAny_bind (wpAny_updateSeq hS₁ rfl ?_)
  have hS₂ := Heap.get?_update_self (Obj.mapSeq (·.push Value.none)) hS₁ rfl
  refine wpAny_updateSeq (hz := by seq_fits) hS₂ rfl ?_
  have hS₃ := Heap.get?_update_self (Obj.mapSeq (·.pop)) hS₂ rfl
  refine wpAny_pure ⟨plainId_quiet F.plain_extend_loop _, key _ _ _ (fun b o hb e => ?_) hS₃⟩
  exact (Heap.get?_update_other _ _ (Ne.symm hb)).trans ((Heap.get?_update_other _ _ (Ne.symm hb)).trans e)
theorem items_list {Q : Value → Shared → Prop} (hh : A.handled = none) (hv : s.heap.IsItemsView v q) (hq : s.heap.get? q = some (qObj d es ep)) (hz : es.size ≤ 4096)
    (hQ : ∀ h' tk acc c as, (∀ b o, s.heap.get? b = some o → h'.get? b = some o) → h'.get? s.heap.objs.size = some (lstObj acc c) → as.length = es.size → acc.toList = as.map Value.ref → TupsAre h' es as → Q (.ref s.heap.objs.size) { s with heap := h', toks := tk }) :
    wpAny (model prog w) A (call (.type "list") [.ref v]) Q E s := by
  refine callType_codes (Q₁ := fun obj s₁ => obj = .ref s.heap.objs.size ∧ s₁ = { s with heap := s.heap.push { cls := .type "list", data := .seq #[] } }) F.called_list (F.typeCall_list_1 _) F.entry_list_init
    (code_list_new _ ⟨rfl, rfl⟩) fun obj s₁ h₁ => ?_
  obtain ⟨rfl, rfl⟩ := h₁
  have hS : (s.heap.push { cls := .type "list", data := .seq #[] }).get? s.heap.objs.size = some { cls := .type "list", data := .seq #[] } := Heap.get?_push_size _ rfl
  have hr : v < s.heap.objs.size := let ⟨_, ho, _⟩ := hv; Heap.lt_size ho
  have hd : q < s.heap.objs.size := Heap.lt_size hq
  refine ⟨⟨_, hS, rfl⟩, F.args_list_init_2 _ _, ?_⟩
  show wpAny _ _ (do let old ← Builtin.List.listItems (.ref s.heap.objs.size); Builtin.List.listUpdate (.ref s.heap.objs.size) (fun _ => #[]); letGo old.toList.reverse; Builtin.List.listExtendWith (.ref s.heap.objs.size) (.ref v) .none) _ _ _
  refine wpAny_bind ?_
  unfold Builtin.List.listItems
  refine wpAny_bind (wpAny_seqItems hS rfl (wpAny_pure ?_))
  show wpAny _ _ (updateSeq s.heap.objs.size (fun _ => #[]) >>= fun _ => letGo (#[] : Array Value).toList.reverse >>= fun _ => Builtin.List.listExtendWith (.ref s.heap.objs.size) (.ref v) .none) _ _ _
  refine wpAny_bind (wpAny_updateSeq hS rfl ?_)
  have hS₂ := Heap.get?_update_self (Obj.mapSeq (fun _ => (#[] : Array Value))) hS rfl
  have oth : ∀ b o, b ≠ s.heap.objs.size → s.heap.get? b = some o → ((s.heap.push { cls := .type "list", data := .seq #[] }).update s.heap.objs.size (Obj.mapSeq (fun _ => (#[] : Array Value)))).get? b = some o :=
    fun b o hb e => (Heap.get?_update_other _ _ (Ne.symm hb)).trans (Heap.get?_push_of_some _ e)
  refine wpAny_bind (wpAny_letGo ?_)
  refine items_extend (A := A.in1) hh (view_keeps hv fun o e => oth v o (Nat.ne_of_lt hr) e) (oth q _ (Nat.ne_of_lt hd) hq) (Nat.ne_of_gt hr) (Nat.ne_of_lt hd) hS₂ hz fun h' tk acc c as hk hS' hl hacc hT => ?_
  exact ⟨rfl, hQ h' tk acc c as (fun b o e => hk b o (Nat.ne_of_lt (Heap.lt_size e)) (oth b o (Nat.ne_of_lt (Heap.lt_size e)) e)) hS' hl hacc hT⟩
end
end Mine
end
section
open PySem PySem.W PyProof.Rows PySem.Calls Builtin Builtin.ObjectAttr
set_option Elab.async false
set_option linter.unusedVariables false
set_option maxRecDepth 100000
namespace Mine
section
variable {prog : Program} {w : World} {A : Around} {E : Value → Shared → Prop} {s : Shared} {q d f : Addr} {es : Array DictEntry} {ep : Nat} {tk : Tok}
theorem safe_ns {h : Heap} (hd : h.get? d = some (safeDict w tk f)) : h.Ns d (fun x => nsFind #[⟨PyData.keyHash w.params safeS, .str safeS tk, .ref f⟩] x) :=
  ⟨_, _, _, hd, rfl, fun e he => by simp at he; subst he; exact ⟨_, _, rfl⟩, fun _ => rfl⟩
theorem safe_items : nsFind #[⟨PyData.keyHash w.params safeS, .str safeS tk, .ref f⟩] (Str.ofString "items") = none := by
  unfold nsFind findBy
  have : (Value.str safeS tk).isStr (Str.ofString "items") = false := by
    show (safeS == Str.ofString "items") = false
    decide +kernel
  simp [this]
theorem canon_ga : (Manifest.canonical "dict.__getattribute__" != "object.__getattribute__") = false := by decide +kernel
theorem q_items_m {pl : Sem Bool} {Q : Value × List Value → Shared → Prop} (B : Base w s.heap) (hq : s.heap.get? q = some (qObj d es ep)) (hd : s.heap.get? d = some (safeDict w tk f)) (h : Q (.builtin "dict.items", [.ref q]) s) :
    wpAny (model prog w) A (getMethod (.ref q) (Str.ofString "items") pl) Q E s := by
  have ty := q_type (M := model prog w) hq
  unfold getMethod specialOf
  refine wpAny_bind (wpAny_bind (ty _ _ _ _ (fun _ _ e => e) (looks_findIn B.k (Kf.gattr w.params) _ _ _ _ (fun _ _ e => e) ?_)))
  dsimp only
  refine PySem.bm_if_false canon_ga ?_
  refine wpAny_bind (wpAny_bind (ty _ _ _ _ (fun _ _ e => e) (looks_findIn B.k (Kf.ghook w.params) _ _ _ _ (fun _ _ e => e) ?_)))
  refine PySem.bm_if_false rfl ?_
  refine wpAny_bind (wpAny_bind (ty _ _ _ _ (fun _ _ e => e) (looks_findIn B.k (Kf.items w.params) _ _ _ _ (fun _ _ e => e) ?_)))
  dsimp only
  rw [F.type_dict_items]
  refine wpAny_bind (wpAny_pure ?_)
  refine PySem.bm_if_false (by decide) ?_
  refine wpAny_bind (wpAny_loadPart hq ?_)
  dsimp only
  refine wpAny_bind (wpAny_nsGet (safe_ns (w := w) hd) ?_)
  rw [safe_items]
  exact PySem.bm_if_false rfl (wpAny_bind (wpAny_rule (wpAny_pure h)))
theorem kind_items : builtinKind "dict.items" = some .method := by decide +kernel
theorem split_items : splitId "dict.items" = some ("dict", "items") := by decide +kernel
theorem plain_items : plainId "dict.items" = true := by decide +kernel
theorem q_items_call {Q : Value → Shared → Prop} (B : Base w s.heap) (h1q : 1 < q) (hq : s.heap.get? q = some (qObj d es ep)) (h : Q (.ref s.heap.objs.size) { s with heap := s.heap.push { cls := .type "dict_items", data := .fields #[.ref q] } }) :
    wpAny (model prog w) A (call (.builtin "dict.items") [.ref q]) Q E s := by
  refine wpAny_call (codeAny_call_builtin plain_items F.entry_dict_items ?_)
  have ck := fun E' Q' => @PySem.W.kfo_check (model prog w) A.in1 E' s "dict.items" "dict" "items" (.ref q) [] [] Q' kind_items split_items (q_isa B.k hq (Kf.isDict w.params)) (PySem.F.args_dict_items_1 _)
  refine ck _ _ ?_
  unfold Builtin.«dict.items» Builtin.Dict.noArgs Builtin.Dict.notOrdered
  refine wpAny_bind (wpAny_bind ?_)
  refine PySem.bm_if_true (by decide) ?_
  refine wpAny_bind (q_type (M := model prog w) hq _ _ _ _ (fun _ _ e => e) ?_)
  refine PySem.bm_if_true rfl ?_
  refine wpAny_bind (q_isa (M := model prog w) B.k hq (Kf.isOrd w.params) _ _ _ _ (fun _ _ e => e) ?_)
  refine PySem.bm_if_false rfl (wpAny_pure ?_)
  refine wpAny_of_eq (a := q) rfl ?_
  unfold Builtin.Dict.showsAll
  refine wpAny_bind ?_
  refine PySem.bm_if_false (beq_eq_false_iff_ne.mpr (Nat.ne_of_gt h1q)) (wpAny_pure ?_)
  exact wpAny_bind (wpAny_newObj_type (wpAny_pure h))
end
end Mine
end
section
open PySem PySem.W PyProof.Rows PySem.Calls Builtin Builtin.ObjectAttr
set_option Elab.async false
set_option linter.unusedVariables false
set_option maxRecDepth 100000
namespace Mine
/-! a list comprehension over a list, whose elements are new tuples -/
def TupsP (h : Heap) (P : Nat → Array Value → Prop) (ys : List Value) : Prop := ∀ (j : Nat) (y : Value), ys[j]? = some y → ∃ T vs, y = .ref T ∧ h.get? T = some (tupObj vs) ∧ P j vs
theorem TupsP.keeps {h h' : Heap} {P : Nat → Array Value → Prop} {ys : List Value} (x : TupsP h P ys) (k : ∀ a vs, h.get? a = some (tupObj vs) → h'.get? a = some (tupObj vs)) : TupsP h' P ys := fun j y e =>
  let ⟨T, vs, e1, e2, e3⟩ := x j y e; ⟨T, vs, e1, k _ _ e2, e3⟩
theorem TupsP.snoc {h : Heap} {P : Nat → Array Value → Prop} {ys : List Value} (x : TupsP h P ys) {T : Addr} {vs : Array Value} (ht : h.get? T = some (tupObj vs)) (hp : P ys.length vs) : TupsP h P (ys ++ [.ref T]) := fun j y e => by
  by_cases h1 : j < ys.length
  · rw [List.getElem?_append_left h1] at e; exact x j y e
  · rw [List.getElem?_append_right (by omega)] at e
    have h2 : j - ys.length = 0 := by
      cases hz : j - ys.length with
      | zero => rfl
      | succ m => rw [hz] at e; simp at e
    rw [h2] at e
    obtain rfl : Value.ref T = y := by simpa using e
    obtain rfl : j = ys.length := by omega
    exact ⟨T, vs, rfl, ht, hp⟩
theorem tup_ne_ns {h : Heap} {C a : Addr} {m : PySem.Str → Option Value} {vs : Array Value} (hn : h.Ns C m) (ha : h.get? a = some (tupObj vs)) : a ≠ C := fun e => by
  obtain ⟨o, es, ep, ho, hd, _⟩ := hn
  rw [e, ho] at ha
  rw [Option.some.inj ha] at hd
  cases hd
theorem tup_ne_list {h : Heap} {D a : Addr} {ys vs : Array Value} (hl : h.PlainList D ys) (ha : h.get? a = some (tupObj vs)) : a ≠ D := fun e => by
  obtain ⟨n, ho⟩ := hl
  rw [e, ho] at ha
  exact absurd (congrArg Obj.cls (Option.some.inj ha)) (by simp)
theorem tup_ne_iter {h : Heap} {I a l : Addr} {i : Nat} {vs : Array Value} (hl : h.IsListIter I l i) (ha : h.get? a = some (tupObj vs)) : a ≠ I := fun e => by
  obtain ⟨o, ho, hc, _⟩ := hl
  rw [e, ho] at ha
  rw [Option.some.inj ha] at hc
  exact absurd hc (by simp)
section
variable {prog : Program} {w : World} {A : Around} {E : Value → Shared → Prop} {s : Shared} {env : Env}
set_option maxHeartbeats 1000000 in
theorem comp_tups {elt iter : Expr} {x : PySem.Str} {px : Pos} {scope : Scope} {cl : List (PySem.Str × Addr)} {pos : Pos} {Q : Value → Shared → Prop} {l : Addr} {vs : List Value} {P : Nat → Array Value → Prop} (hh : A.handled = none)
    (hclos : closureFor scope env = pure cl) (hcell : ∀ y ∈ scope.names, y.2 ≠ .cell) (hkind : scope.kind = .function)
    (hnames : ∀ y ∈ scope.names, y.2 = .local → scope.names.lookup y.1 = some .local) (hx : scope.names.lookup x = some .local)
    (hl : s.heap.IsList l vs.toArray) (hz : vs.length ≤ 4096)
    (hi : ∀ Q', Q' (.ref l) s → wpAny (model prog w) A (eval iter env) Q' E s)
    (he : ∀ C i v (s₃ : Shared) m₃ E' Q', s.heap.get? C = none → vs[i]? = some v → s₃.heap.Ns C m₃ → m₃ x = some v → (∀ b o, s.heap.get? b = some o → s₃.heap.get? b = some o) →
      (∀ T ws h' tk, s₃.heap.get? T = none → Ext [] s₃.heap h' → h'.get? T = some (tupObj ws) → P i ws → Q' (.ref T) { s₃ with heap := h', toks := tk }) → wpAny (model prog w) A (eval elt (compEnvC scope cl C env)) Q' E' s₃)
    (hQ : ∀ D h' tk ys, s.heap.get? D = none → h'.PlainList D ys → ys.size = vs.length → TupsP h' P ys.toList → Ext [] s.heap h' → Q (.ref D) { s with heap := h', toks := tk })
    (hs : ∀ x, foldedSetIterable iter env x = pure x := by intro _; rfl) :
    wpAny (model prog w) A (eval (.ListComp elt [⟨.Name x px, iter, [], 0⟩] scope pos) env) Q E s := by
  rw [eval_ListComp]
  refine wpAny_comprehension_free (use := none) rfl hs hclos hkind hnames (hi _ (wpAny_pyIter_list hl ?_))
  have hll : l < s.heap.objs.size := let ⟨_, ho, _⟩ := hl; Heap.lt_size ho
  have W := Walks.list (prog := prog) (w := w) (A := A) hh s.heap.objs.size l (Nat.ne_of_lt hll) vs.toArray
  refine wpAny_newObj_type (wpAny_newFunctionEnv hcell (by intro y hy; simp at hy) (fun h₁ hns₁ hsb₁ => ?_) hkind)
  dsimp only at hns₁ hsb₁ ⊢
  generalize hH1 : s.heap.push { cls := .type "list_iterator", data := .fields #[.ref l, .int 0 0] } = H1 at hns₁ hsb₁ ⊢
  generalize hH2 : H1.push { cls := .type "list", dict := none, data := .seq ([] : List Value).toArray } = H2 at hns₁ hsb₁ ⊢
  have z1 : H1.objs.size = s.heap.objs.size + 1 := by rw [← hH1, Heap.size_push]
  have z2 : H2.objs.size = H1.objs.size + 1 := by rw [← hH2, Heap.size_push]
  have o1 : ∀ b o, s.heap.get? b = some o → H1.get? b = some o := fun b o e => hH1 ▸ Heap.get?_push_of_some _ e
  have o2 : ∀ b o, H1.get? b = some o → H2.get? b = some o := fun b o e => hH2 ▸ Heap.get?_push_of_some _ e
  have o3 : ∀ b o, H2.get? b = some o → h₁.get? b = some o := fun b o e => hsb₁.extBut b o (Nat.ne_of_lt (Heap.lt_size e)) (Heap.get?_push_of_some _ e)
  have gI : h₁.IsListIter s.heap.objs.size l 0 := ⟨_, o3 _ _ (o2 _ _ (hH1 ▸ Heap.get?_push_size _ rfl)), rfl, rfl⟩
  have gD : h₁.PlainList H1.objs.size #[] := ⟨_, o3 _ _ (hH2 ▸ Heap.get?_push_size _ rfl)⟩
  have gl : h₁.IsList l vs.toArray := PyProof.Rows.lstKept hl fun b o e => o3 b o (o2 b o (o1 b o e))
  have nC : s.heap.get? H2.objs.size = none := PySem.Heap.get?_none_of_le (by rw [z2, z1]; exact Nat.le_succ_of_le (Nat.le_succ _))
  have nD : s.heap.get? H1.objs.size = none := PySem.Heap.get?_none_of_le (by rw [z1]; exact Nat.le_succ _)
  have nI : s.heap.get? s.heap.objs.size = none := get_size _
  have DC : H1.objs.size ≠ H2.objs.size := by rw [z2]; exact Nat.ne_of_lt (Nat.lt_succ_self _)
  have ID : s.heap.objs.size ≠ H1.objs.size := by rw [z1]; exact Nat.ne_of_lt (Nat.lt_succ_self _)
  have IC : s.heap.objs.size ≠ H2.objs.size := by rw [z2, z1]; exact Nat.ne_of_lt (Nat.lt_succ_of_lt (Nat.lt_succ_self _))
  have lC : l ≠ H2.objs.size := fun e => by obtain ⟨o, ho, _⟩ := hl; rw [e, nC] at ho; cases ho
  have lD : l ≠ H1.objs.size := fun e => by obtain ⟨o, ho, _⟩ := hl; rw [e, nD] at ho; cases ho
  generalize H2.objs.size = C at hns₁ nC DC IC lC ⊢
  generalize H1.objs.size = D at gD nD DC ID lD ⊢
  generalize s.heap.objs.size = I at W gI nI ID IC ⊢
  have k0 : ∀ b o, s.heap.get? b = some o → h₁.get? b = some o := fun b o e => o3 b o (o2 b o (o1 b o e))
  have out : ∀ {b o}, s.heap.get? b = some o → b ≠ I ∧ b ≠ C ∧ b ≠ D := fun {b o} e => ⟨fun q => (by rw [q, nI] at e; cases e), fun q => (by rw [q, nC] at e; cases e), fun q => (by rw [q, nD] at e; cases e)⟩
  clear hH1 hH2 z1 z2 o1 o2 o3 hsb₁
  have hvs : vs.toArray.size = vs.length := by simp
  have loop : codeAny (model prog w) A (.compLoop (.ListComp elt [⟨.Name x px, iter, [], 0⟩] scope pos) 0 (.ref I) (.ref D) (compEnvC scope cl C env)) (compPost (model prog w) A E none Q (.ref D) C) { s with heap := h₁, toks := s.toks + ([] : List (PySem.Str × Value)).length } := by
    refine codeAny_compLoop_tests (fun k s' => ∃ h' tk m' ys i, s' = { s with heap := h', toks := tk } ∧ (h'.IsListIter I l i ∧ h'.IsList l vs.toArray) ∧ h'.PlainList D ys ∧ h'.Ns C m' ∧ ys.size = i ∧ TupsP h' P ys.toList ∧ (∀ b o, s.heap.get? b = some o → h'.get? b = some o) ∧ i ≤ vs.length ∧ k = vs.length + 1 - i) ?_ (vs.length + 1)
      ⟨h₁, _, _, #[], 0, rfl, ⟨gI, gl⟩, gD, hns₁, rfl, fun j y e => by simp at e, k0, Nat.zero_le _, rfl⟩
    rintro k s' ⟨h', tk, m', ys, i, rfl, st, gD', hn', hys, hT, hk, hi', rfl⟩
    by_cases hlt : i < vs.length
    · refine W.item i _ _ _ (by rw [hvs]; exact hlt) st fun v h₂ tk₂ hP st₂ k₂ => ?_
      have hv : vs[i]? = some v := by simpa using hP
      refine wpAny_assign_Name (wpAny_storeName_local (env := compEnvC scope cl C env) (lookup_relabel_local hx) (hn'.at' fun o e => k₂ _ o (by simpa using Ne.symm IC) e) (fun h₃ hn₃ hs₃ => ?_) (by simp [compEnvC, relabel, hkind]))
      have c3 : ∀ b o, b ≠ I → b ≠ C → h'.get? b = some o → h₃.get? b = some o := fun b o h1 h2 e => hs₃.extBut b o h2 (k₂ b o (by simpa using h1) e)
      rw [List.forIn_nil]
      refine wpAny_pure ?_
      rw [if_pos rfl]
      refine he C i v { s with heap := h₃, toks := tk₂ + 1 } _ _ _ nC hv hn₃ (by simp) (fun b o e => c3 b o (out e).1 (out e).2.1 (hk b o e)) fun T ws h₄ tk₄ nT ex₄ gT hPw => ?_
      have k4 : ∀ b o, h₃.get? b = some o → h₄.get? b = some o := fun b o e => ex₄ b o (by simp) e
      have gD₄ : h₄.PlainList D ys := gD'.at fun o e => k4 _ _ (c3 D o (Ne.symm ID) DC e)
      have TD : T ≠ D := tup_ne_list gD₄ gT
      refine wpAny_list_append_plain (s := { s with heap := h₄, toks := tk₄ }) (hsz := by rw [hys, sizeLine_eq]; omega) gD₄ fun h₅ gD₅ hs₅ => ?_
      have c5 : ∀ b o, b ≠ D → h₄.get? b = some o → h₅.get? b = some o := fun b o h1 e => hs₅.extBut b o h1 e
      refine ⟨vs.length + 1 - (i + 1), by omega, h₅, tk₄, _, ys.push (.ref T), i + 1, rfl, ?_, gD₅, (hn₃.at' fun o e => k4 _ _ e).sameBut hs₅ (Ne.symm DC), by rw [Array.size_push, hys], ?_, ?_, hlt, rfl⟩
      · exact ⟨st₂.1.at fun o e => c5 I o ID (k4 _ _ (hs₃.extBut I o IC e)), st₂.2.at fun o e => c5 l o lD (k4 _ _ (hs₃.extBut l o lC e))⟩
      · have hT₃ : TupsP h₄ P ys.toList := hT.keeps fun a ws' e => k4 _ _ (c3 a _ (tup_ne_iter st.1 e) (tup_ne_ns hn' e) e)
        have hT₅ : TupsP h₅ P ys.toList := hT₃.keeps fun a ws' e => c5 a _ (tup_ne_list gD₄ e) e
        rw [Array.toList_push]
        exact hT₅.snoc (c5 T _ TD gT) (by rw [Array.length_toList, hys]; exact hPw)
      · exact fun b o e => c5 b o (out e).2.2 (k4 b o (c3 b o (out e).1 (out e).2.1 (hk b o e)))
    · obtain rfl : i = vs.length := by omega
      refine W.done _ _ _ (by rw [hvs]; exact st) fun h₂ tk₂ k₂ => ?_
      refine ⟨m', hn'.at' fun o e => k₂ C o (by simpa using Ne.symm IC) e, fun h₃ hs₃ => ?_⟩
      have c3 : ∀ b o, b ≠ I → b ≠ C → h'.get? b = some o → h₃.get? b = some o := fun b o h1 h2 e => hs₃.extBut b o h2 (k₂ b o (by simpa using h1) e)
      exact hQ D h₃ tk₂ ys nD (gD'.at fun o e => c3 D o (Ne.symm ID) DC e) hys (hT.keeps fun a ws e => c3 a _ (tup_ne_iter st.1 e) (tup_ne_ns hn' e) e) fun b o _ e => c3 b o (out e).1 (out e).2.1 (hk b o e)
  exact codeAny_compStart_list loop (W.self 0 _ _ _ ⟨gI, gl⟩ loop)
end
end Mine
end
section
open PySem PySem.W PyProof.Rows PySem.Calls Builtin Builtin.ObjectAttr PySem.SeqAt
set_option Elab.async false
set_option linter.unusedVariables false
set_option maxRecDepth 100000
namespace Mine
section
variable {prog : Program} {w : World} {A : Around} {E : Value → Shared → Prop} {s : Shared}
/-- a tuple of an octet and its text -/
def pairOf (W : Int → PySem.Str) (k : Int) (vs : Array Value) : Prop := ∃ t t', vs = #[.int k t, .str (W k) t']
theorem pairs_eq {a b : Addr} {W : Int → PySem.Str} {k : Int} {vs us : Array Value} (ha : s.heap.get? a = some (tupObj vs)) (hb : s.heap.get? b = some (tupObj us)) (hv : pairOf W k vs) (hu : pairOf W k us) (hA : A.units < cLine) : EqAt A s (.ref a) (.ref b) true := by
  by_cases e : a = b
  · subst e; exact EqAt.same _
  · obtain ⟨t, t', rfl⟩ := hv
    obtain ⟨u, u', rfl⟩ := hu
    have := RcAt.tuples (A := A) (s := s) (e := fun _ => true) (l := a) (b := b) ⟨_, ha, rfl, _, rfl⟩ ⟨_, hb, rfl, _, rfl⟩ hA (fun j h1 h2 => by
      match j, h1 with
      | 0, _ => have := EqAt.int_int (A := A.in1) (s := s) k t k u; rw [beq_self_eq_true] at this; exact this
      | 1, _ => have := EqAt.str_str (A := A.in1) (s := s) (W k) t' (W k) u'; rw [beq_self_eq_true] at this; exact this)
    exact EqAt.of_refs e this
theorem all_true (n : Nat) : ((List.range n).all fun _ => true) = true := by simp
theorem tups_ne {l b : Addr} {acc ys : Array Value} {c : Nat} {as : List Addr} {es : Array DictEntry} {W : Int → PySem.Str} {ks : List Int} {Q : Value → Shared → Prop} (hA : A.units + 1 < cLine)
    (hl : s.heap.get? l = some (lstObj acc c)) (hacc : acc.toList = as.map Value.ref) (hal : as.length = es.size) (hT : TupsAre s.heap es as) (hE : EsOk W ks es)
    (hb : s.heap.PlainList b ys) (hys : ys.size = ks.length) (hP : TupsP s.heap (fun j vs => ∃ k, ks[j]? = some k ∧ pairOf W k vs) ys.toList) (h : Q (.bool false) s) :
    wpAny (model prog w) A (compareOp .NotEq (.ref l) (.ref b)) Q E s := by
  have hsz : acc.size = ys.size := by rw [← Array.length_toList, hacc, List.length_map, hal, hE.size, hys]
  have hr := RcNeAt.lists (A := A) (s := s) (e := fun _ => true) (l := l) (b := b) ⟨_, hl, rfl, _, rfl⟩ hb.isList hsz (Nat.lt_of_succ_lt hA) (fun j h1 h2 => by
    have e1 : acc[j]? = some acc[j] := Array.getElem?_eq_getElem h1
    have e2 : ys[j]? = some ys[j] := Array.getElem?_eq_getElem h2
    rw [← Array.getElem?_toList, hacc, List.getElem?_map] at e1
    rw [← Array.getElem?_toList] at e2
    cases ha : as[j]? with
    | none => rw [ha] at e1; cases e1
    | some a =>
      rw [ha] at e1
      have e1' : Value.ref a = acc[j] := Option.some.inj e1
      obtain ⟨e, he, ga⟩ := hT j a ha
      obtain ⟨k, t, t', rfl, hk⟩ := hE.at he
      obtain ⟨T, vs, e2', gT, k', hk', hp⟩ := hP j _ e2
      rw [hk] at hk'
      cases hk'
      rw [← e1', e2']
      exact pairs_eq ga gT ⟨t, t', rfl⟩ hp hA)
  rw [all_true] at hr
  exact hr prog w E Q h
end
end Mine
end
section
open PySem PySem.W PyProof.Rows PySem.Calls Builtin Builtin.ObjectAttr
set_option Elab.async false
set_option linter.unusedVariables false
set_option maxRecDepth 100000
namespace Mine
/-! the law's state -/
/-- a kind of object: objects of other kinds lie elsewhere -/
def kd (o : Obj) : Nat := match o.data with
  | .seq .. => if o.cls == .type "list" then 1 else 0
  | .cell _ => 2
  | .set .. => 3
  | .dict .. => if o.cls == .ref 49 then 5 else 4
  | _ => 0
theorem ne_kind {h : Heap} {a b : Addr} {o o' : Obj} (ha : h.get? a = some o) (hb : h.get? b = some o') (k : kd o ≠ kd o') : a ≠ b := fun e => by
  rw [e, hb] at ha; cases ha; exact k rfl
structure QR where
  q : Addr
  d : Addr
  f : Addr
  tl : List Int
  ks : List Int
structure LR where
  a : Addr
  ns : List Int
structure QAt (w : World) (h : Heap) (x : QR) : Prop where
  one : 1 < x.q
  obj : ∃ es ep, h.get? x.q = some (qObj x.d es ep) ∧ EsOk (qtext (told x.tl)) x.ks es
  dic : ∃ tk, h.get? x.d = some (safeDict w tk x.f)
  set : ∃ n, FsAt w h x.f (told x.tl) n ∧ 66 ≤ n
  tlr : ∀ k ∈ x.tl, 0 ≤ k ∧ k < 128
  ksr : ∀ k ∈ x.ks, 0 ≤ k ∧ k < 256
def LAt (h : Heap) (x : LR) : Prop := ∃ vs, h.PlainList x.a (vs : List Value).toArray ∧ IntsAre vs x.ns
theorem QAt.keeps {w : World} {h h' : Heap} {x : QR} (a : QAt w h x) (kq : ∀ o, h.get? x.q = some o → h'.get? x.q = some o) (k : ∀ b o, h.get? b = some o → kd o = 3 ∨ kd o = 4 → h'.get? b = some o) : QAt w h' x where
  one := a.one
  obj := let ⟨es, ep, g, e⟩ := a.obj; ⟨es, ep, kq _ g, e⟩
  dic := let ⟨tk, g⟩ := a.dic; ⟨tk, k _ _ g (.inr rfl)⟩
  set := let ⟨n, ⟨es, ep, t, g, r⟩, e⟩ := a.set; ⟨n, ⟨es, ep, t, k _ _ g (.inl rfl), r⟩, e⟩
  tlr := a.tlr
  ksr := a.ksr
theorem kd_list (vs : Array Value) (n : Nat) : kd { cls := .type "list", data := .seq vs n } = 1 := by unfold kd; simp
theorem kd_tup (vs : Array Value) : kd { cls := .type "tuple", data := .seq vs } = 0 := by unfold kd; simp
theorem plain_kd {h : Heap} {a : Addr} {ys : Array Value} (x : h.PlainList a ys) : ∃ o, h.get? a = some o ∧ kd o = 1 := let ⟨n, e⟩ := x; ⟨_, e, kd_list _ _⟩
theorem cell_kd {h : Heap} {a : Addr} {v : Option Value} (x : h.IsCell a v) : ∃ o, h.get? a = some o ∧ kd o = 2 := let ⟨o, e, hd⟩ := x; ⟨o, e, by unfold kd; rw [hd]⟩
theorem ns_kd {h : Heap} {a : Addr} {m : PySem.Str → Option Value} (x : h.Ns a m) : ∃ o, h.get? a = some o ∧ (kd o = 4 ∨ kd o = 5) := by
  obtain ⟨o, es, ep, e, hd, _⟩ := x
  refine ⟨o, e, ?_⟩
  unfold kd
  rw [hd]
  by_cases c : (o.cls == .ref 49) = true
  · exact .inr (if_pos c)
  · exact .inl (if_neg c)
theorem QAt.kq {w : World} {h : Heap} {x : QR} (a : QAt w h x) : ∃ o, h.get? x.q = some o ∧ kd o = 5 := let ⟨es, ep, g, e⟩ := a.obj; ⟨_, g, rfl⟩
theorem LAt.kl {h : Heap} {x : LR} (a : LAt h x) : ∃ o, h.get? x.a = some o ∧ kd o = 1 := let ⟨vs, g, _⟩ := a; plain_kd g
theorem LAt.at {h h' : Heap} {x : LR} (a : LAt h x) (k : ∀ o, h.get? x.a = some o → h'.get? x.a = some o) : LAt h' x := let ⟨vs, g, r⟩ := a; ⟨vs, g.at k, r⟩
structure St (w : World) (hb : Heap) (L cC cS lq lt la : Addr) (vC vS : Option Value) (qs : List QR) (ts as : List LR) (pr : List (Addr × Obj)) (h : Heap) (m : PySem.Str → Option Value) : Prop where
  base : Base w hb
  F : Fr hb L h m
  mq : m (Str.ofString "quoters") = some (.ref lq)
  mt : m (Str.ofString "told") = some (.ref lt)
  ma : m (Str.ofString "asked") = some (.ref la)
  gq : h.PlainList lq (qs.map fun x => Value.ref x.q).toArray
  gt : h.PlainList lt (ts.map fun x => Value.ref x.a).toArray
  ga : h.PlainList la (as.map fun x => Value.ref x.a).toArray
  cc : h.IsCell cC vC
  cs : h.IsCell cS vS
  qat : ∀ x ∈ qs, QAt w h x
  tat : ∀ x ∈ ts, LAt h x
  aat : ∀ x ∈ as, LAt h x
  ndl : (lq :: lt :: la :: (ts.map (·.a) ++ as.map (·.a))).Nodup
  ndq : (qs.map (·.q)).Nodup
  cne : cC ≠ cS
  off : ∀ x ∈ qs, x.q ≠ L ∧ x.d ≠ L
  fC : hb.get? cC = none
  fS : hb.get? cS = none
  fL : hb.get? L = none
  fl : ∀ a ∈ (lq :: lt :: la :: (ts.map (·.a) ++ as.map (·.a))), hb.get? a = none
  fq : ∀ x ∈ qs, hb.get? x.q = none
  prk : ∀ p ∈ pr, h.get? p.1 = some p.2 ∧ p.1 ∉ (lq :: lt :: la :: as.map (·.a)) ∧ (kd p.2 = 0 ∨ kd p.2 = 1 ∨ kd p.2 = 3)
section
variable {w : World} {x : Addr} {hb h h' : Heap} {L cC cS lq lt la : Addr} {vC vS : Option Value} {qs : List QR} {ts as : List LR} {pr : List (Addr × Obj)} {m : PySem.Str → Option Value}
theorem St.ext (s : St w hb L cC cS lq lt la vC vS qs ts as pr h m) (k : ∀ b o, h.get? b = some o → h'.get? b = some o) : St w hb L cC cS lq lt la vC vS qs ts as pr h' m where
  base := s.base
  F := PyProof.Rows.Fr.keptAll s.F k
  mq := s.mq
  mt := s.mt
  ma := s.ma
  gq := s.gq.at fun o e => k _ _ e
  gt := s.gt.at fun o e => k _ _ e
  ga := s.ga.at fun o e => k _ _ e
  cc := s.cc.keeps k
  cs := s.cs.keeps k
  qat := fun x hx => (s.qat x hx).keeps (fun o e => k _ _ e) fun b o e _ => k b o e
  tat := fun x hx => (s.tat x hx).at fun o e => k _ _ e
  aat := fun x hx => (s.aat x hx).at fun o e => k _ _ e
  ndl := s.ndl
  ndq := s.ndq
  cne := s.cne
  off := s.off
  fC := s.fC
  fS := s.fS
  fL := s.fL
  fl := s.fl
  fq := s.fq
  prk := fun p hp => ⟨k _ _ (s.prk p hp).1, (s.prk p hp).2⟩
theorem St.B (s : St w hb L cC cS lq lt la vC vS qs ts as pr h m) : Base w h := s.base.keeps s.F.keep
/-- a local name is stored -/
theorem St.loc (s : St w hb L cC cS lq lt la vC vS qs ts as pr h m) {m' : PySem.Str → Option Value} (hn : h'.Ns L m') (sb : Heap.SameBut L h h') (eq : m' (Str.ofString "quoters") = m (Str.ofString "quoters")) (et : m' (Str.ofString "told") = m (Str.ofString "told")) (ea : m' (Str.ofString "asked") = m (Str.ofString "asked")) :
    St w hb L cC cS lq lt la vC vS qs ts as pr h' m' := by
  obtain ⟨oL, gL, kL⟩ := ns_kd s.F.ns
  have k : ∀ {b o}, h.get? b = some o → kd o ≠ 4 → kd o ≠ 5 → h'.get? b = some o := fun {b o} e k4 k5 => (sb.2 b (ne_kind e gL (by rcases kL with z | z <;> rw [z] <;> assumption))).trans e
  have kp : ∀ {a ys}, h.PlainList a ys → h'.PlainList a ys := fun {a ys} x => x.at fun o e => by
    obtain ⟨o', e', z⟩ := plain_kd x; rw [e] at e'; cases e'; exact k e (by rw [z]; decide) (by rw [z]; decide)
  have kl : ∀ {x : LR}, LAt h x → LAt h' x := fun {x} ⟨vs, g, r⟩ => ⟨vs, kp g, r⟩
  have kc : ∀ {a v}, h.IsCell a v → h'.IsCell a v := fun {a v} x => x.sameBut sb (by
    obtain ⟨o', e', z⟩ := cell_kd x
    exact ne_kind e' gL (by rw [z]; rcases kL with z | z <;> rw [z] <;> decide))
  exact { base := s.base, F := s.F.set hn sb, mq := eq.trans s.mq, mt := et.trans s.mt, ma := ea.trans s.ma, gq := kp s.gq, gt := kp s.gt, ga := kp s.ga, cc := kc s.cc, cs := kc s.cs
          qat := fun x hx =>
            { one := (s.qat x hx).one
              obj := let ⟨es, ep, g, e⟩ := (s.qat x hx).obj; ⟨es, ep, (sb.2 _ (s.off x hx).1).trans g, e⟩
              dic := let ⟨tk, g⟩ := (s.qat x hx).dic; ⟨tk, (sb.2 _ (s.off x hx).2).trans g⟩
              set := let ⟨n, ⟨es, ep, t, g, r⟩, e⟩ := (s.qat x hx).set; ⟨n, ⟨es, ep, t, k g (by show 3 ≠ 4; decide) (by show 3 ≠ 5; decide), r⟩, e⟩
              tlr := (s.qat x hx).tlr
              ksr := (s.qat x hx).ksr }
          tat := fun x hx => kl (s.tat x hx), aat := fun x hx => kl (s.aat x hx), ndl := s.ndl, ndq := s.ndq, cne := s.cne, off := s.off, fC := s.fC, fS := s.fS, fL := s.fL, fl := s.fl, fq := s.fq
          prk := fun p hp => ⟨k (s.prk p hp).1 (by rcases (s.prk p hp).2.2 with z | z | z <;> rw [z] <;> decide) (by rcases (s.prk p hp).2.2 with z | z | z <;> rw [z] <;> decide), (s.prk p hp).2⟩ }
theorem fr_same (F : Fr hb L h m) {x : Addr} (sb : Heap.SameBut x h h') (hx : hb.get? x = none) (hL : L ≠ x) : Fr hb L h' m :=
  ⟨PySem.Heap.Ns.sameBut F.ns sb hL, fun b o e => (sb.2 b (fun q => by rw [q, hx] at e; cases e)).trans (F.keep b o e), F.above⟩
/-- a change at one address that is no set and no dict: all else stands -/
structure Off (w : World) (h h' : Heap) (x : Addr) : Prop where
  pl : ∀ {a : Addr} {ys : Array Value}, a ≠ x → h.PlainList a ys → h'.PlainList a ys
  ce : ∀ {a : Addr} {v : Option Value}, a ≠ x → h.IsCell a v → h'.IsCell a v
  la : ∀ {y : LR}, y.a ≠ x → LAt h y → LAt h' y
  qa : ∀ {y : QR}, y.q ≠ x → QAt w h y → QAt w h' y
theorem off_of (k : ∀ b o, b ≠ x → h.get? b = some o → h'.get? b = some o) {o : Obj} (hx : h.get? x = some o) (h3 : kd o ≠ 3) (h4 : kd o ≠ 4) : Off w h h' x where
  pl := fun ne p => p.at fun o e => k _ _ ne e
  ce := fun ne ⟨o, e, d⟩ => ⟨o, k _ _ ne e, d⟩
  la := fun ne ⟨vs, g, r⟩ => ⟨vs, g.at fun o e => k _ _ ne e, r⟩
  qa := fun ne a => a.keeps (fun o e => k _ _ ne e) fun b o' e z => k _ _ (ne_kind e hx (by rcases z with z | z <;> rw [z] <;> first | exact Ne.symm h3 | exact Ne.symm h4)) e
theorem fr_off (F : Fr hb L h m) {x : Addr} {o : Obj} (k : ∀ b o, b ≠ x → h.get? b = some o → h'.get? b = some o) (hx : hb.get? x = none) (gx : h.get? x = some o) (hL : L ≠ x) : Fr hb L h' m :=
  ⟨F.ns.at' fun o e => k _ _ hL e, fun b o e => k b o (fun q => by rw [q, hx] at e; cases e) (F.keep b o e), F.above⟩
theorem St.neL (s : St w hb L cC cS lq lt la vC vS qs ts as pr h m) {x : Addr} {o : Obj} (hx : h.get? x = some o) (h4 : kd o ≠ 4) (h5 : kd o ≠ 5) : L ≠ x := by
  obtain ⟨oL, gL, kL⟩ := ns_kd s.F.ns
  exact ne_kind gL hx (by rcases kL with z | z <;> rw [z] <;> first | exact Ne.symm h4 | exact Ne.symm h5)
theorem St.qne (s : St w hb L cC cS lq lt la vC vS qs ts as pr h m) {x : Addr} {o : Obj} (hx : h.get? x = some o) (h5 : kd o ≠ 5) : ∀ y ∈ qs, y.q ≠ x := fun y hy => by
  obtain ⟨o', g, z⟩ := (s.qat y hy).kq
  exact ne_kind g hx (by rw [z]; exact Ne.symm h5)
theorem St.cellC (s : St w hb L cC cS lq lt la vC vS qs ts as pr h m) {v : Option Value} (g : h'.IsCell cC v) (sb : Heap.SameBut cC h h') : St w hb L cC cS lq lt la v vS qs ts as pr h' m := by
  obtain ⟨oc, gc, kc⟩ := cell_kd s.cc
  have k : ∀ b o, b ≠ cC → h.get? b = some o → h'.get? b = some o := fun b o ne e => (sb.2 b ne).trans e
  have O : Off w h h' cC := off_of k gc (by rw [kc]; decide) (by rw [kc]; decide)
  have lne : ∀ {a ys}, h.PlainList a ys → a ≠ cC := fun p => by obtain ⟨o, e, z⟩ := plain_kd p; exact ne_kind e gc (by rw [z, kc]; decide)
  have yne : ∀ {y : LR}, LAt h y → y.a ≠ cC := fun ⟨vs, p, _⟩ => lne p
  exact { s with
    prk := fun p hp => ⟨k _ _ (ne_kind (s.prk p hp).1 gc (by rw [kc]; rcases (s.prk p hp).2.2 with z | z | z <;> rw [z] <;> decide)) (s.prk p hp).1, (s.prk p hp).2⟩
    F := fr_off s.F k s.fC gc (s.neL gc (by rw [kc]; decide) (by rw [kc]; decide))
    gq := O.pl (lne s.gq) s.gq, gt := O.pl (lne s.gt) s.gt, ga := O.pl (lne s.ga) s.ga, cc := g, cs := O.ce (Ne.symm s.cne) s.cs
    qat := fun x hx => O.qa (s.qne gc (by rw [kc]; decide) x hx) (s.qat x hx)
    tat := fun x hx => O.la (yne (s.tat x hx)) (s.tat x hx), aat := fun x hx => O.la (yne (s.aat x hx)) (s.aat x hx) }
theorem St.cellS (s : St w hb L cC cS lq lt la vC vS qs ts as pr h m) {v : Option Value} (g : h'.IsCell cS v) (sb : Heap.SameBut cS h h') : St w hb L cC cS lq lt la vC v qs ts as pr h' m := by
  obtain ⟨oc, gc, kc⟩ := cell_kd s.cs
  have k : ∀ b o, b ≠ cS → h.get? b = some o → h'.get? b = some o := fun b o ne e => (sb.2 b ne).trans e
  have O : Off w h h' cS := off_of k gc (by rw [kc]; decide) (by rw [kc]; decide)
  have lne : ∀ {a ys}, h.PlainList a ys → a ≠ cS := fun p => by obtain ⟨o, e, z⟩ := plain_kd p; exact ne_kind e gc (by rw [z, kc]; decide)
  have yne : ∀ {y : LR}, LAt h y → y.a ≠ cS := fun ⟨vs, p, _⟩ => lne p
  exact { s with
    prk := fun p hp => ⟨k _ _ (ne_kind (s.prk p hp).1 gc (by rw [kc]; rcases (s.prk p hp).2.2 with z | z | z <;> rw [z] <;> decide)) (s.prk p hp).1, (s.prk p hp).2⟩
    F := fr_off s.F k s.fS gc (s.neL gc (by rw [kc]; decide) (by rw [kc]; decide))
    gq := O.pl (lne s.gq) s.gq, gt := O.pl (lne s.gt) s.gt, ga := O.pl (lne s.ga) s.ga, cs := g, cc := O.ce s.cne s.cc
    qat := fun x hx => O.qa (s.qne gc (by rw [kc]; decide) x hx) (s.qat x hx)
    tat := fun x hx => O.la (yne (s.tat x hx)) (s.tat x hx), aat := fun x hx => O.la (yne (s.aat x hx)) (s.aat x hx) }
/-- what a list's change leaves -/
theorem St.lst (s : St w hb L cC cS lq lt la vC vS qs ts as pr h m) {a : Addr} {ys : Array Value} (p : h.PlainList a ys) (fa : hb.get? a = none) (sb : Heap.SameBut a h h') : Off w h h' a ∧ Fr hb L h' m ∧ h'.IsCell cC vC ∧ h'.IsCell cS vS ∧ ∀ x ∈ qs, QAt w h' x := by
  obtain ⟨oc, gc, kc⟩ := plain_kd p
  have k : ∀ b o, b ≠ a → h.get? b = some o → h'.get? b = some o := fun b o ne e => (sb.2 b ne).trans e
  have O : Off w h h' a := off_of k gc (by rw [kc]; decide) (by rw [kc]; decide)
  have cne : ∀ {c v}, h.IsCell c v → c ≠ a := fun p => by obtain ⟨o, e, z⟩ := cell_kd p; exact ne_kind e gc (by rw [z, kc]; decide)
  exact ⟨O, fr_off s.F k fa gc (s.neL gc (by rw [kc]; decide) (by rw [kc]; decide)), O.ce (cne s.cc) s.cc, O.ce (cne s.cs) s.cs, fun x hx => O.qa (s.qne gc (by rw [kc]; decide) x hx) (s.qat x hx)⟩
theorem St.appQ (s : St w hb L cC cS lq lt la vC vS qs ts as pr h m) {x : QR} (hx : QAt w h x) (nq : ∀ y ∈ qs, y.q ≠ x.q) (off : x.q ≠ L ∧ x.d ≠ L) (fx : hb.get? x.q = none) (g : h'.PlainList lq ((qs.map fun x => Value.ref x.q).toArray.push (.ref x.q))) (sb : Heap.SameBut lq h h') :
    St w hb L cC cS lq lt la vC vS (qs ++ [x]) ts as pr h' m := by
  obtain ⟨O, F', c1, c2, Q⟩ := s.lst s.gq (s.fl lq (.head _)) sb
  have nd := s.ndl
  rw [List.nodup_cons] at nd
  have ne : ∀ a ∈ (lt :: la :: (ts.map (·.a) ++ as.map (·.a))), a ≠ lq := fun a ha e => nd.1 (e ▸ ha)
  have xq : x.q ≠ lq := by obtain ⟨o, e, z⟩ := hx.kq; obtain ⟨o', e', z'⟩ := plain_kd s.gq; exact ne_kind e e' (by rw [z, z']; decide)
  exact { s with
    prk := fun p hp => ⟨(sb.2 _ (fun e => (s.prk p hp).2.1 (e ▸ .head _))).trans (s.prk p hp).1, (s.prk p hp).2⟩
    F := F', gq := by simpa using g, gt := O.pl (ne lt (.head _)) s.gt, ga := O.pl (ne la (.tail _ (.head _))) s.ga, cc := c1, cs := c2
    qat := fun y hy => (List.mem_append.mp hy).elim (Q y) fun z => by rw [List.mem_singleton] at z; subst z; exact O.qa xq hx
    tat := fun y hy => O.la (ne _ (.tail _ (.tail _ (List.mem_append_left _ (List.mem_map_of_mem hy))))) (s.tat y hy)
    aat := fun y hy => O.la (ne _ (.tail _ (.tail _ (List.mem_append_right _ (List.mem_map_of_mem hy))))) (s.aat y hy)
    ndq := by rw [List.map_append, List.nodup_append]; exact ⟨s.ndq, by simp, fun a ha b hb => by
      obtain ⟨y, hy, rfl⟩ := List.mem_map.mp ha
      obtain rfl : x.q = b := by simpa [eq_comm] using hb
      exact nq y hy⟩
    off := fun y hy => (List.mem_append.mp hy).elim (s.off y) fun z => by rw [List.mem_singleton] at z; subst z; exact off
    fq := fun y hy => (List.mem_append.mp hy).elim (s.fq y) fun z => by rw [List.mem_singleton] at z; subst z; exact fx }
theorem St.appT (s : St w hb L cC cS lq lt la vC vS qs ts as pr h m) {x : LR} (hx : LAt h x) (nx : x.a ∉ (lq :: lt :: la :: (ts.map (·.a) ++ as.map (·.a)))) (fx : hb.get? x.a = none) (g : h'.PlainList lt ((ts.map fun x => Value.ref x.a).toArray.push (.ref x.a))) (sb : Heap.SameBut lt h h') :
    St w hb L cC cS lq lt la vC vS qs (ts ++ [x]) as pr h' m := by
  obtain ⟨O, F', c1, c2, Q⟩ := s.lst s.gt (s.fl lt (.tail _ (.head _))) sb
  have nd := s.ndl
  have nd1 : lq ≠ lt := fun e => (List.nodup_cons.mp nd).1 (e ▸ .head _)
  have nd2 := (List.nodup_cons.mp nd).2
  have ne : ∀ a ∈ (la :: (ts.map (·.a) ++ as.map (·.a))), a ≠ lt := fun a ha e => (List.nodup_cons.mp nd2).1 (e ▸ ha)
  have xt : x.a ≠ lt := fun e => nx (e ▸ .tail _ (.head _))
  exact { s with
    prk := fun p hp => ⟨(sb.2 _ (fun e => (s.prk p hp).2.1 (e ▸ .tail _ (.head _)))).trans (s.prk p hp).1, (s.prk p hp).2⟩
    F := F', gq := O.pl nd1 s.gq, gt := by simpa using g, ga := O.pl (ne la (.head _)) s.ga, cc := c1, cs := c2, qat := Q
    tat := fun y hy => (List.mem_append.mp hy).elim (fun z => O.la (ne _ (.tail _ (List.mem_append_left _ (List.mem_map_of_mem z)))) (s.tat y z)) fun z => by rw [List.mem_singleton] at z; subst z; exact O.la xt hx
    aat := fun y hy => O.la (ne _ (.tail _ (List.mem_append_right _ (List.mem_map_of_mem hy)))) (s.aat y hy)
    ndl := by
      refine (List.Perm.nodup_iff (l₁ := x.a :: (lq :: lt :: la :: (ts.map (·.a) ++ as.map (·.a)))) ?_).mp (List.nodup_cons.mpr ⟨nx, nd⟩)
      have e1 : lq :: lt :: la :: ((ts ++ [x]).map (·.a) ++ as.map (·.a)) = (lq :: lt :: la :: ts.map LR.a) ++ x.a :: as.map LR.a := by simp
      have e2 : lq :: lt :: la :: (ts.map (·.a) ++ as.map (·.a)) = (lq :: lt :: la :: ts.map LR.a) ++ as.map LR.a := by simp
      rw [e1, e2]
      exact List.perm_middle.symm
    fl := fun a ha => by
      by_cases e : a = x.a
      · rw [e]; exact fx
      · refine s.fl a ?_
        simp only [List.map_append, List.map_cons, List.map_nil, List.mem_cons, List.mem_append, List.not_mem_nil, or_false] at ha ⊢
        rcases ha with z | z | z | (z | z) | z
        · exact .inl z
        · exact .inr (.inl z)
        · exact .inr (.inr (.inl z))
        · exact .inr (.inr (.inr (.inl z)))
        · exact absurd z e
        · exact .inr (.inr (.inr (.inr z))) }
theorem St.appA (s : St w hb L cC cS lq lt la vC vS qs ts as pr h m) {x : LR} (hx : LAt h x) (np : ∀ p ∈ pr, p.1 ≠ x.a) (nx : x.a ∉ (lq :: lt :: la :: (ts.map (·.a) ++ as.map (·.a)))) (fx : hb.get? x.a = none) (g : h'.PlainList la ((as.map fun x => Value.ref x.a).toArray.push (.ref x.a))) (sb : Heap.SameBut la h h') :
    St w hb L cC cS lq lt la vC vS qs ts (as ++ [x]) pr h' m := by
  obtain ⟨O, F', c1, c2, Q⟩ := s.lst s.ga (s.fl la (.tail _ (.tail _ (.head _)))) sb
  have nd := s.ndl
  have nd1 : lq ≠ la := fun e => (List.nodup_cons.mp nd).1 (e ▸ .tail _ (.head _))
  have nd2 := (List.nodup_cons.mp nd).2
  have nd3 : lt ≠ la := fun e => (List.nodup_cons.mp nd2).1 (e ▸ .head _)
  have ne : ∀ a ∈ (ts.map (·.a) ++ as.map (·.a)), a ≠ la := fun a ha e => (List.nodup_cons.mp (List.nodup_cons.mp nd2).2).1 (e ▸ ha)
  have xt : x.a ≠ la := fun e => nx (e ▸ .tail _ (.tail _ (.head _)))
  exact { s with
    prk := fun p hp => ⟨(sb.2 _ (fun e => (s.prk p hp).2.1 (e ▸ .tail _ (.tail _ (.head _))))).trans (s.prk p hp).1, (fun z => by
      simp only [List.map_append, List.map_cons, List.map_nil, List.mem_cons, List.mem_append, List.not_mem_nil, or_false] at z
      have n := (s.prk p hp).2.1
      simp only [List.mem_cons, not_or] at n
      rcases z with z | z | z | z | z
      · exact n.1 z
      · exact n.2.1 z
      · exact n.2.2.1 z
      · exact n.2.2.2 z
      · exact np p hp z), (s.prk p hp).2.2⟩
    F := F', gq := O.pl nd1 s.gq, ga := by simpa using g, gt := O.pl nd3 s.gt, cc := c1, cs := c2, qat := Q
    tat := fun y hy => O.la (ne _ (List.mem_append_left _ (List.mem_map_of_mem hy))) (s.tat y hy)
    aat := fun y hy => (List.mem_append.mp hy).elim (fun z => O.la (ne _ (List.mem_append_right _ (List.mem_map_of_mem z))) (s.aat y z)) fun z => by rw [List.mem_singleton] at z; subst z; exact O.la xt hx
    ndl := by
      refine (List.Perm.nodup_iff (l₁ := x.a :: (lq :: lt :: la :: (ts.map (·.a) ++ as.map (·.a)))) ?_).mp (List.nodup_cons.mpr ⟨nx, nd⟩)
      rw [List.map_append, ← List.append_assoc]
      exact (List.perm_append_singleton x.a (lq :: lt :: la :: (ts.map (·.a) ++ as.map (·.a)))).symm
    fl := fun a ha => by
      by_cases e : a = x.a
      · rw [e]; exact fx
      · refine s.fl a ?_
        simp only [List.map_append, List.map_cons, List.map_nil, List.mem_cons, List.mem_append, List.not_mem_nil, or_false] at ha ⊢
        rcases ha with z | z | z | z | z | z
        · exact .inl z
        · exact .inr (.inl z)
        · exact .inr (.inr (.inl z))
        · exact .inr (.inr (.inr (.inl z)))
        · exact .inr (.inr (.inr (.inr z)))
        · exact absurd z e }
/-- one more octet asked for, in the list -/
theorem St.ask {p r : List LR} {x : LR} {c : Int} {t : Tok} {vs : List Value} (s : St w hb L cC cS lq lt la vC vS qs ts (p ++ x :: r) pr h m) (hvs : IntsAre (vs ++ [.int c t]) (x.ns ++ [c])) (gx : h.PlainList x.a vs.toArray) (g : h'.PlainList x.a (vs.toArray.push (.int c t))) (sb : Heap.SameBut x.a h h') :
    St w hb L cC cS lq lt la vC vS qs ts (p ++ ⟨x.a, x.ns ++ [c]⟩ :: r) pr h' m := by
  have mx : x.a ∈ (lq :: lt :: la :: (ts.map (·.a) ++ (p ++ x :: r).map (·.a))) := by simp
  obtain ⟨O, F', c1, c2, Q⟩ := s.lst gx (s.fl x.a mx) sb
  have nd := s.ndl
  have nd' : (x.a :: (lq :: lt :: la :: (ts.map (·.a) ++ (p.map (·.a) ++ r.map (·.a))))).Nodup := by
    refine (List.Perm.nodup_iff ?_).mp nd
    rw [List.map_append, List.map_cons]
    have e : lq :: lt :: la :: (ts.map (·.a) ++ (p.map (·.a) ++ x.a :: r.map (·.a))) = (lq :: lt :: la :: (ts.map (·.a) ++ p.map (·.a))) ++ x.a :: r.map (·.a) := by simp
    have e' : lq :: lt :: la :: (ts.map (·.a) ++ (p.map (·.a) ++ r.map (·.a))) = (lq :: lt :: la :: (ts.map (·.a) ++ p.map (·.a))) ++ r.map (·.a) := by simp
    rw [e, e']
    exact List.perm_middle
  have ne : ∀ a ∈ (lq :: lt :: la :: (ts.map (·.a) ++ (p.map (·.a) ++ r.map (·.a)))), a ≠ x.a := fun a ha e => (List.nodup_cons.mp nd').1 (e ▸ ha)
  have em : (p ++ ⟨x.a, x.ns ++ [c]⟩ :: r).map (·.a) = (p ++ x :: r).map (·.a) := by simp
  have eg : ((p ++ ⟨x.a, x.ns ++ [c]⟩ :: r).map fun x => Value.ref x.a) = ((p ++ x :: r).map fun x => Value.ref x.a) := by simp
  exact { s with
    prk := fun p hp => ⟨(sb.2 p.1 (fun e => (s.prk p hp).2.1 (by rw [e]; simp))).trans (s.prk p hp).1, (by rw [em]; exact (s.prk p hp).2.1), (s.prk p hp).2.2⟩
    F := F', gq := O.pl (ne lq (.head _)) s.gq, gt := O.pl (ne lt (.tail _ (.head _))) s.gt, ga := by rw [eg]; exact O.pl (ne la (.tail _ (.tail _ (.head _)))) s.ga, cc := c1, cs := c2, qat := Q
    tat := fun y hy => O.la (ne _ (by simp; exact .inr (.inr (.inr (.inl ⟨y, hy, rfl⟩))))) (s.tat y hy)
    aat := fun y hy => by
      rcases List.mem_append.mp hy with z | z
      · exact O.la (ne _ (by simp; exact .inr (.inr (.inr (.inr (.inl ⟨y, z, rfl⟩)))))) (s.aat y (List.mem_append_left _ z))
      · rcases List.mem_cons.mp z with rfl | z
        · exact ⟨vs ++ [.int c t], by simpa using g, hvs⟩
        · exact O.la (ne _ (by simp; exact .inr (.inr (.inr (.inr (.inr ⟨y, z, rfl⟩)))))) (s.aat y (List.mem_append_right _ (.tail _ z)))
    ndl := by rw [em]; exact nd
    fl := by rw [em]; exact s.fl }
/-- a quoter has taken one more octet -/
theorem St.took {p r : List QR} {x x' : QR} (s : St w hb L cC cS lq lt la vC vS (p ++ x :: r) ts as pr h m) (eq : x'.q = x.q) (ed : x'.d = x.d) (hx : QAt w h' x') (ex : Ext [x.q] h h') :
    St w hb L cC cS lq lt la vC vS (p ++ x' :: r) ts as pr h' m := by
  have mx : x ∈ p ++ x :: r := by simp
  obtain ⟨o, gx, kx⟩ := (s.qat x mx).kq
  have k : ∀ b o, b ≠ x.q → h.get? b = some o → h'.get? b = some o := fun b o ne e => ex b o (by simpa using ne) e
  have O : Off w h h' x.q := off_of k gx (by rw [kx]; decide) (by rw [kx]; decide)
  have lne : ∀ {a ys}, h.PlainList a ys → a ≠ x.q := fun p => by obtain ⟨o, e, z⟩ := plain_kd p; exact ne_kind e gx (by rw [z, kx]; decide)
  have yne : ∀ {y : LR}, LAt h y → y.a ≠ x.q := fun ⟨vs, p, _⟩ => lne p
  have cne : ∀ {c v}, h.IsCell c v → c ≠ x.q := fun p => by obtain ⟨o, e, z⟩ := cell_kd p; exact ne_kind e gx (by rw [z, kx]; decide)
  have em : (p ++ x' :: r).map (·.q) = (p ++ x :: r).map (·.q) := by simp [eq]
  have eg : ((p ++ x' :: r).map fun x => Value.ref x.q) = ((p ++ x :: r).map fun x => Value.ref x.q) := by simp [eq]
  have nd' : (x.q :: (p.map (·.q) ++ r.map (·.q))).Nodup := by
    refine (List.Perm.nodup_iff ?_).mp s.ndq
    rw [List.map_append, List.map_cons]
    exact List.perm_middle
  have ne : ∀ a ∈ (p.map (·.q) ++ r.map (·.q)), a ≠ x.q := fun a ha e => (List.nodup_cons.mp nd').1 (e ▸ ha)
  exact { s with
    prk := fun p hp => ⟨k _ _ (ne_kind (s.prk p hp).1 gx (by rw [kx]; rcases (s.prk p hp).2.2 with z | z | z <;> rw [z] <;> decide)) (s.prk p hp).1, (s.prk p hp).2⟩
    F := fr_off s.F k (s.fq x mx) gx (Ne.symm (s.off x mx).1)
    gq := by rw [eg]; exact O.pl (lne s.gq) s.gq
    gt := O.pl (lne s.gt) s.gt, ga := O.pl (lne s.ga) s.ga, cc := O.ce (cne s.cc) s.cc, cs := O.ce (cne s.cs) s.cs
    qat := fun y hy => by
      rcases List.mem_append.mp hy with z | z
      · exact O.qa (ne _ (List.mem_append_left _ (List.mem_map_of_mem z))) (s.qat y (List.mem_append_left _ z))
      · rcases List.mem_cons.mp z with rfl | z
        · exact hx
        · exact O.qa (ne _ (List.mem_append_right _ (List.mem_map_of_mem z))) (s.qat y (List.mem_append_right _ (.tail _ z)))
    tat := fun y hy => O.la (yne (s.tat y hy)) (s.tat y hy), aat := fun y hy => O.la (yne (s.aat y hy)) (s.aat y hy)
    ndq := by rw [em]; exact s.ndq
    off := fun y hy => by
      rcases List.mem_append.mp hy with z | z
      · exact s.off y (List.mem_append_left _ z)
      · rcases List.mem_cons.mp z with rfl | z
        · rw [eq, ed]; exact s.off x mx
        · exact s.off y (List.mem_append_right _ (.tail _ z))
    fq := fun y hy => by
      rcases List.mem_append.mp hy with z | z
      · exact s.fq y (List.mem_append_left _ z)
      · rcases List.mem_cons.mp z with rfl | z
        · rw [eq]; exact s.fq x mx
        · exact s.fq y (List.mem_append_right _ (.tail _ z)) }
end
end Mine
end
section
open PySem PySem.W PyProof.Rows PySem.Calls Builtin Builtin.ObjectAttr
set_option Elab.async false
set_option linter.unusedVariables false
set_option maxRecDepth 100000
namespace Mine
def lenv (L fa : Addr) (cd : Value) : Env := envOfC lawD.name lawD.scope L fa cd
def forB : Stmt → List Stmt
  | .For _ _ b _ _ => b
  | _ => []
def turnB : List Stmt := forB (hd1 (lawB.drop 3))
theorem G_len (P : Params) : nsIn (K P) mainGlobals (Str.ofString "len") = some none := by kernel_rfl
section
variable {prog : Program} {w : World} {A : Around} {E : Value → Shared → Prop} {s : Shared} {hb : Heap} {L fa lq lt la : Addr} {cd : Value} {vC vS : Option Value} {qs : List QR} {ts as : List LR} {pr : List (Addr × Obj)} {m : PySem.Str → Option Value}
/-- the law's own state -/
abbrev LSt (w : World) (hb : Heap) (L lq lt la : Addr) (vC vS : Option Value) (qs : List QR) (ts as : List LR) (pr : List (Addr × Obj)) (h : Heap) (m : PySem.Str → Option Value) : Prop := St w hb L (L + 1) (L + 1 + 1) lq lt la vC vS qs ts as pr h m
theorem ll {x : PySem.Str} {pos : Pos} {v : Value} {M : Model} {Q : Value → Shared → Prop} (hn : s.heap.Ns L m) (hv : m x = some v) (h : Q v s) (hl : (lenv L fa cd).kindOf x = some .local := by rfl) (hd : (x == ("__debug__" : PySem.Str)) = false := by decide) :
    wpAny M A (eval (.Name x pos) (lenv L fa cd)) Q E s := wpAny_Name (wpAny_loadName_local (env := lenv L fa cd) rfl hl hn hv h) hd
theorem lc {pos : Pos} {v : Value} {M : Model} {Q : Value → Shared → Prop} (hc : s.heap.IsCell (L + 1) (some v)) (h : Q v s) : wpAny M A (eval (.Name (Str.ofString "c") pos) (lenv L fa cd)) Q E s :=
  wpAny_Name (wpAny_loadName_cell (env := lenv L fa cd) rfl rfl rfl hc h) (by decide)
theorem ls {pos : Pos} {v : Value} {M : Model} {Q : Value → Shared → Prop} (hc : s.heap.IsCell (L + 1 + 1) (some v)) (h : Q v s) : wpAny M A (eval (.Name (Str.ofString "signs") pos) (lenv L fa cd)) Q E s :=
  wpAny_Name (wpAny_loadName_cell (env := lenv L fa cd) rfl rfl rfl hc h) (by decide)
/-- a local is stored -/
theorem lst {x : PySem.Str} {v : Value} {M : Model} {Q : Unit → Shared → Prop} (S : LSt w hb L lq lt la vC vS qs ts as pr s.heap m)
    (h : ∀ h', LSt w hb L lq lt la vC vS qs ts as pr h' (fun y => if y = x then some v else m y) → Q () { s with heap := h', toks := s.toks + 1 })
    (hl : (lenv L fa cd).kindOf x = some .local := by rfl) (e1 : ¬ Str.ofString "quoters" = x := by decide) (e2 : ¬ Str.ofString "told" = x := by decide) (e3 : ¬ Str.ofString "asked" = x := by decide) :
    wpAny M A (storeName (lenv L fa cd) x v) Q E s :=
  wpAny_storeName_local (env := lenv L fa cd) hl S.F.ns fun h' hn sb => h h' (St.loc S hn sb (if_neg e1) (if_neg e2) (if_neg e3))
theorem lcst {v : Value} {M : Model} {Q : Unit → Shared → Prop} (S : LSt w hb L lq lt la vC vS qs ts as pr s.heap m)
    (h : ∀ h', LSt w hb L lq lt la (some v) vS qs ts as pr h' m → Q () { s with heap := h' }) : wpAny M A (storeName (lenv L fa cd) (Str.ofString "c") v) Q E s :=
  wpAny_storeName_cell (env := lenv L fa cd) rfl rfl rfl S.cc fun h' g sb => h h' (St.cellC S g sb)
theorem lsst {v : Value} {M : Model} {Q : Unit → Shared → Prop} (S : LSt w hb L lq lt la vC vS qs ts as pr s.heap m)
    (h : ∀ h', LSt w hb L lq lt la vC (some v) qs ts as pr h' m → Q () { s with heap := h' }) : wpAny M A (storeName (lenv L fa cd) (Str.ofString "signs") v) Q E s :=
  wpAny_storeName_cell (env := lenv L fa cd) rfl rfl rfl S.cs fun h' g sb => h h' (St.cellS S g sb)
set_option maxHeartbeats 1000000 in
theorem turn_head {n : Int} {t : Tok} {Q : Flow → Shared → Prop} (S : LSt w hb L lq lt la vC vS qs ts as pr s.heap m) (hn : m (Str.ofString "n") = some (.int n t)) (h1 : 1 ≤ qs.length) (h2 : qs.length ≤ 100)
    (h : ∀ h' tk m' t1 t2 t3 t4, LSt w hb L lq lt la (some (.int ((47 + (n.fdiv 5).fdiv qs.length).fmod 256) t4)) vS qs ts as pr h' m' → m' (Str.ofString "way") = some (.int (n.fmod 5) t1) → m' (Str.ofString "who") = some (.int ((n.fdiv 5).fmod qs.length) t2) → m' (Str.ofString "k") = some (.int ((n.fdiv 5).fdiv qs.length) t3) →
      wpAny (model prog w) A (execs (turnB.drop 4) (lenv L fa cd)) Q E { s with heap := h', toks := tk }) :
    wpAny (model prog w) A (execs turnB (lenv L fa cd)) Q E s := by
  have hne : (qs.length : Int) ≠ 0 := by omega
  have hsz : ((qs.map fun x => Value.ref x.q).toArray.size : Int) = qs.length := by simp
  refine wpAny_execs_cons ?_
  refine wpAny_Assign_Name ?_
  refine wpAny_BinOp ?_
  refine ll S.F.ns hn ?_
  refine wpAny_Constant_int (mod_int' (by decide) ?_)
  refine lst S fun h₁ S₁ => ?_
  dsimp only
  refine wpAny_execs_cons ?_
  refine wpAny_Assign_Name ?_
  refine wpAny_BinOp ?_
  refine wpAny_BinOp ?_
  refine ll S₁.F.ns hn ?_
  refine wpAny_Constant_int ?_
  refine floordiv_int (by decide) ?_ (Or.inl (PyProof.noPylong_of_log2 (by decide +kernel)))
  refine Call_ ?_
  refine Base.blt (w := w) S₁.B (G_len _) PyProof.Rows.Boot.len ?_
  refine PyProof.Rows.callWith_builtin1 ?_
  refine args_cons ?_
  refine ll S₁.F.ns S₁.mq (args_nil ?_)
  refine len_list S₁.gq.isList (by rw [hsz]; omega) ?_
  rw [hsz]
  refine mod_int' hne ?_
  refine lst S₁ fun h₂ S₂ => ?_
  dsimp only
  refine wpAny_execs_cons ?_
  refine wpAny_Assign_Name ?_
  refine wpAny_BinOp ?_
  refine wpAny_BinOp ?_
  refine ll S₂.F.ns hn ?_
  refine wpAny_Constant_int ?_
  refine floordiv_int (by decide) ?_ (Or.inl (PyProof.noPylong_of_log2 (by decide +kernel)))
  refine Call_ ?_
  refine Base.blt (w := w) S₂.B (G_len _) PyProof.Rows.Boot.len ?_
  refine PyProof.Rows.callWith_builtin1 ?_
  refine args_cons ?_
  refine ll S₂.F.ns S₂.mq (args_nil ?_)
  refine len_list S₂.gq.isList (by rw [hsz]; omega) ?_
  rw [hsz]
  refine floordiv_int hne ?_ (Or.inl (PyProof.noPylong_small (by omega)))
  refine lst S₂ fun h₃ S₃ => ?_
  dsimp only
  refine wpAny_execs_cons ?_
  refine wpAny_Assign_Name ?_
  refine wpAny_BinOp ?_
  refine wpAny_BinOp ?_
  refine wpAny_Constant_int ?_
  refine ll S₃.F.ns rfl ?_
  refine P.add_int ?_
  refine wpAny_Constant_int ?_
  refine mod_int' (by decide) ?_
  refine lcst S₃ fun h₄ S₄ => ?_
  exact h h₄ _ _ _ _ _ _ S₄ rfl rfl rfl
end
end Mine
end
section
open PySem PySem.W PyProof.Rows PySem.Calls Builtin Builtin.ObjectAttr
set_option Elab.async false
set_option linter.unusedVariables false
set_option maxRecDepth 100000
namespace Mine
/-- room at the law's own level -/
structure RmL (A : Around) : Prop where
  h : A.handled = none
  d : A.depth ≤ 350
  u : A.units ≤ 100
theorem RmL.rm {A : Around} (r : RmL A) : Rm A := ⟨r.h, by have := r.d; omega, by have := r.u; omega⟩
def ifE : Stmt → List Stmt
  | .If _ _ e _ => e
  | _ => []
def way0B : List Stmt := ifB (hd1 (turnB.drop 4))
section
variable {prog : Program} {w : World} {A : Around} {E : Value → Shared → Prop} {s : Shared} {hb : Heap} {L fa lq lt la : Addr} {cd : Value} {vC vS : Option Value} {qs : List QR} {ts as : List LR} {pr : List (Addr × Obj)} {m : PySem.Str → Option Value}
/-- an item of a quoter, as an expression -/
theorem q_tail {value slice : Expr} {x : QR} {c : Int} {t : Tok} {Q : Value → Shared → Prop} (B : Base w s.heap) (rm : RmL A) (X : QAt w s.heap x) (hz : x.ks.length ≤ 100) (h0 : 0 ≤ c) (h1 : c < 256)
    (hs : subscripted slice false (.ref x.q) (.int c t) = operate [.ref x.q, .int c t] (getItem (.ref x.q) (.int c t)))
    (h : ∀ h' tk t' x', Ext [x.q] s.heap h' → QAt w h' x' → x'.q = x.q → x'.d = x.d → x'.tl = x.tl → x'.ks = (if c ∈ x.ks then x.ks else x.ks ++ [c]) → Q (.str (qtext (told x.tl) c) t') { s with heap := h', toks := tk }) :
    wpAny (model prog w) A (subscriptTail value slice (.ref x.q) (.int c t)) Q E s := by
  obtain ⟨es, ep, gq, eo⟩ := X.obj
  obtain ⟨tk₀, gd⟩ := X.dic
  obtain ⟨n, gf, hn⟩ := X.set
  have sz := eo.size
  unfold subscriptTail
  refine wpAny_bind ?_
  unfold getitemInPython specialOf
  refine wpAny_bind (wpAny_bind (q_type (M := model prog w) gq _ _ _ _ (fun _ _ e => e) (looks_findIn B.k (Kf.gitem w.params) _ _ _ _ (fun _ _ e => e) ?_)))
  refine wpAny_pure ?_
  refine wpAny_bind ?_
  rw [hs]
  refine wpAny_operating ?_
  refine q_item B gq eo (fun hk t' => ?_) fun hk => ?_
  · exact wpAny_bind (wpAny_letTemporaryGo (wpAny_pure (h s.heap _ t' x (Ext.refl _ _) X rfl rfl rfl (if_pos hk).symm)))
  · refine missing_call (A := A.in1) (s := { s with toks := s.toks + 1 }) B ⟨rm.h, by have := rm.d; show A.depth ≤ 400; omega, by have := rm.u; show A.units + 1 ≤ 400; omega⟩ gq gd gf eo hk h0 h1 (by rw [sz]; omega) fun h' tk' t' tv ex g => ?_
    refine wpAny_bind (wpAny_letTemporaryGo (wpAny_pure (h h' _ t' ⟨x.q, x.d, x.f, x.tl, x.ks ++ [c]⟩ ex ?_ rfl rfl rfl (if_neg hk).symm)))
    have kk : ∀ b o, b ≠ x.q → s.heap.get? b = some o → h'.get? b = some o := fun b o hb e => ex b o (by simpa using hb) e
    have O : Off w s.heap h' x.q := off_of kk gq (by show (5 : Nat) ≠ 3; decide) (by show (5 : Nat) ≠ 4; decide)
    exact {
      one := X.one
      obj := ⟨_, _, g, eo.push c t tv⟩
      dic := ⟨tk₀, kk _ _ (ne_kind gd gq (by show (4 : Nat) ≠ 5; decide)) gd⟩
      set := ⟨n, gf.at fun o e => kk _ _ (by obtain ⟨e1, e2, e3, g1, _⟩ := gf; exact ne_kind g1 gq (by show (3 : Nat) ≠ 5; decide)) e, hn⟩
      tlr := X.tlr
      ksr := fun k hk => (List.mem_append.mp hk).elim (X.ksr k) fun z => by rw [List.mem_singleton] at z; subst z; exact ⟨h0, h1⟩ }
/-- told and asked run along the quoters -/
structure Sync (i : Nat) (qs : List QR) (ts as : List LR) : Prop where
  tl : qs.map (·.tl) = ts.map (·.ns)
  ks : qs.map (·.ks) = as.map (·.ns)
  pos : 1 ≤ qs.length
  len : qs.length ≤ i + 1
  lt : ∀ x ∈ qs, x.tl.length ≤ i
  lk : ∀ x ∈ qs, x.ks.length ≤ i
theorem ints_snoc : ∀ {vs : List Value} {ns : List Int}, IntsAre vs ns → ∀ c t, IntsAre (vs ++ [.int c t]) (ns ++ [c])
  | _, _, .nil, c, t => .cons c t .nil
  | _, _, .cons n u h, c, t => .cons n u (ints_snoc h c t)
theorem Sync.put {i : Nat} {p r : List QR} {x x' : QR} {ts pa ra : List LR} {z z' : LR} (Y : Sync i (p ++ x :: r) ts (pa ++ z :: ra)) (hp : p.length = pa.length) (et : x'.tl = x.tl) (ek : x'.ks = z'.ns) (hk : x'.ks.length ≤ i + 1) : Sync (i + 1) (p ++ x' :: r) ts (pa ++ z' :: ra) := by
  have hks := Y.ks
  simp only [List.map_append, List.map_cons] at hks
  obtain ⟨k1, k2⟩ := List.append_inj hks (by simp [hp])
  refine ⟨?_, ?_, ?_, ?_, fun y hy => ?_, fun y hy => ?_⟩
  · rw [← Y.tl]; simp [et]
  · simp only [List.map_append, List.map_cons]; rw [k1, ek, (List.cons.inj k2).2]
  · simp; omega
  · have := Y.len; simp only [List.length_append, List.length_cons] at this ⊢; omega
  · rcases List.mem_append.mp hy with z | z
    · exact Nat.le_succ_of_le (Y.lt y (List.mem_append_left _ z))
    · rcases List.mem_cons.mp z with rfl | z
      · rw [et]; exact Nat.le_succ_of_le (Y.lt x (by simp))
      · exact Nat.le_succ_of_le (Y.lt y (List.mem_append_right _ (.tail _ z)))
  · rcases List.mem_append.mp hy with z | z
    · exact Nat.le_succ_of_le (Y.lk y (List.mem_append_left _ z))
    · rcases List.mem_cons.mp z with rfl | z
      · exact hk
      · exact Nat.le_succ_of_le (Y.lk y (List.mem_append_right _ (.tail _ z)))
theorem any_mem (l : List Int) (c : Int) : (l.any fun k => k == c) = decide (c ∈ l) := by
  refine Bool.eq_iff_iff.mpr ?_
  rw [List.any_eq_true, decide_eq_true_eq]
  constructor
  · rintro ⟨k, hk, e⟩
    rwa [← eq_of_beq e]
  · exact fun hc => ⟨c, hc, beq_self_eq_true c⟩
theorem split_at {α : Type} : ∀ {l : List α} {j : Nat}, j < l.length → ∃ p x r, l = p ++ x :: r ∧ p.length = j
  | a :: l, 0, _ => ⟨[], a, l, rfl, rfl⟩
  | a :: l, j + 1, h => by
    obtain ⟨p, x, r, e, hp⟩ := split_at (l := l) (j := j) (by simpa using h)
    exact ⟨a :: p, x, r, by rw [e]; rfl, by simp [hp]⟩
theorem get_mid {α : Type} {p r : List α} {x : α} : (p ++ x :: r)[p.length]? = some x := by simp
theorem seq_item {value slice : Expr} {l : Addr} {α : Type} {f : α → Addr} {p r : List α} {x : α} {k : Int} {u : Tok} {Q : Value → Shared → Prop} (g : s.heap.PlainList l ((p ++ x :: r).map fun y => Value.ref (f y)).toArray) (hk : k = (p.length : Int)) (hz : p.length < 1000) (h : Q (.ref (f x)) s)
    (hs : subscripted slice false (.ref l) (.int k u) = operate [.ref l, .int k u] (getItem (.ref l) (.int k u)) := by with_unfolding_all rfl) (hg : ∀ r, letTemporaryGo value (.ref l) r = pure () := by intro _; with_unfolding_all rfl) :
    wpAny (model prog w) A (subscriptTail value slice (.ref l) (.int k u)) Q E s := by
  subst hk
  exact item_listL g.isList (by omega) (by omega) (by simp) h hs hg
/-- the text that is asked for and the text that is expected -/
theorem way0 {c : Int} {t t2 : Tok} {i who : Nat} {Q : Flow → Shared → Prop} (rm : RmL A) (S : LSt w hb L lq lt la (some (.int c t)) vS qs ts as pr s.heap m) (Y : Sync i qs ts as) (hi : i ≤ 40) (hw : m (Str.ofString "who") = some (.int who t2)) (hlt : who < qs.length) (h0 : 0 ≤ c) (h1 : c < 256)
    (h : ∀ h' tk qs' as', LSt w hb L lq lt la (some (.int c t)) vS qs' ts as' pr h' m → Sync (i + 1) qs' ts as' → Q .next { s with heap := h', toks := tk }) :
    wpAny (model prog w) A (execs way0B (lenv L fa cd)) Q E s := by
  have e1 : qs.length = ts.length := by have := congrArg List.length Y.tl; simpa using this
  have e2 : qs.length = as.length := by have := congrArg List.length Y.ks; simpa using this
  obtain ⟨p, x, r, rfl, hp⟩ := split_at hlt
  obtain ⟨pt, y, rt, rfl, hpt⟩ := split_at (l := ts) (j := who) (by omega)
  obtain ⟨pa, z, ra, rfl, hpa⟩ := split_at (l := as) (j := who) (by omega)
  subst hp
  have ey : y.ns = x.tl := by
    have := congrArg (fun l => l[p.length]?) Y.tl
    simp only [List.map_append, List.map_cons] at this
    rw [List.getElem?_append_right (by simp), List.getElem?_append_right (by simp [hpt])] at this
    simpa [hpt] using this.symm
  have ez : z.ns = x.ks := by
    have := congrArg (fun l => l[p.length]?) Y.ks
    simp only [List.map_append, List.map_cons] at this
    rw [List.getElem?_append_right (by simp), List.getElem?_append_right (by simp [hpa])] at this
    simpa [hpa] using this.symm
  have hl := Y.len
  simp only [List.length_append, List.length_cons] at hl
  have X := S.qat x (by simp)
  have hlk := Y.lk x (by simp)
  refine wpAny_execs_cons ?_
  refine wpAny_If ?_
  refine wpAny_isTrue_Compare1 ?_
  refine Subscript_ ?_
  refine Subscript_ ?_
  refine ll S.F.ns S.mq ?_
  refine ll S.F.ns hw ?_
  refine seq_item (f := QR.q) S.gq rfl (by omega) ?_
  refine lc S.cc ?_
  refine q_tail S.B rm X (by omega) h0 h1 (by with_unfolding_all rfl) fun h₁ tk₁ t₁ x' ex X' eq ed etl eks => ?_
  have S₁ := St.took S eq ed X' ex
  refine Call_ ?_
  refine Base.glob (w := w) S₁.B (G_written _) ?_
  refine callWith_def (fd := fd60) (o := ⟨.type "function", none, .func fd60, #[]⟩) rfl ?_
  refine args_cons ?_
  refine lc S₁.cc ?_
  refine args_cons ?_
  refine Subscript_ ?_
  refine ll S₁.F.ns S₁.mt ?_
  refine ll S₁.F.ns hw ?_
  refine seq_item (f := LR.a) S₁.gt (by rw [hpt]) (by omega) ?_
  refine args_nil ⟨S₁.B.k _ _ (K60 _), wpAny_call ?_⟩
  obtain ⟨vs, gy, iy⟩ := S₁.tat y (by simp)
  refine written_call (s := { s with heap := h₁, toks := tk₁ }) S₁.B rm.rm gy.isList iy h0 h1 fun h₂ tk₂ t₂ ex₂ => ?_
  have S₂ := St.ext S₁ fun b o e => ex₂ b o (by simp) e
  rw [ey]
  refine PySem.SeqAt.RcNeAt.str_str _ _ _ _ prog w _ _ (wpAny_truthy_bool ?_)
  rw [beq_self_eq_true]
  refine wpAny_execs_nil ?_
  refine wpAny_execs_cons ?_
  refine wpAny_If ?_
  refine wpAny_isTrue_Compare1 ?_
  refine lc S₂.cc ?_
  refine Subscript_ ?_
  refine ll S₂.F.ns S₂.ma ?_
  refine ll S₂.F.ns hw ?_
  refine seq_item (f := LR.a) S₂.ga (by rw [hpa]) (by omega) ?_
  obtain ⟨zs, gz, iz⟩ := S₂.aat z (by simp)
  refine notin_list_ints (s := { s with heap := h₂, toks := tk₂ }) gz.isList iz (wpAny_truthy_bool ?_)
  have hc : (z.ns.any fun k => k == c) = decide (c ∈ x.ks) := by rw [ez]; exact any_mem _ _
  rw [hc]
  by_cases hm : c ∈ x.ks
  · rw [decide_eq_true hm]
    refine wpAny_execs_nil ?_
    refine wpAny_execs_nil ?_
    refine h h₂ tk₂ _ _ S₂ (Y.put (by rw [hpa]) etl (by rw [eks, if_pos hm, ez]) ?_)
    rw [eks, if_pos hm]; omega
  · rw [decide_eq_false hm]
    refine wpAny_execs_cons ?_
    refine wpAny_Expr ?_
    refine MethodCall_ ?_
    refine Subscript_ ?_
    refine ll S₂.F.ns S₂.ma ?_
    refine ll S₂.F.ns hw ?_
    refine seq_item (f := LR.a) S₂.ga (by rw [hpa]) (by omega) ?_
    obtain ⟨nz, gz'⟩ := id gz
    refine getMethod_list_append gz' rfl rfl ?_
    refine callWith_method1 ?_
    refine args_cons ?_
    refine lc S₂.cc ?_
    refine args_nil ?_
    have hz : z.ns.length ≤ i := by rw [ez]; exact hlk
    refine wpAny_list_append_plain (s := { s with heap := h₂, toks := tk₂ }) (hsz := by have := iz.length; rw [sizeLine_eq, List.size_toArray]; omega) gz fun h₃ g₃ sb₃ => ?_
    refine wpAny_execs_nil ?_
    refine wpAny_execs_nil ?_
    have S₃ := St.ask (c := c) (t := t) S₂ (ints_snoc iz c t) gz g₃ sb₃
    refine h h₃ tk₂ _ _ S₃ (Y.put (by rw [hpa]) etl (by rw [eks, if_neg hm]; exact congrArg (· ++ [c]) ez.symm) ?_)
    rw [eks, if_neg hm]; simp; omega
end
end Mine
end
section
open PySem PySem.W PyProof.Rows PySem.Calls Builtin Builtin.ObjectAttr
set_option Elab.async false
set_option linter.unusedVariables false
set_option maxRecDepth 100000
namespace Mine
theorem keep49 (P : Params) : keepIn (K P) (.ref 49) = true := by kernel_rfl
section
variable {prog : Program} {w : World} {A : Around} {E : Value → Shared → Prop} {s : Shared} {hb : Heap} {L fa lq lt la : Addr} {cd : Value} {vC vS : Option Value} {qs : List QR} {ts as : List LR} {pr : List (Addr × Obj)} {m : PySem.Str → Option Value}
/-- a new quoter, not yet among the quoters -/
structure NewQ (w : World) (hb : Heap) (L : Addr) (qs : List QR) (tl : List Int) (h : Heap) (x : QR) : Prop where
  at_ : QAt w h x
  tl : x.tl = tl
  ks : x.ks = []
  nq : ∀ y ∈ qs, y.q ≠ x.q
  off : x.q ≠ L ∧ x.d ≠ L
  fx : hb.get? x.q = none
theorem mk_new {v : Value} {T : Int → Bool} {tl : List Int} {Q : Value → Shared → Prop} (S : LSt w hb L lq lt la vC vS qs ts as pr s.heap m) (rm : RmL A) (hv : v ≠ .ref 15)
    (G : ∀ A' E' h', A'.handled = none → Ext [] s.heap h' → Gives prog w A' E' v T h') (hT : ∀ k, (alw k || T k) = told tl k) (htl : ∀ k ∈ tl, 0 ≤ k ∧ k < 128)
    (h : ∀ h' tk x, LSt w hb L lq lt la vC vS qs ts as pr h' m → NewQ w hb L qs tl h' x → Ext [] s.heap h' → Q (.ref x.q) { s with heap := h', toks := tk }) :
    wpAny (model prog w) A (call (.ref 49) [v]) Q E s := by
  refine wpAny_call (mk_quoter S.B rm.rm hv G fun q d f h' tk tk' n' one ex nq nd nf qd qf df gq gd gf le => ?_)
  have old : ∀ {b o}, s.heap.get? b = some o → b ≠ q ∧ b ≠ d := fun {b o} e => ⟨fun z => (by rw [z, nq] at e; cases e), fun z => (by rw [z, nd] at e; cases e)⟩
  refine h h' tk ⟨q, d, f, tl, []⟩ (St.ext S fun b o e => ex b o (by simp) e) ⟨?_, rfl, rfl, fun y hy => ?_, ?_, ?_⟩ ex
  · exact {
      one := one
      obj := ⟨_, _, gq, EsOk.nil _⟩
      dic := ⟨_, gd⟩
      set := ⟨n', gf.congr hT, le⟩
      tlr := htl
      ksr := fun k hk => by cases hk }
  · obtain ⟨o, e, _⟩ := (S.qat y hy).kq; exact (old e).1
  · obtain ⟨o, e, _⟩ := ns_kd S.F.ns; exact ⟨Ne.symm (old e).1, Ne.symm (old e).2⟩
  · cases e : hb.get? q with
    | none => rfl
    | some o => have := S.F.keep _ _ e; rw [nq] at this; cases this
/-- a new quoter gets its name -/
theorem st_quoter {x : QR} {tl : List Int} {M : Model} {Q : Unit → Shared → Prop} (S : LSt w hb L lq lt la vC vS qs ts as pr s.heap m) (X : NewQ w hb L qs tl s.heap x)
    (h : ∀ h', LSt w hb L lq lt la vC vS qs ts as pr h' (fun y => if y = Str.ofString "quoter" then some (.ref x.q) else m y) → NewQ w hb L qs tl h' x → Q () { s with heap := h', toks := s.toks + 1 }) :
    wpAny M A (storeName (lenv L fa cd) (Str.ofString "quoter") (.ref x.q)) Q E s := by
  refine wpAny_storeName_local (env := lenv L fa cd) rfl S.F.ns fun h' hn sb => h h' (St.loc S hn sb (if_neg (by decide)) (if_neg (by decide)) (if_neg (by decide))) ⟨?_, X.tl, X.ks, X.nq, X.off, X.fx⟩
  obtain ⟨oL, gL, kL⟩ := ns_kd S.F.ns
  exact {
    one := X.at_.one
    obj := let ⟨es, ep, g, e⟩ := X.at_.obj; ⟨es, ep, (sb.2 _ X.off.1).trans g, e⟩
    dic := let ⟨tk, g⟩ := X.at_.dic; ⟨tk, (sb.2 _ X.off.2).trans g⟩
    set := let ⟨n, ⟨es, ep, t, g, r⟩, e⟩ := X.at_.set; ⟨n, ⟨es, ep, t, (sb.2 _ (ne_kind g gL (by show 3 ≠ kd oL; rcases kL with z | z <;> rw [z] <;> decide))).trans g, r⟩, e⟩
    tlr := X.at_.tlr
    ksr := X.at_.ksr }
theorem St.addPr {cC cS : Addr} {h : Heap} (S : St w hb L cC cS lq lt la vC vS qs ts as pr h m) {a : Addr} {o : Obj} (g : h.get? a = some o) (na : a ∉ (lq :: lt :: la :: as.map (·.a))) (k : kd o = 0 ∨ kd o = 1 ∨ kd o = 3) : St w hb L cC cS lq lt la vC vS qs ts as ((a, o) :: pr) h m :=
  { S with prk := fun p hp => (List.mem_cons.mp hp).elim (fun e => e ▸ ⟨g, na, k⟩) (S.prk p) }
theorem St.delPr {cC cS : Addr} {h : Heap} {x : Addr × Obj} (S : St w hb L cC cS lq lt la vC vS qs ts as (x :: pr) h m) : St w hb L cC cS lq lt la vC vS qs ts as pr h m :=
  { S with prk := fun p hp => S.prk p (.tail _ hp) }
theorem Sync.add {i : Nat} (Y : Sync i qs ts as) {x : QR} {y z : LR} (et : x.tl = y.ns) (ek : x.ks = []) (ez : z.ns = []) (hl : y.ns.length ≤ i + 1) : Sync (i + 1) (qs ++ [x]) (ts ++ [y]) (as ++ [z]) := by
  refine ⟨?_, ?_, ?_, ?_, fun u hu => ?_, fun u hu => ?_⟩
  · simp [Y.tl, et]
  · simp [Y.ks, ek, ez]
  · simp
  · have := Y.len; simp only [List.length_append, List.length_cons, List.length_nil]; omega
  · rcases List.mem_append.mp hu with z | z
    · exact Nat.le_succ_of_le (Y.lt u z)
    · rw [List.mem_singleton] at z; subst z; rw [et]; exact hl
  · rcases List.mem_append.mp hu with z | z
    · exact Nat.le_succ_of_le (Y.lk u z)
    · rw [List.mem_singleton] at z; subst z; rw [ek]; simp
/-- the else branch's body -/
def elseB : List Stmt := ifE (hd1 (ifE (hd1 (turnB.drop 4))))
/-- a list that the law is to take in -/
structure NewL (hb : Heap) (lq lt la : Addr) (ts as : List LR) (pr : List (Addr × Obj)) (h : Heap) (y : LR) : Prop where
  at_ : LAt h y
  nx : y.a ∉ (lq :: lt :: la :: (ts.map (·.a) ++ as.map (·.a)))
  fx : hb.get? y.a = none
set_option maxHeartbeats 1000000 in
theorem take_in {i : Nat} {x : QR} {y : LR} {oy : Obj} {Q : Flow → Shared → Prop} (S : LSt w hb L lq lt la vC (some (.ref y.a)) qs ts as ((y.a, oy) :: pr) s.heap m) (Y : Sync i qs ts as) (hi : i ≤ 40) (X : NewQ w hb L qs y.ns s.heap x) (Z : LAt s.heap y) (zx : y.a ∉ (lq :: lt :: la :: (ts.map (·.a) ++ as.map (·.a)))) (fy : hb.get? y.a = none)
    (hm : m (Str.ofString "quoter") = some (.ref x.q)) (hl : y.ns.length ≤ i + 1)
    (h : ∀ h' tk qs' ts' as', LSt w hb L lq lt la vC (some (.ref y.a)) qs' ts' as' pr h' m → Sync (i + 1) qs' ts' as' → Q .next { s with heap := h', toks := tk }) :
    wpAny (model prog w) A (execs (elseB.drop 2) (lenv L fa cd)) Q E s := by
  have e1 : qs.length = ts.length := by have := congrArg List.length Y.tl; simpa using this
  have e2 : qs.length = as.length := by have := congrArg List.length Y.ks; simpa using this
  have hlen := Y.len
  refine wpAny_execs_cons ?_
  refine wpAny_Expr ?_
  refine MethodCall_ ?_
  refine ll S.F.ns S.mq ?_
  obtain ⟨n1, g1⟩ := id S.gq
  refine getMethod_list_append g1 rfl rfl ?_
  refine callWith_method1 ?_
  refine args_cons ?_
  refine ll S.F.ns hm ?_
  refine args_nil ?_
  refine wpAny_list_append_plain (hsz := by rw [sizeLine_eq, List.size_toArray, List.length_map]; omega) S.gq fun h₁ p₁ sb₁ => ?_
  have S₁ := St.appQ S X.at_ X.nq X.off X.fx p₁ sb₁
  have Z₁ : LAt h₁ y := by
    obtain ⟨vs, pv, iv⟩ := Z
    exact ⟨vs, pv.at fun o e => (sb₁.2 _ (fun z => zx (z ▸ .head _))).trans e, iv⟩
  refine wpAny_execs_cons ?_
  refine wpAny_Expr ?_
  refine MethodCall_ ?_
  refine ll S₁.F.ns S₁.mt ?_
  obtain ⟨n2, g2⟩ := id S₁.gt
  refine getMethod_list_append g2 rfl rfl ?_
  refine callWith_method1 ?_
  refine args_cons ?_
  refine ls S₁.cs ?_
  refine args_nil ?_
  refine wpAny_list_append_plain (s := { s with heap := h₁ }) (hsz := by rw [sizeLine_eq, List.size_toArray, List.length_map]; omega) S₁.gt fun h₂ p₂ sb₂ => ?_
  have S₂ := St.delPr (St.appT S₁ Z₁ zx fy p₂ sb₂)
  refine wpAny_execs_cons ?_
  refine wpAny_Expr ?_
  refine MethodCall_ ?_
  refine ll S₂.F.ns S₂.ma ?_
  obtain ⟨n3, g3⟩ := id S₂.ga
  refine getMethod_list_append g3 rfl rfl ?_
  refine callWith_method1 ?_
  refine args_cons ?_
  refine List_ ?_
  refine args_nil ?_
  refine wpAny_newObj_type ?_ (by size_fits)
  refine args_nil ?_
  dsimp only
  have sz : h₂.get? h₂.objs.size = none := get_size _
  have gn : (h₂.push { cls := .type "list", data := .seq ([] : List Value).toArray }).PlainList h₂.objs.size ([] : List Value).toArray := ⟨_, Heap.get?_push_size _ rfl⟩
  have k₃ : ∀ b o, h₂.get? b = some o → (h₂.push { cls := .type "list", data := .seq ([] : List Value).toArray }).get? b = some o := fun b o e => Heap.get?_push_of_some _ e
  have S₃ := St.ext S₂ k₃
  refine wpAny_list_append_plain (s := { s with heap := h₂.push _ }) (hsz := by rw [sizeLine_eq, List.size_toArray, List.length_map]; omega) S₃.ga fun h₄ p₄ sb₄ => ?_
  have old : ∀ {b o}, h₂.get? b = some o → b ≠ h₂.objs.size := fun e z => by rw [z, sz] at e; cases e
  have S₄ := St.appA (x := ⟨h₂.objs.size, []⟩) S₃ ⟨[], gn, .nil⟩ (fun p hp => old (S₂.prk p hp).1) (fun z => by
      simp only [List.mem_cons, List.mem_append, List.mem_map] at z
      rcases z with z | z | z | ⟨u, hu, z⟩ | ⟨u, hu, z⟩
      · obtain ⟨o, e, _⟩ := plain_kd S₂.gq; exact old e z.symm
      · obtain ⟨o, e, _⟩ := plain_kd S₂.gt; exact old e z.symm
      · obtain ⟨o, e, _⟩ := plain_kd S₂.ga; exact old e z.symm
      · obtain ⟨o, e, _⟩ := (S₂.tat u (by simpa using hu)).kl; exact old e z
      · obtain ⟨o, e, _⟩ := (S₂.aat u hu).kl; exact old e z) (by
      cases e : hb.get? h₂.objs.size with
      | none => rfl
      | some o => exact absurd rfl (old (S₂.F.keep _ _ e))) p₄ sb₄
  refine wpAny_execs_nil ?_
  exact h h₄ _ _ _ _ S₄ (Y.add X.tl X.ks rfl hl)
end
end Mine
end
section
open PySem PySem.W PyProof.Rows PySem.Calls Builtin Builtin.ObjectAttr
set_option Elab.async false
set_option linter.unusedVariables false
set_option maxRecDepth 100000
namespace Mine
theorem G_bytes (P : Params) : nsIn (K P) mainGlobals (Str.ofString "bytes") = some none := by kernel_rfl
section
variable {prog : Program} {w : World} {A : Around} {E : Value → Shared → Prop} {s : Shared} {hb : Heap} {L fa lq lt la : Addr} {cd : Value} {vC vS : Option Value} {qs : List QR} {ts as : List LR} {pr : List (Addr × Obj)} {m : PySem.Str → Option Value}
theorem add_plain {l b : Addr} {vs ws : List Value} {Q : Value → Shared → Prop} (hl : s.heap.PlainList l vs.toArray) (hb : s.heap.PlainList b ws.toArray) (hsz : vs.length + ws.length ≤ 4096)
    (h : Q (.ref s.heap.objs.size) { s with heap := s.heap.push { cls := .type "list", data := .seq (vs ++ ws).toArray } }) : wpAny (model prog w) A (binaryOp .Add (.ref l) (.ref b)) Q E s := by
  obtain ⟨n, ho⟩ := hl
  obtain ⟨n2, ho2⟩ := hb
  have e : vs.toArray ++ ws.toArray = (vs ++ ws).toArray := by simp
  refine concat_meets ⟨_, ho, rfl⟩ ⟨_, ho2, rfl⟩ noFill_list_add seq_list_add PySem.F.slot_list_add PySem.F.entry_list_add (PySem.F.args_list_add_2 _ _) (list_addW l b vs.toArray ws.toArray n n2 none none #[] #[] (by rw [sizeLine_eq]; simp; omega)) ⟨ho, ho2, ?_⟩
  rw [e]
  exact h
theorem bytes_ints {ns : List Int} (h : ∀ k ∈ ns, 0 ≤ k ∧ k < 128) : KBw.bInts (byteArr ns) = ns := by
  unfold byteArr KBw.bInts
  simp only [List.map_map]
  refine (List.map_congr_left (g := fun k => k) fun k hk => ?_).trans (List.map_id'' (fun _ => rfl) ns)
  have := h k hk
  show ((k.toNat.toUInt8.toNat : Nat) : Int) = k
  rw [Nat.toUInt8, UInt8.toNat_ofNat']
  omega
theorem contains_any (ns : List Int) (k : Int) : ns.contains k = ns.any (· == k) := by
  rw [any_mem]
  exact Bool.eq_iff_iff.mpr (by rw [List.contains_iff_mem, decide_eq_true_eq])
theorem fresh_b {S : Prop} {h : Heap} (F : Fr hb L h m) {a : Addr} (ha : h.get? a = none) : hb.get? a = none := by
  cases e : hb.get? a with
  | none => rfl
  | some o => have := F.keep _ _ e; rw [ha] at this; cases this
theorem St.notIn {cC cS : Addr} {h : Heap} (S : St w hb L cC cS lq lt la vC vS qs ts as pr h m) {a : Addr} (ha : h.get? a = none) : a ∉ (lq :: lt :: la :: (ts.map (·.a) ++ as.map (·.a))) := fun z => by
  have old : ∀ {b o}, h.get? b = some o → b ≠ a := fun e z => by rw [z, ha] at e; cases e
  simp only [List.mem_cons, List.mem_append, List.mem_map] at z
  rcases z with z | z | z | ⟨u, hu, z⟩ | ⟨u, hu, z⟩
  · obtain ⟨o, e, _⟩ := plain_kd S.gq; exact old e z.symm
  · obtain ⟨o, e, _⟩ := plain_kd S.gt; exact old e z.symm
  · obtain ⟨o, e, _⟩ := plain_kd S.ga; exact old e z.symm
  · obtain ⟨o, e, _⟩ := (S.tat u hu).kl; exact old e z
  · obtain ⟨o, e, _⟩ := (S.aat u hu).kl; exact old e z
/-- a new list is stored as signs -/
theorem st_signs {y : LR} {h₀ : Heap} {M : Model} {vs : List Value} {c : Nat} {Q : Unit → Shared → Prop} (S₀ : LSt w hb L lq lt la vC vS qs ts as pr h₀ m) (ha : h₀.get? y.a = none) (ex : Ext [] h₀ s.heap) (g : s.heap.get? y.a = some (lstObj vs.toArray c)) (iv : IntsAre vs y.ns)
    (h : ∀ h', LSt w hb L lq lt la vC (some (.ref y.a)) qs ts as ((y.a, lstObj vs.toArray c) :: pr) h' m → h'.get? y.a = some (lstObj vs.toArray c) → y.a ∉ (lq :: lt :: la :: (ts.map (·.a) ++ as.map (·.a))) → hb.get? y.a = none → Q () { s with heap := h' }) :
    wpAny M A (storeName (lenv L fa cd) (Str.ofString "signs") (.ref y.a)) Q E s := by
  have nx := St.notIn S₀ ha
  have S : LSt w hb L lq lt la vC vS qs ts as ((y.a, lstObj vs.toArray c) :: pr) s.heap m := St.addPr (St.ext S₀ fun b o e => ex b o (by simp) e) g (fun z => nx (by
    simp only [List.mem_cons, List.mem_append] at z ⊢
    rcases z with z | z | z | z
    · exact .inl z
    · exact .inr (.inl z)
    · exact .inr (.inr (.inl z))
    · exact .inr (.inr (.inr (.inr z))))) (.inr (.inl (kd_list _ _)))
  exact lsst S fun h' S' => h h' S' (S'.prk _ (.head _)).1 nx (fresh_b (S := True) S₀.F ha)
def way1B : List Stmt := ifB (hd1 (elseB.drop 1))
set_option maxHeartbeats 1000000 in
theorem way1 {c : Int} {t t2 : Tok} {i who : Nat} {Q : Flow → Shared → Prop} (rm : RmL A) (S : LSt w hb L lq lt la (some (.int c t)) vS qs ts as pr s.heap m) (Y : Sync i qs ts as) (hi : i ≤ 40) (hw : m (Str.ofString "who") = some (.int who t2)) (hlt : who < qs.length) (h0 : 0 ≤ c) (h1 : c < 128)
    (h : ∀ h' tk x y oy, LSt w hb L lq lt la (some (.int c t)) (some (.ref y.a)) qs ts as ((y.a, oy) :: pr) h' (fun z => if z = Str.ofString "quoter" then some (.ref x.q) else m z) → NewQ w hb L qs y.ns h' x → LAt h' y → y.a ∉ (lq :: lt :: la :: (ts.map (·.a) ++ as.map (·.a))) → hb.get? y.a = none → y.ns.length ≤ i + 1 → Q .next { s with heap := h', toks := tk }) :
    wpAny (model prog w) A (execs way1B (lenv L fa cd)) Q E s := by
  have e1 : qs.length = ts.length := by have := congrArg List.length Y.tl; simpa using this
  have hlen := Y.len
  obtain ⟨p, x, r, eqs, hp⟩ := split_at hlt
  obtain ⟨pt, y, rt, rfl, hpt⟩ := split_at (l := ts) (j := who) (by omega)
  have ey : y.ns = x.tl := by
    have := congrArg (fun l => l[who]?) Y.tl
    rw [eqs] at this
    simp only [List.map_append, List.map_cons] at this
    rw [List.getElem?_append_right (by simp [hp]), List.getElem?_append_right (by simp [hpt])] at this
    simpa [hpt, hp] using this.symm
  have mx : x ∈ qs := by rw [eqs]; simp
  have yr : ∀ k ∈ y.ns, 0 ≤ k ∧ k < 128 := by rw [ey]; exact (S.qat x mx).tlr
  have yl : y.ns.length ≤ i := by rw [ey]; exact Y.lt x mx
  obtain ⟨vs, gy, iy⟩ := S.tat y (by simp)
  have vl : vs.length = y.ns.length := iy.length
  refine wpAny_execs_cons ?_
  refine wpAny_Assign_Name ?_
  refine wpAny_BinOp ?_
  refine Subscript_ ?_
  refine ll S.F.ns S.mt ?_
  refine ll S.F.ns hw ?_
  refine seq_item (f := LR.a) S.gt (by rw [hpt]) (by omega) ?_
  refine List_ ?_
  refine args_cons ?_
  refine lc S.cc ?_
  refine args_nil ?_
  refine wpAny_newObj_type ?_ (by size_fits)
  have k₁ : Ext [] s.heap (s.heap.push { cls := .type "list", data := .seq [Value.int c t].toArray }) := Ext.push _ _
  refine add_plain (s := { s with heap := s.heap.push _ }) (vs := vs) (ws := [.int c t]) (gy.at fun o e => k₁ _ _ (by simp) e) ⟨_, Heap.get?_push_size _ rfl⟩ (by rw [vl, List.length_singleton]; omega) ?_
  dsimp only
  have S₁ : LSt w hb L lq lt la _ vS qs _ as pr (s.heap.push { cls := .type "list", data := .seq [Value.int c t].toArray }) m := St.ext S fun b o e => k₁ b o (by simp) e
  generalize s.heap.push { cls := .type "list", data := .seq [Value.int c t].toArray } = h₁ at k₁ S₁ ⊢
  refine st_signs (y := ⟨h₁.objs.size, y.ns ++ [c]⟩) (vs := vs ++ [.int c t]) (c := 0) S₁ (get_size _) (Ext.push _ _) (Heap.get?_push_size _ rfl) (ints_snoc iy c t) fun h₂ S₂ g₂ nx fx => ?_
  have yr' : ∀ k ∈ y.ns ++ [c], 0 ≤ k ∧ k < 128 := fun k hk => (List.mem_append.mp hk).elim (yr k) fun z => by rw [List.mem_singleton] at z; subst z; exact ⟨h0, h1⟩
  refine wpAny_execs_cons ?_
  refine wpAny_Assign_Name ?_
  refine Call_ ?_
  refine Base.glob (w := w) S₂.B (G_quoter _) ?_
  refine callWith_K (K := K w.params) S₂.B.k (keep49 _) ?_
  refine args_cons ?_
  refine Call_ ?_
  refine Base.blt (w := w) S₂.B (G_bytes _) PyProof.Rows.Boot.bytes ?_
  refine PyProof.Rows.callWith_type1 ?_
  refine args_cons ?_
  refine ls S₂.cs ?_
  refine args_nil ?_
  refine call_bytes_ints ⟨_, g₂, rfl, _, rfl⟩ (ints_snoc iy c t) (fun k hk => ⟨(yr' k hk).1, by have := (yr' k hk).2; omega⟩) (by rw [List.length_append, vl, List.length_singleton, sizeLine_eq]; omega) rm.h fun h₃ t₃ tk₃ k₃ => ?_
  have S₃ := St.ext S₂ k₃
  refine args_nil ⟨S₃.B.k, ?_⟩
  dsimp only
  refine mk_new (tl := y.ns ++ [c]) S₃ rm (fun z => by cases z) (fun A' E' h' hh _ => gives_bytes hh (by rw [bytes_ints yr']; exact fun k hk => (yr' k hk).2)) (fun k => by rw [bytes_ints yr', contains_any]; rfl) yr' fun h₄ tk₄ x' S₄ X₄ ex₄ => ?_
  refine st_quoter S₄ X₄ fun h₅ S₅ X₅ => ?_
  refine wpAny_execs_nil ?_
  exact h h₅ _ x' ⟨h₁.objs.size, y.ns ++ [c]⟩ _ S₅ X₅ ⟨_, ⟨_, (S₅.prk _ (.head _)).1⟩, ints_snoc iy c t⟩ nx fx (by simp; omega)
end
end Mine
end
section
open PySem PySem.W PyProof.Rows PySem.Calls Builtin Builtin.ObjectAttr
set_option Elab.async false
set_option linter.unusedVariables false
set_option maxRecDepth 100000
namespace Mine
def pv (f : Int → Bool) : Value → Bool
  | .int k _ => f k
  | _ => false
theorem ints_filter (f : Int → Bool) : ∀ {vs : List Value} {ns : List Int}, IntsAre vs ns → IntsAre (vs.filter (pv f)) (ns.filter f)
  | _, _, .nil => .nil
  | _, _, .cons n t h => by
    rw [List.filter_cons, List.filter_cons]
    show IntsAre (if f n = true then _ else _) _
    by_cases e : f n = true
    · rw [if_pos e, if_pos e]; exact .cons n t (ints_filter f h)
    · rw [if_neg e, if_neg e]; exact ints_filter f h
theorem paired_eq : ∀ {l₁ l₂ : List Value}, Paired (fun a b => b = a) l₁ l₂ → l₂ = l₁
  | _, _, .nil => rfl
  | _, _, .cons h t => by rw [h, paired_eq t]
section
variable {prog : Program} {w : World} {A : Around} {E : Value → Shared → Prop} {s : Shared} {env : Env}
theorem comp_filter {tst iter : Expr} {x : PySem.Str} {px pb : Pos} {scope : Scope} {cl : List (PySem.Str × Addr)} {pos : Pos} {Q : Value → Shared → Prop} {l : Addr} {vs : List Value} {ns : List Int} (f : Int → Bool) (hh : A.handled = none)
    (hclos : closureFor scope env = pure cl) (hcell : ∀ y ∈ scope.names, y.2 ≠ .cell) (hkind : scope.kind = .function)
    (hnames : ∀ y ∈ scope.names, y.2 = .local → scope.names.lookup y.1 = some .local) (hx : scope.names.lookup x = some .local) (hxd : (x == ("__debug__" : PySem.Str)) = false)
    (hl : s.heap.IsList l vs.toArray) (iv : IntsAre vs ns) (hz : vs.length ≤ 4096)
    (hi : ∀ Q', Q' (.ref l) s → wpAny (model prog w) A (eval iter env) Q' E s)
    (ht : ∀ C k tk (s₃ : Shared) m₃ E' (Q' : Bool → Shared → Prop), s₃.heap.Ns C m₃ → m₃ x = some (.int k tk) → (∀ b o, s.heap.get? b = some o → s₃.heap.get? b = some o) →
      (∀ tk', Q' (f k) { s₃ with toks := tk' }) → wpAny (model prog w) A (isTrue tst (compEnvC scope cl C env) (eval tst (compEnvC scope cl C env))) Q' E' s₃)
    (hQ : ∀ D h' tk vs', s.heap.get? D = none → h'.PlainList D (vs' : List Value).toArray → IntsAre vs' (ns.filter f) → Ext [] s.heap h' → Q (.ref D) { s with heap := h', toks := tk })
    (hs : ∀ x, foldedSetIterable iter env x = pure x := by intro _; rfl) :
    wpAny (model prog w) A (eval (.ListComp (.Name x pb) [⟨.Name x px, iter, [tst], 0⟩] scope pos) env) Q E s := by
  refine wpAny_ListComp_free (cl := cl) (pv f) (fun a b => b = a) hclos hcell hkind hnames hx ?_ hs
  refine hi _ (wpAny_pyIter_list hl ?_)
  have hll : l < s.heap.objs.size := let ⟨_, ho, _⟩ := hl; Heap.lt_size ho
  have W := Walks.list (prog := prog) (w := w) (A := A) hh s.heap.objs.size l (Nat.ne_of_lt hll) vs.toArray
  have hvs : vs.toArray.size = vs.length := by simp
  have k₁ : ∀ b o, s.heap.get? b = some o → (s.heap.push { cls := .type "list_iterator", data := .fields #[.ref l, .int 0 0] }).get? b = some o := fun b o e => Heap.get?_push_of_some _ e
  have kp : ∀ {h₃ : Heap}, (∀ b o, b ∉ [s.heap.objs.size] → (s.heap.push { cls := .type "list_iterator", data := .fields #[.ref l, .int 0 0] }).get? b = some o → h₃.get? b = some o) → ∀ b o, s.heap.get? b = some o → h₃.get? b = some o :=
    fun hk b o e => hk b o (by simpa using Nat.ne_of_lt (Heap.lt_size e)) (k₁ b o e)
  refine ⟨_, _, _, _, _, _, rfl, W, by rw [hvs, sizeLine_eq]; omega, ⟨⟨_, Heap.get?_push_size _ rfl, rfl, rfl⟩, PyProof.Rows.lstKept hl k₁⟩, ?_, ⟨?_, ?_⟩, ?_⟩
  · intro b hb
    simp only [List.mem_cons, List.not_mem_nil, or_false] at hb
    show b < (s.heap.push _).objs.size
    rw [Heap.size_push]
    rcases hb with rfl | rfl
    · exact Nat.lt_succ_self _
    · exact Nat.lt_succ_of_lt hll
  · intro C i v s₃ m₃ E' hC hP hn hm hk htk
    obtain ⟨k, tk, rfl, _⟩ := ints_at iv hP
    rw [List.forIn_cons]
    refine wpAny_bind ?_
    rw [if_pos rfl]
    refine wpAny_bind (ht C k tk s₃ m₃ E' _ hn hm (kp hk) fun tk' => wpAny_pure ?_)
    dsimp only
    rw [List.forIn_nil]
    exact wpAny_pure ⟨rfl, s₃.heap, tk', rfl, fun _ _ e => e⟩
  · intro C i v s₃ m₃ E' hC hP hpv hn hm hk htk
    exact wpAny_Name (wpAny_loadName_local (env := compEnvC scope cl C env) (by simp [compEnvC, relabel, hkind]) (lookup_relabel_local hx) hn hm ⟨rfl, s₃.heap, s₃.toks, rfl, fun _ _ e => e⟩) hxd
  · intro D h' tk ys vs' nD hlD hplD hlen hP hF hk
    have e : vs' = vs := by
      refine List.ext_getElem? fun j => ?_
      cases hj : vs'[j]? with
      | none =>
        have : vs'.length ≤ j := by simpa using hj
        rw [hvs] at hlen
        exact (List.getElem?_eq_none (by omega)).symm
      | some v => have := hP j v hj; simpa using this.symm
    subst e
    have ey := paired_eq hF
    refine hQ D h' tk (vs'.filter (pv f)) (by
      cases e : s.heap.get? D with
      | none => rfl
      | some o => have := k₁ _ _ e; dsimp only at nD; rw [nD] at this; cases this) ?_ (ints_filter f iv) fun b o _ e => kp hk b o e
    rw [← ey]
    exact hplD
end
end Mine
end
section
open PySem PySem.W PyProof.Rows PySem.Calls Builtin Builtin.ObjectAttr
set_option Elab.async false
set_option linter.unusedVariables false
set_option maxRecDepth 100000
namespace Mine
section
variable {prog : Program} {w : World} {A : Around} {E : Value → Shared → Prop} {s : Shared} {hb : Heap} {L fa lq lt la : Addr} {cd : Value} {vC vS : Option Value} {qs : List QR} {ts as : List LR} {pr : List (Addr × Obj)} {m : PySem.Str → Option Value}
def way2B : List Stmt := ifB (hd1 (ifE (hd1 (elseB.drop 1))))
def way3B : List Stmt := ifE (hd1 (ifE (hd1 (elseB.drop 1))))
theorem told_diff {tl : List Int} {c : Int} (k : Int) : (alw k || (told tl k && !decide (k = c))) = told (tl.filter fun b => b != c) k := by
  unfold told
  rw [any_mem, any_mem]
  by_cases a : alw k = true
  · simp [a]
  · have a' : alw k = false := by simpa using a
    rw [a']
    refine Bool.eq_iff_iff.mpr ?_
    simp [List.mem_filter]
set_option maxHeartbeats 1000000 in
theorem way2 {c : Int} {t t2 : Tok} {i who : Nat} {Q : Flow → Shared → Prop} (rm : RmL A) (S : LSt w hb L lq lt la (some (.int c t)) vS qs ts as pr s.heap m) (Y : Sync i qs ts as) (hi : i ≤ 40) (hw : m (Str.ofString "who") = some (.int who t2)) (hlt : who < qs.length) (h0 : 0 ≤ c) (h1 : c < 128)
    (h : ∀ h' tk x y oy, LSt w hb L lq lt la (some (.int c t)) (some (.ref y.a)) qs ts as ((y.a, oy) :: pr) h' (fun z => if z = Str.ofString "quoter" then some (.ref x.q) else m z) → NewQ w hb L qs y.ns h' x → LAt h' y → y.a ∉ (lq :: lt :: la :: (ts.map (·.a) ++ as.map (·.a))) → hb.get? y.a = none → y.ns.length ≤ i + 1 → Q .next { s with heap := h', toks := tk }) :
    wpAny (model prog w) A (execs way2B (lenv L fa cd)) Q E s := by
  have e1 : qs.length = ts.length := by have := congrArg List.length Y.tl; simpa using this
  have hlen := Y.len
  obtain ⟨p, x, r, eqs, hp⟩ := split_at hlt
  obtain ⟨pt, y, rt, rfl, hpt⟩ := split_at (l := ts) (j := who) (by omega)
  have ey : y.ns = x.tl := by
    have := congrArg (fun l => l[who]?) Y.tl
    rw [eqs] at this
    simp only [List.map_append, List.map_cons] at this
    rw [List.getElem?_append_right (by simp [hp]), List.getElem?_append_right (by simp [hpt])] at this
    simpa [hpt, hp] using this.symm
  subst eqs
  have mx : x ∈ p ++ x :: r := by simp
  have yr : ∀ k ∈ y.ns, 0 ≤ k ∧ k < 128 := by rw [ey]; exact (S.qat x mx).tlr
  have yl : y.ns.length ≤ i := by rw [ey]; exact Y.lt x mx
  have hl' := hlen
  simp only [List.length_append, List.length_cons] at hl'
  obtain ⟨vs, gy, iy⟩ := S.tat y (by simp)
  have vl : vs.length = y.ns.length := iy.length
  refine wpAny_execs_cons ?_
  refine wpAny_Assign_Name ?_
  refine comp_filter (cl := [(Str.ofString "c", L + 1)]) (fun b => b != c) rm.h rfl (by decide) rfl (by decide) rfl (by decide) gy.isList iy (by rw [vl]; omega) ?_ ?_ ?_
  · intro Q' hq
    refine Subscript_ ?_
    refine ll S.F.ns S.mt ?_
    refine ll S.F.ns hw ?_
    exact seq_item (f := LR.a) S.gt (by rw [hpt]) (by omega) hq
  · intro C k tk s₃ m₃ E' Q' hn hm hk hq
    refine wpAny_isTrue_Compare1 ?_
    refine wpAny_Name (wpAny_loadName_local (env := compEnvC _ _ C _) rfl rfl hn hm ?_)
    refine wpAny_Name (wpAny_loadName_cell (env := compEnvC _ _ C _) rfl rfl rfl (S.cc.keeps hk) ?_)
    exact P.ne_int (wpAny_truthy_bool (hq s₃.toks))
  · intro D h₁ tk₁ vs' nD gD iD ex₁
    obtain ⟨n₁, gD'⟩ := gD
    refine st_signs (s := { s with heap := h₁, toks := tk₁ }) (y := ⟨D, y.ns.filter fun b => b != c⟩) S nD ex₁ gD' iD fun h₂ S₂ g₂ nx fx => ?_
    have yr' : ∀ k ∈ (y.ns.filter fun b => b != c), 0 ≤ k ∧ k < 128 := fun k hk => yr k (List.mem_filter.mp hk).1
    refine wpAny_execs_cons ?_
    refine wpAny_Assign_Name ?_
    refine Call_ ?_
    refine Base.glob (w := w) S₂.B (G_quoter _) ?_
    refine callWith_K (K := K w.params) S₂.B.k (keep49 _) ?_
    refine args_cons ?_
    refine MethodCall_ ?_
    refine Attribute_any_ ?_
    refine Subscript_ ?_
    refine ll S₂.F.ns S₂.mq ?_
    refine ll S₂.F.ns hw ?_
    refine seq_item (f := QR.q) S₂.gq (by rw [hp]) (by omega) ?_
    have X := S₂.qat x mx
    obtain ⟨es, ep, gq, eo⟩ := X.obj
    obtain ⟨tk₀, gd⟩ := X.dic
    obtain ⟨n, ⟨ef, pf, tf, gf, ff⟩, hn⟩ := X.set
    refine q_get_safe (s := { s with heap := h₂, toks := tk₁ }) S₂.B.k gq gd ?_
    refine getMethod_diff gf ?_
    refine callWith_method1 ?_
    refine args_cons ?_
    refine List_ ?_
    refine args_cons ?_
    refine lc S₂.cc ?_
    refine args_nil ?_
    refine wpAny_newObj_type ?_ (by size_fits)
    refine args_nil ?_
    dsimp only
    have k₃ : Ext [] h₂ (h₂.push { cls := .type "list", data := .seq [Value.int c t].toArray }) := Ext.push _ _
    have gl : (h₂.push { cls := .type "list", data := .seq [Value.int c t].toArray }).IsList h₂.objs.size #[.int c t] := ⟨_, Heap.get?_push_size _ rfl, rfl, _, rfl⟩
    have S₃ : LSt w hb L lq lt la _ _ _ _ as _ (h₂.push { cls := .type "list", data := .seq [Value.int c t].toArray }) m := St.ext S₂ fun b o e => k₃ b o (by simp) e
    have gf₃ := k₃ _ _ (by simp) gf
    generalize h₂.push { cls := .type "list", data := .seq [Value.int c t].toArray } = h₃ at k₃ gl S₃ gf₃ ⊢
    refine call_diff (s := { s with heap := h₃, toks := tk₁ + 1 }) rm.h gf₃ ff (by omega) gl h0 h1 fun r' h₄ tk₄ n₄ ex₄ nr₄ gr₄ le₄ => ?_
    have S₄ := St.ext S₃ fun b o e => ex₄ b o (by simp) e
    refine args_nil ⟨S₄.B.k, ?_⟩
    dsimp only
    have r15 : Value.ref r' ≠ .ref 15 := fun z => by
      have z' : r' = 15 := Value.ref.inj z
      rw [z', S₃.B.s15] at nr₄; cases nr₄
    refine mk_new (s := { s with heap := h₄, toks := tk₄ }) (tl := y.ns.filter fun b => b != c) S₄ rm r15 (fun A' E' h' hh ex => gives_fs (gr₄.at fun o e => ex _ _ (by simp) e) (by omega)) (fun k => by rw [ey]; exact told_diff k) yr' fun h₅ tk₅ x' S₅ X₅ ex₅ => ?_
    refine st_quoter S₅ X₅ fun h₆ S₆ X₆ => ?_
    refine wpAny_execs_nil ?_
    exact h h₆ _ x' ⟨D, y.ns.filter fun b => b != c⟩ _ S₆ X₆ ⟨_, ⟨_, (S₆.prk _ (.head _)).1⟩, iD⟩ nx fx (Nat.le_trans (List.length_filter_le _ _) (by omega))
end
end Mine
end
section
open PySem PySem.W PyProof.Rows PySem.Calls Builtin Builtin.ObjectAttr
set_option Elab.async false
set_option linter.unusedVariables false
set_option maxRecDepth 100000
namespace Mine
theorem G_tuple (P : Params) : nsIn (K P) mainGlobals (Str.ofString "tuple") = some none := by kernel_rfl
section
variable {prog : Program} {w : World} {A : Around} {E : Value → Shared → Prop} {s : Shared} {hb : Heap} {L fa lq lt la : Addr} {cd : Value} {vC vS : Option Value} {qs : List QR} {ts as : List LR} {pr : List (Addr × Obj)} {m : PySem.Str → Option Value}
set_option maxHeartbeats 1000000 in
theorem way3 {c : Int} {t t2 : Tok} {i who : Nat} {Q : Flow → Shared → Prop} (rm : RmL A) (S : LSt w hb L lq lt la (some (.int c t)) vS qs ts as pr s.heap m) (Y : Sync i qs ts as) (hi : i ≤ 40) (hw : m (Str.ofString "who") = some (.int who t2)) (hlt : who < qs.length)
    (h : ∀ h' tk x y oy, LSt w hb L lq lt la (some (.int c t)) (some (.ref y.a)) qs ts as ((y.a, oy) :: pr) h' (fun z => if z = Str.ofString "quoter" then some (.ref x.q) else m z) → NewQ w hb L qs y.ns h' x → LAt h' y → y.a ∉ (lq :: lt :: la :: (ts.map (·.a) ++ as.map (·.a))) → hb.get? y.a = none → y.ns.length ≤ i + 1 → Q .next { s with heap := h', toks := tk }) :
    wpAny (model prog w) A (execs way3B (lenv L fa cd)) Q E s := by
  have e2 : qs.length = as.length := by have := congrArg List.length Y.ks; simpa using this
  have hlen := Y.len
  obtain ⟨p, x, r, eqs, hp⟩ := split_at hlt
  obtain ⟨pa, z, ra, rfl, hpa⟩ := split_at (l := as) (j := who) (by omega)
  have ez : z.ns = x.ks := by
    have := congrArg (fun l => l[who]?) Y.ks
    rw [eqs] at this
    simp only [List.map_append, List.map_cons] at this
    rw [List.getElem?_append_right (by simp [hp]), List.getElem?_append_right (by simp [hpa])] at this
    simpa [hpa, hp] using this.symm
  subst eqs
  have mx : x ∈ p ++ x :: r := by simp
  have zr : ∀ k ∈ z.ns, 0 ≤ k ∧ k < 256 := by rw [ez]; exact (S.qat x mx).ksr
  have zl : z.ns.length ≤ i := by rw [ez]; exact Y.lk x mx
  have hl' := hlen
  simp only [List.length_append, List.length_cons] at hl'
  obtain ⟨vs, gz, iz⟩ := S.aat z (by simp)
  have vl : vs.length = z.ns.length := iz.length
  refine wpAny_execs_cons ?_
  refine wpAny_Assign_Name ?_
  refine comp_filter (cl := []) (fun b => decide (b < 128)) rm.h rfl (by decide) rfl (by decide) rfl (by decide) gz.isList iz (by rw [vl]; omega) ?_ ?_ ?_
  · intro Q' hq
    refine Subscript_ ?_
    refine ll S.F.ns S.ma ?_
    refine ll S.F.ns hw ?_
    exact seq_item (f := LR.a) S.ga (by rw [hpa]) (by omega) hq
  · intro C k tk s₃ m₃ E' Q' hn hm hk hq
    refine wpAny_isTrue_Compare1 ?_
    refine wpAny_Name (wpAny_loadName_local (env := compEnvC _ _ C _) rfl rfl hn hm ?_)
    refine wpAny_Constant_int ?_
    exact P.lt_int (wpAny_truthy_bool (hq (s₃.toks + 1)))
  · intro D h₁ tk₁ vs' nD gD iD ex₁
    obtain ⟨n₁, gD'⟩ := gD
    refine st_signs (s := { s with heap := h₁, toks := tk₁ }) (y := ⟨D, z.ns.filter fun b => decide (b < 128)⟩) S nD ex₁ gD' iD fun h₂ S₂ g₂ nx fx => ?_
    have yr' : ∀ k ∈ (z.ns.filter fun b => decide (b < 128)), 0 ≤ k ∧ k < 128 := fun k hk => by
      have := List.mem_filter.mp hk
      exact ⟨(zr k this.1).1, by simpa using this.2⟩
    have fl : (z.ns.filter fun b => decide (b < 128)).length ≤ i := Nat.le_trans (List.length_filter_le _ _) zl
    have vl' : vs'.length = (z.ns.filter fun b => decide (b < 128)).length := iD.length
    obtain ⟨vz, gz₂, iz₂⟩ := S₂.aat z (by simp)
    have X := S₂.qat x mx
    have fin : ∀ h₅ tk₅ x', LSt w hb L lq lt la (some (.int c t)) (some (.ref D)) (p ++ x :: r) ts (pa ++ z :: ra) ((D, lstObj vs'.toArray n₁) :: pr) h₅ m → NewQ w hb L (p ++ x :: r) (z.ns.filter fun b => decide (b < 128)) h₅ x' →
        wpAny (model prog w) A (storeName (lenv L fa cd) (Str.ofString "quoter") (.ref x'.q)) (fun _ s' => Q .next s') E { s with heap := h₅, toks := tk₅ } := by
      intro h₅ tk₅ x' S₅ X₅
      refine st_quoter S₅ X₅ fun h₆ S₆ X₆ => ?_
      exact h h₆ _ x' ⟨D, z.ns.filter fun b => decide (b < 128)⟩ _ S₆ X₆ ⟨_, ⟨_, (S₆.prk _ (.head _)).1⟩, iD⟩ nx fx (by show (z.ns.filter fun b => decide (b < 128)).length ≤ i + 1; omega)
    refine wpAny_execs_cons ?_
    refine wpAny_If ?_
    refine wpAny_isTrue_Compare1 ?_
    refine ls S₂.cs ?_
    refine Subscript_ ?_
    refine ll S₂.F.ns S₂.ma ?_
    refine ll S₂.F.ns hw ?_
    refine seq_item (f := LR.a) S₂.ga (by rw [hpa]) (by omega) ?_
    refine eq_intsK (s := { s with heap := h₂, toks := tk₁ }) ⟨_, g₂, rfl, _, rfl⟩ iD gz₂.isList iz₂ (by have := rm.u; show A.units + 64 < 9900; omega) (wpAny_truthy_bool ?_)
    by_cases hE : (z.ns.filter fun b => decide (b < 128)) = z.ns
    · rw [decide_eq_true hE, if_pos rfl]
      refine wpAny_execs_cons ?_
      refine wpAny_Assign_Name ?_
      refine Call_ ?_
      refine Base.glob (w := w) S₂.B (G_quoter _) ?_
      refine callWith_K (K := K w.params) S₂.B.k (keep49 _) ?_
      refine args_cons ?_
      refine Subscript_ ?_
      refine ll S₂.F.ns S₂.mq ?_
      refine ll S₂.F.ns hw ?_
      refine seq_item (f := QR.q) S₂.gq (by rw [hp]) (by omega) ?_
      refine args_nil ⟨S₂.B.k, ?_⟩
      dsimp only
      obtain ⟨es, ep, gq, eo⟩ := X.obj
      have q15 : Value.ref x.q ≠ .ref 15 := fun zz => by
        have z' : x.q = 15 := Value.ref.inj zz
        rw [z', S₂.B.s15, o15_is] at gq
        exact absurd (congrArg Obj.cls (Option.some.inj gq)) (by simp)
      refine mk_new (s := { s with heap := h₂, toks := tk₁ }) (tl := z.ns.filter fun b => decide (b < 128)) S₂ rm q15
        (fun A' E' h' hh ex => gives_q (S₂.B.keeps fun b o e => ex b o (by simp) e) X.one hh (ex _ _ (by simp) gq) eo (by rw [← ez, ← hE]; exact yr')) (fun k => by rw [← ez, hE, contains_any]; rfl) yr' fun h₅ tk₅ x' S₅ X₅ ex₅ => ?_
      refine wpAny_mono (fin h₅ tk₅ x' S₅ X₅) (fun _ s' q => ?_) fun _ _ e => e
      exact wpAny_execs_nil (wpAny_execs_nil q)
    · rw [decide_eq_false hE, if_neg Bool.false_ne_true]
      refine wpAny_execs_cons ?_
      refine wpAny_Assign_Name ?_
      refine Call_ ?_
      refine Base.glob (w := w) S₂.B (G_quoter _) ?_
      refine callWith_K (K := K w.params) S₂.B.k (keep49 _) ?_
      refine args_cons ?_
      refine Call_ ?_
      refine Base.blt (w := w) S₂.B (G_tuple _) PyProof.Rows.Boot.tuple ?_
      refine PyProof.Rows.callWith_type1 ?_
      refine args_cons ?_
      refine ls S₂.cs ?_
      refine args_nil ?_
      refine call_tuple_list (s := { s with heap := h₂, toks := tk₁ }) (hsz := by rw [List.size_toArray, vl', sizeLine_eq]; omega) ⟨_, g₂, rfl, _, rfl⟩ fun h₃ k₃ => ?_
      have k₃' : ∀ b o, h₂.get? b = some o → (h₃.push { cls := .type "tuple", data := .seq vs'.toArray }).get? b = some o := fun b o e => Heap.get?_push_of_some _ (k₃ b o e)
      have gT : (h₃.push { cls := .type "tuple", data := .seq vs'.toArray }).get? h₃.objs.size = some (tupObj vs'.toArray) := Heap.get?_push_size _ rfl
      have S₃ := St.ext S₂ k₃'
      refine args_nil ⟨S₃.B.k, ?_⟩
      dsimp only
      have t15 : Value.ref h₃.objs.size ≠ .ref 15 := fun zz => by
        have z' : h₃.objs.size = 15 := Value.ref.inj zz
        rw [z', S₃.B.s15, o15_is] at gT
        exact absurd (congrArg Obj.cls (Option.some.inj gT)) (by simp)
      refine mk_new (s := { s with heap := h₃.push _, toks := tk₁ }) (tl := z.ns.filter fun b => decide (b < 128)) S₃ rm t15
        (fun A' E' h' hh ex => gives_tuple hh ⟨_, ex _ _ (by simp) gT, rfl, _, rfl⟩ iD yr') (fun k => by rw [contains_any]; rfl) yr' fun h₅ tk₅ x' S₅ X₅ ex₅ => ?_
      refine wpAny_mono (fin h₅ tk₅ x' S₅ X₅) (fun _ s' q => ?_) fun _ _ e => e
      exact wpAny_execs_nil (wpAny_execs_nil q)
end
end Mine
end
section
open PySem PySem.W PyProof.Rows PySem.Calls Builtin Builtin.ObjectAttr
set_option Elab.async false
set_option linter.unusedVariables false
set_option maxRecDepth 100000
namespace Mine
/-! what is refused -/
/-- a value that is no iterable -/
structure NoIter (v : Value) (T : String) : Prop where
  ty : ∀ s : Shared, s.TypeIs v T
  set : isSubtype (.type T) (.type "set") = pure false
  fs : isSubtype (.type T) (.type "frozenset") = pure false
  dict : (Value.type T == Value.type "dict") = false
  iter : typeLookup (.type T) (Str.ofString "__iter__") = pure none
  item : typeLookup (.type T) (Str.ofString "__getitem__") = pure none
  nb : (Value.type T == Value.type "builtin_function_or_method") = false
  short : (shownName T).length ≤ 1000
  nref : ∀ a, v ≠ .ref a
theorem noIter_int (k : Int) (t : Tok) : NoIter (.int k t) "int" :=
  ⟨fun s => typeIs_int s k t, PySem.F.sub_int_set, PySem.F.sub_int_frozenset, by decide, by rw [typeLookup_type, builtinLookup_eq_fast]; kernel_rfl, by rw [typeLookup_type, builtinLookup_eq_fast]; kernel_rfl, by decide, by decide +kernel, fun a e => by cases e⟩
theorem noIter_none : NoIter .none "NoneType" :=
  ⟨fun s => rfl, PySem.F.sub_NoneType_set, PySem.F.sub_NoneType_frozenset, by decide, by rw [typeLookup_type, builtinLookup_eq_fast]; kernel_rfl, by rw [typeLookup_type, builtinLookup_eq_fast]; kernel_rfl, by decide, by decide +kernel, fun a e => by cases e⟩
section
variable {prog : Program} {w : World} {A : Around} {E : Value → Shared → Prop} {s : Shared}
theorem iter_raises {v : Value} {T : String} {Q : Value → Shared → Prop} (N : NoIter v T) (hh : A.handled = none) (hE : ∀ h' tk e, Heap.NewExc s.heap h' e "TypeError" → E (.ref e) { s with heap := h', toks := tk }) :
    wpAny (model prog w) A (pyIter v) Q E s := by
  unfold pyIter
  refine wpAny_bind (wpAny_specialOf (N.ty s) N.iter ?_)
  dsimp only
  refine wpAny_bind (wpAny_specialOf (N.ty s) N.item ?_)
  dsimp only
  refine wpAny_bind (wpAny_rule (wpAny_bind (wpAny_typeNameOf' (N.ty s) N.nb (wpAny_raiseTypeError hh hE ?_))))
  show (Str.ofString _).length ≤ sizeLine
  rw [PySem.ofString_length, sizeLine_eq]
  simp only [String.length_append, toString]
  have e1 : "'".length ≤ 100 := by decide
  have e2 : "' object is not iterable".length ≤ 100 := by decide
  have := N.short
  omega
theorem union_raises {v : Value} {T : String} {a : Addr} {es : Array (Int × Value)} {ep n : Nat} {t : SetTable} {S : Int → Bool} {Q : Value → Shared → Prop} (N : NoIter v T) (hh : A.handled = none) (ho : s.heap.get? a = some (fsObj es ep t)) (x : FsOk w S n es t) (hn : 64 ≤ n)
    (hE : ∀ h₁ h' tk e, Ext [] s.heap h₁ → Heap.NewExc h₁ h' e "TypeError" → E (.ref e) { s with heap := h', toks := tk }) :
    wpAny (model prog w) A (call (.builtin "frozenset.union") [.ref a, v]) Q E s := by
  refine wpAny_call_entry Fc.slot_union (fs_type ho) Fc.entry_union ?_ (Fc.args_union _ _)
  unfold Builtin.«frozenset.union» Builtin.Frozenset.manyOthers
  refine wpAny_bind ?_
  refine PySem.bm_if_false rfl ?_
  refine wpAny_bind (m := Builtin.Frozenset.addrOf _) (wpAny_pure (wpAny_pure ?_))
  dsimp only
  refine wpAny_bind (fs_copy ho x hn fun h₁ es₁ ep₁ t₁ k₁ sz₁ g₁ x₁ W₁ => ?_)
  refine wpAny_bind (wpAny_holding ?_)
  refine wpAny_bind ?_
  rw [List.forIn_cons]
  refine wpAny_bind ?_
  refine PySem.bm_if_true (c := v != Value.ref a) (bne_iff_ne.mpr (N.nref a)) ?_
  refine wpAny_bind (m := Builtin.Frozenset.addrOf _) (wpAny_pure ?_)
  refine wpAny_bind ?_
  refine upd_iter (T := T) (N.ty _) N.set N.fs N.dict ?_
  exact iter_raises (s := { s with heap := h₁ }) N hh fun h' tk e ne => hE h₁ h' tk e (fun b o _ e => k₁ b o e) ne
end
end Mine
end
section
open PySem PySem.W PyProof.Rows PySem.Calls Builtin Builtin.ObjectAttr
set_option Elab.async false
set_option linter.unusedVariables false
set_option maxRecDepth 100000
namespace Mine
theorem tcE (v : Value) : (Code.builtin "type.__call__" ⟨[.ref 49, v], []⟩).envs = [] := by kernel_rfl
section
variable {prog : Program} {w : World} {A : Around} {E : Value → Shared → Prop} {s : Shared} {R : Result → Shared → Prop}
theorem funFrames_keeps {h h' base : Heap} {l : List Env} (hl : h.FunFrames base l) (k : ∀ b o, h.get? b = some o → h'.get? b = some o) : h'.FunFrames base l :=
  hl.of_keeps fun b o e _ => ⟨o, k b o e, rfl⟩
set_option maxHeartbeats 1000000 in
theorem make_raises {v : Value} {T : String} {outer : List Env} {Bs : Heap} (N : NoIter v T) (B : Base w s.heap) (rm : Rm A) (hfr : A.frames = some outer) (hB : Bs.StaysIn s.heap) (hff : s.heap.FunFrames Bs outer)
    (hR : ∀ h' tk e a0, Heap.FlyingW Bs outer e (.type "TypeError") a0 h' → s.heap.UpToSlots h' → R (.error (.ref e)) { s with heap := h', toks := tk }) :
    codeAny (model prog w) A (.call (.ref 49) ⟨[v], []⟩) R s := by
  refine q_make B.k ?_
  have k : ∀ b o, s.heap.get? b = some o → ((s.heap.push (dictOf [] 0)).push (qObj s.heap.objs.size #[] 0)).get? b = some o := fun b o e => Heap.get?_push_of_some _ (Heap.get?_push_of_some _ e)
  generalize (s.heap.push (dictOf [] 0)).push (qObj s.heap.objs.size #[] 0) = hp at k ⊢
  refine call_two (s := { s with heap := hp }) (B.keeps k) ?_ (K32 _) (C32 _) rfl (bind32 _ _) (by decide) ⟨rfl, rfl⟩ rfl rfl rfl fun h₁ F => ?_
  · show A.depth + (Code.builtin "type.__call__" ⟨[.ref 49, v], []⟩).weight < 1000
    rw [tcW]; have := rm.d; omega
  have B₁ : Base w h₁ := (B.keeps k).keeps F.keep
  obtain ⟨es, ep, t, ho, x⟩ := B₁.fs
  refine wpAny_execs_cons ?_
  refine plainObj_wpAny_Assign_Attribute ?_
  refine MethodCall_ ?_
  refine Base.glob (s := { s with heap := h₁, toks := s.toks + 2 }) B₁ (G_safe _) ?_
  refine getMethod_union ho ?_
  refine callWith_method1 ?_
  refine args_cons ?_
  refine ldc rfl rfl F.ns rfl ?_
  refine args_nil ?_
  refine union_raises (s := { s with heap := h₁, toks := s.toks + 2 }) N rm.h ho x (by decide) fun h₂ h₃ tk e ex ne => ?_
  have k₂ : ∀ b o, s.heap.get? b = some o → h₂.get? b = some o := fun b o q => ex b o (by simp) (F.keep b o (k b o q))
  have k₃ : ∀ b o, s.heap.get? b = some o → h₃.get? b = some o := fun b o q => ne.keeps b o (k₂ b o q)
  have hB₃ : Bs.StaysIn h₃ := fun b o q => k₃ b o (hB b o q)
  have fB : ∀ {a : Addr}, s.heap.get? a = none → Bs.get? a = none := fun {a} q => by
    cases z : Bs.get? a with
    | none => rfl
    | some o => have := hB a o z; rw [q] at this; cases this
  have hL : s.heap.get? hp.objs.size = none := by
    cases z : s.heap.get? hp.objs.size with
    | none => rfl
    | some o => have := Heap.lt_size (k _ _ z); exact absurd this (Nat.lt_irrefl _)
  have hen : s.heap.get? e = none := by
    cases z : s.heap.get? e with
    | none => rfl
    | some o => have := k₂ _ _ z; rw [ne.new] at this; cases this
  obtain ⟨oL, eL, pL, gL, dL, _⟩ := F.ns
  obtain ⟨ob, a0, ge, ce, de⟩ := ne.there
  have hfr' : ((A.under (.builtin "type.__call__" ⟨[.ref 49, v], []⟩)).deeper (callEnv fd32 hp.objs.size 32)).frames = some (callEnv fd32 hp.objs.size 32 :: outer) := by
    refine Around.frames_deeper ?_
    show pushEnvs (Code.builtin "type.__call__" ⟨[.ref 49, v], []⟩).envs A.frames = _
    rw [tcE]; exact hfr
  refine wpAny_leaving_firstW (base := Bs) (L := hp.objs.size) hfr' ?_ rfl ge hB₃ (fB hen) de rfl rfl fun h₄ q => ?_
  · exact ⟨(show ScopeKind.function ≠ ScopeKind.module by decide), ⟨hp.objs.size, oL, rfl, fB hL, ne.keeps _ _ (ex _ _ (by simp) gL), fun vs z => by rw [dL] at z; cases z⟩, funFrames_keeps hff k₃⟩
  · obtain ⟨q1, q2, q3, q4⟩ := q
    rw [ce] at q3
    exact hR h₄ tk e a0 ⟨q1, fB hen, q2.2.2, q3⟩ ((Heap.UpToSlots.of_keeps k₃).trans q4)
end
end Mine
end
section
open PySem PySem.W PyProof.Rows PySem.Calls Builtin Builtin.ObjectAttr
set_option Elab.async false
set_option linter.unusedVariables false
set_option maxRecDepth 100000
namespace Mine
section
variable {prog : Program} {w : World} {A : Around} {E : Value → Shared → Prop} {s : Shared} {hb : Heap} {L fa lq lt la : Addr} {cd : Value} {vC vS : Option Value} {qs : List QR} {ts as : List LR} {pr : List (Addr × Obj)} {m : PySem.Str → Option Value}
theorem St.locK {cC cS : Addr} {h h' : Heap} (s : St w hb L cC cS lq lt la vC vS qs ts as pr h m) (hn : h'.Ns L m) (sb : ∀ b o, b ≠ L → h.get? b = some o → h'.get? b = some o) : St w hb L cC cS lq lt la vC vS qs ts as pr h' m := by
  obtain ⟨oL, gL, kL⟩ := ns_kd s.F.ns
  have k : ∀ {b o}, h.get? b = some o → kd o ≠ 4 → kd o ≠ 5 → h'.get? b = some o := fun {b o} e k4 k5 => sb b o (ne_kind e gL (by rcases kL with z | z <;> rw [z] <;> assumption)) e
  have kp : ∀ {a ys}, h.PlainList a ys → h'.PlainList a ys := fun {a ys} x => x.at fun o e => by
    obtain ⟨o', e', z⟩ := plain_kd x; rw [e] at e'; cases e'; exact k e (by rw [z]; decide) (by rw [z]; decide)
  have kl : ∀ {x : LR}, LAt h x → LAt h' x := fun {x} ⟨vs, g, r⟩ => ⟨vs, kp g, r⟩
  have kc : ∀ {a v}, h.IsCell a v → h'.IsCell a v := fun {a v} x => by
    obtain ⟨o', e', z⟩ := cell_kd x
    obtain ⟨o, e, d⟩ := x
    rw [e] at e'; cases e'
    exact ⟨_, k e (by rw [z]; decide) (by rw [z]; decide), d⟩
  exact { s with
    F := ⟨hn, fun b o e => sb b o (fun q => by rw [q, s.fL] at e; cases e) (s.F.keep b o e), s.F.above⟩, gq := kp s.gq, gt := kp s.gt, ga := kp s.ga, cc := kc s.cc, cs := kc s.cs
    qat := fun x hx =>
      { one := (s.qat x hx).one
        obj := let ⟨es, ep, g, e⟩ := (s.qat x hx).obj; ⟨es, ep, sb _ _ (s.off x hx).1 g, e⟩
        dic := let ⟨tk, g⟩ := (s.qat x hx).dic; ⟨tk, sb _ _ (s.off x hx).2 g⟩
        set := let ⟨n, ⟨es, ep, t, g, r⟩, e⟩ := (s.qat x hx).set; ⟨n, ⟨es, ep, t, k g (by show 3 ≠ 4; decide) (by show 3 ≠ 5; decide), r⟩, e⟩
        tlr := (s.qat x hx).tlr
        ksr := (s.qat x hx).ksr }
    tat := fun x hx => kl (s.tat x hx), aat := fun x hx => kl (s.aat x hx)
    prk := fun p hp => ⟨k (s.prk p hp).1 (by rcases (s.prk p hp).2.2 with z | z | z <;> rw [z] <;> decide) (by rcases (s.prk p hp).2.2 with z | z | z <;> rw [z] <;> decide), (s.prk p hp).2⟩ }
theorem Sync.more {i : Nat} (Y : Sync i qs ts as) : Sync (i + 1) qs ts as :=
  ⟨Y.tl, Y.ks, Y.pos, Nat.le_succ_of_le Y.len, fun x hx => Nat.le_succ_of_le (Y.lt x hx), fun x hx => Nat.le_succ_of_le (Y.lk x hx)⟩
theorem G_te (P : Params) : nsIn (K P) mainGlobals (Str.ofString "TypeError") = some none := by kernel_rfl
def way4B : List Stmt := ifB (hd1 (ifE (hd1 (turnB.drop 4))))
def tryH : Stmt → List ExceptHandler
  | .Try _ h _ _ _ => h
  | _ => []
/-- the refusal comes to the law's own handler -/
theorem caught {B₀ : Heap} {s' : Shared} {e : Addr} {a0 : Value} {Q : Flow → Shared → Prop} (hfr : A.frames = some [lenv L fa cd]) (S : LSt w hb L lq lt la vC vS qs ts as pr s.heap m) (hB : B₀ = hideAll s.heap [L]) (hs : ∃ h' tk, s' = { s with heap := h', toks := tk })
    (hfl : Heap.FlyingW B₀ [lenv L fa cd] e (.type "TypeError") a0 s'.heap) (up : s.heap.UpToSlots s'.heap)
    (h : ∀ h' tk, LSt w hb L lq lt la vC vS qs ts as pr h' m → Q .next { s with heap := h', toks := tk }) :
    wpAny (model prog w) A (noteFrame (.ref e) (lenv L fa cd)) (fun _ s₂ => wpAny (model prog w) A (setFlight (.ref e) none) (fun _ s₃ =>
      wpAny (model prog w) A (handleBy (.ref e) (lenv L fa cd) (tryH (hd1 way4B))) Q E s₃) E s₂) E s' := by
  obtain ⟨h₀, tk₀, rfl⟩ := hs
  have kB : ∀ b o, b ≠ L → s.heap.get? b = some o → B₀.get? b = some o := fun b o ne e => by rw [hB]; exact hideAll_get _ e (by simpa using ne)
  have kb : ∀ b o, hb.get? b = some o → B₀.get? b = some o := fun b o e => kB b o (fun q => by rw [q, S.fL] at e; cases e) (S.F.keep b o e)
  refine wpAny_looks_onW hfr rfl hfl fun h₁ x₁ u₁ => ?_
  refine wpAny_landsW x₁ fun h₂ x₂ u₂ => ?_
  obtain ⟨ob, gob, cob⟩ := x₂.there
  refine wpAny_handleBy_builtin (X := "TypeError") (T := "TypeError") (b := true) F.isExc_TypeError F.notTuple_TypeError (by rw [isSubtype_type]; kernel_rfl) ?_
  have B₂ : Base w h₂ := S.base.keeps fun b o e => x₂.1 b o (kb b o e)
  refine Base.blt (s := { s with heap := h₂, toks := tk₀ }) B₂ (G_te _) PyProof.Rows.Boot.«TypeError» ⟨rfl, ⟨ob, gob, cob⟩, ?_⟩
  refine lands_againW x₂ fun h₃ x₃ u₃ => ?_
  refine wpAny_execs_cons ?_
  refine wpAny_Pass ?_
  refine wpAny_execs_nil ?_
  refine h h₃ tk₀ (St.locK S ?_ fun b o ne e => x₃.1 b o (kB b o ne e))
  exact (((up.trans u₁).trans u₂).trans u₃).ns S.F.ns
set_option maxHeartbeats 1000000 in
theorem way4 {c kk : Int} {t t3 : Tok} {Q : Flow → Shared → Prop} (rm : RmL A) (hfr : A.frames = some [lenv L fa cd]) (S : LSt w hb L lq lt la (some (.int c t)) vS qs ts as pr s.heap m) (hk : m (Str.ofString "k") = some (.int kk t3))
    (h : ∀ h' tk, LSt w hb L lq lt la (some (.int c t)) vS qs ts as pr h' m → Q .next { s with heap := h', toks := tk }) :
    wpAny (model prog w) A (execs way4B (lenv L fa cd)) Q E s := by
  refine wpAny_execs_cons ?_
  refine wpAny_Try_except ?_
  refine wpAny_execs_cons ?_
  refine wpAny_If ?_
  refine wpAny_isTrue_Compare1 ?_
  refine wpAny_BinOp ?_
  refine ll S.F.ns hk ?_
  refine wpAny_Constant_int ?_
  refine mod_int' (by decide) ?_
  refine wpAny_Constant_int ?_
  dsimp only
  refine P.eq_int (wpAny_truthy_bool ?_)
  obtain ⟨oL, eL, pL, gL, dL, _⟩ := id S.F.ns
  have ff : s.heap.FunFrames (hideAll s.heap [L]) [lenv L fa cd] := ⟨(show ScopeKind.function ≠ ScopeKind.module by decide), ⟨L, oL, rfl, hideAll_none _ (.head _), gL, fun vs z => by rw [dL] at z; cases z⟩, trivial⟩
  have boom : ∀ {v T} {tk : Nat} {Q' : Value → Shared → Prop}, NoIter v T → wpAny (model prog w) A (call (.ref 49) [v]) Q' (fun e s₁ => wpAny (model prog w) A (noteFrame e (lenv L fa cd)) (fun _ s₂ => wpAny (model prog w) A (setFlight e none) (fun _ s₃ =>
      wpAny (model prog w) A (handleBy e (lenv L fa cd) (tryH (hd1 way4B))) (fun f s' => match f with | .next => wpAny (model prog w) A (execs [] (lenv L fa cd)) Q E s' | f => Q f s') E s₃) E s₂) E s₁) { s with toks := tk } := by
    intro v T tk Q' N
    refine wpAny_call (make_raises (s := { s with toks := tk }) (Bs := hideAll s.heap [L]) N S.B rm.rm hfr (fun b o e => of_hideAll _ e) ff fun h' tk' e a0 fl up => ?_)
    exact caught (s := s) hfr S rfl ⟨_, _, rfl⟩ fl up fun h₂ tk₂ S₂ => wpAny_execs_nil (h h₂ tk₂ S₂)
  by_cases z : (kk.fmod 2 == 0) = true
  · rw [if_pos z]
    refine wpAny_execs_cons ?_
    refine wpAny_Expr ?_
    refine Call_ ?_
    refine Base.glob (w := w) (env := lenv L fa cd) (s := { s with toks := s.toks + 1 + 1 + 1 }) S.B (G_quoter _) ?_
    refine callWith_K (K := K w.params) S.B.k (keep49 _) ?_
    refine args_cons ?_
    refine lc (s := { s with toks := s.toks + 1 + 1 + 1 }) S.cc ?_
    refine args_nil ⟨S.B.k, ?_⟩
    exact boom (noIter_int c t)
  · rw [if_neg z]
    refine wpAny_execs_cons ?_
    refine wpAny_Expr ?_
    refine Call_ ?_
    refine Base.glob (w := w) (env := lenv L fa cd) (s := { s with toks := s.toks + 1 + 1 + 1 }) S.B (G_quoter _) ?_
    refine callWith_K (K := K w.params) S.B.k (keep49 _) ?_
    refine args_cons ?_
    refine wpAny_Constant_none ?_
    refine args_nil ⟨S.B.k, ?_⟩
    exact boom noIter_none
end
end Mine
end
section
open PySem PySem.W PyProof.Rows PySem.Calls Builtin Builtin.ObjectAttr
set_option Elab.async false
set_option linter.unusedVariables false
set_option maxRecDepth 100000
namespace Mine
section
variable {prog : Program} {w : World} {A : Around} {E : Value → Shared → Prop} {s : Shared} {hb : Heap} {L fa lq lt la : Addr} {cd : Value} {vC vS : Option Value} {qs : List QR} {ts as : List LR} {pr : List (Addr × Obj)} {m : PySem.Str → Option Value}
theorem fmod_in {a b : Int} (h : 0 < b) : 0 ≤ a.fmod b ∧ a.fmod b < b := by
  rw [Int.fmod_eq_emod_of_nonneg _ (by omega)]
  exact ⟨Int.emod_nonneg _ (by omega), Int.emod_lt_of_pos _ h⟩
set_option maxHeartbeats 1000000 in
theorem else_part {c : Int} {t t1 t2 : Tok} {i who : Nat} {way : Int} {Q : Flow → Shared → Prop} (rm : RmL A) (S : LSt w hb L lq lt la (some (.int c t)) vS qs ts as pr s.heap m) (Y : Sync i qs ts as) (hi : i ≤ 40) (hy : m (Str.ofString "way") = some (.int way t1)) (hw : m (Str.ofString "who") = some (.int who t2)) (hlt : who < qs.length)
    (h : ∀ h' tk m' vC' vS' qs' ts' as', LSt w hb L lq lt la vC' vS' qs' ts' as' pr h' m' → Sync (i + 1) qs' ts' as' → Q .next { s with heap := h', toks := tk }) :
    wpAny (model prog w) A (execs elseB (lenv L fa cd)) Q E s := by
  refine wpAny_execs_cons ?_
  refine wpAny_Assign_Name ?_
  refine wpAny_BinOp ?_
  refine lc S.cc ?_
  refine wpAny_Constant_int ?_
  refine mod_int' (by decide) ?_
  have cr := fmod_in (a := c) (b := 128) (by decide)
  refine lcst S fun h₁ S₁ => ?_
  dsimp only
  generalize c.fmod 128 = c' at cr S₁ ⊢
  have fin : ∀ h' tk x y oy, LSt w hb L lq lt la (some (.int c' (s.toks + 1))) (some (.ref y.a)) qs ts as ((y.a, oy) :: pr) h' (fun z => if z = Str.ofString "quoter" then some (.ref x.q) else m z) → NewQ w hb L qs y.ns h' x → LAt h' y → y.a ∉ (lq :: lt :: la :: (ts.map (·.a) ++ as.map (·.a))) → hb.get? y.a = none → y.ns.length ≤ i + 1 →
      wpAny (model prog w) A (execs (elseB.drop 2) (lenv L fa cd)) Q E { s with heap := h', toks := tk } := by
    intro h' tk x y oy S' X' Z' nx fx hl
    exact take_in (s := { s with heap := h', toks := tk }) S' Y hi X' Z' nx fx (if_pos rfl) hl fun h₂ tk₂ qs' ts' as' S₂ Y₂ => h h₂ tk₂ _ _ _ _ _ _ S₂ Y₂
  refine wpAny_execs_cons ?_
  refine wpAny_If ?_
  refine wpAny_isTrue_Compare1 ?_
  refine ll S₁.F.ns hy ?_
  refine wpAny_Constant_int ?_
  refine P.eq_int (wpAny_truthy_bool ?_)
  by_cases z1 : (way == 1) = true
  · rw [if_pos z1]
    exact way1 (s := { s with heap := h₁, toks := s.toks + 1 + 1 + 1 }) rm S₁ Y hi hw hlt cr.1 cr.2 fin
  · rw [if_neg z1]
    refine wpAny_execs_cons ?_
    refine wpAny_If ?_
    refine wpAny_isTrue_Compare1 ?_
    refine ll S₁.F.ns hy ?_
    refine wpAny_Constant_int ?_
    refine P.eq_int (wpAny_truthy_bool ?_)
    by_cases z2 : (way == 2) = true
    · rw [if_pos z2]
      refine way2 (s := { s with heap := h₁, toks := s.toks + 1 + 1 + 1 + 1 }) rm S₁ Y hi hw hlt cr.1 cr.2 fun h' tk x y oy S' X' Z' nx fx hl => ?_
      exact wpAny_execs_nil (fin h' tk x y oy S' X' Z' nx fx hl)
    · rw [if_neg z2]
      refine way3 (s := { s with heap := h₁, toks := s.toks + 1 + 1 + 1 + 1 }) rm S₁ Y hi hw hlt fun h' tk x y oy S' X' Z' nx fx hl => ?_
      exact wpAny_execs_nil (fin h' tk x y oy S' X' Z' nx fx hl)
set_option maxHeartbeats 1000000 in
theorem turn {n : Int} {t : Tok} {i : Nat} {Q : Flow → Shared → Prop} (rm : RmL A) (hfr : A.frames = some [lenv L fa cd]) (S : LSt w hb L lq lt la vC vS qs ts as pr s.heap m) (Y : Sync i qs ts as) (hi : i ≤ 40) (hn : m (Str.ofString "n") = some (.int n t))
    (h : ∀ h' tk m' vC' vS' qs' ts' as', LSt w hb L lq lt la vC' vS' qs' ts' as' pr h' m' → Sync (i + 1) qs' ts' as' → Q .next { s with heap := h', toks := tk }) :
    wpAny (model prog w) A (execs turnB (lenv L fa cd)) Q E s := by
  have hlen := Y.len
  have hpos := Y.pos
  refine turn_head S hn hpos (by omega) fun h₁ tk₁ m₁ t1 t2 t3 t4 S₁ e1 e2 e3 => ?_
  have wr := fmod_in (a := n.fdiv 5) (b := (qs.length : Int)) (by omega)
  have cr := fmod_in (a := 47 + (n.fdiv 5).fdiv qs.length) (b := 256) (by decide)
  generalize (47 + (n.fdiv 5).fdiv qs.length).fmod 256 = c at S₁ cr
  generalize (n.fdiv 5).fdiv qs.length = kk at e3
  obtain ⟨who, ew⟩ : ∃ who : Nat, (n.fdiv 5).fmod qs.length = (who : Int) := ⟨((n.fdiv 5).fmod qs.length).toNat, by omega⟩
  rw [ew] at e2 wr
  generalize n.fmod 5 = way at e1
  have hlt : who < qs.length := by omega
  refine wpAny_execs_cons ?_
  refine wpAny_If ?_
  refine wpAny_isTrue_Compare1 ?_
  refine ll (s := { s with heap := h₁, toks := tk₁ }) S₁.F.ns e1 ?_
  refine wpAny_Constant_int ?_
  refine P.eq_int (wpAny_truthy_bool ?_)
  by_cases z0 : (way == 0) = true
  · rw [if_pos z0]
    refine way0 (s := { s with heap := h₁, toks := tk₁ + 1 }) rm S₁ Y hi e2 hlt cr.1 cr.2 fun h' tk qs' as' S' Y' => ?_
    exact wpAny_execs_nil (h h' tk _ _ _ _ _ _ S' Y')
  · rw [if_neg z0]
    refine wpAny_execs_cons ?_
    refine wpAny_If ?_
    refine wpAny_isTrue_Compare1 ?_
    refine ll (s := { s with heap := h₁, toks := tk₁ + 1 }) S₁.F.ns e1 ?_
    refine wpAny_Constant_int ?_
    refine P.eq_int (wpAny_truthy_bool ?_)
    by_cases z4 : (way == 4) = true
    · rw [if_pos z4]
      refine way4 (s := { s with heap := h₁, toks := tk₁ + 1 + 1 }) rm hfr S₁ e3 fun h' tk S' => ?_
      exact wpAny_execs_nil (wpAny_execs_nil (h h' tk _ _ _ _ _ _ S' Y.more))
    · rw [if_neg z4]
      refine else_part (s := { s with heap := h₁, toks := tk₁ + 1 + 1 }) rm S₁ Y hi e1 e2 hlt fun h' tk m' vC' vS' qs' ts' as' S' Y' => ?_
      exact wpAny_execs_nil (wpAny_execs_nil (h h' tk _ _ _ _ _ _ S' Y'))
end
end Mine
end
section
open PySem PySem.W PyProof.Rows PySem.Calls Builtin Builtin.ObjectAttr
set_option Elab.async false
set_option linter.unusedVariables false
set_option maxRecDepth 100000
namespace Mine
section
variable {prog : Program} {w : World} {A : Around} {E : Value → Shared → Prop} {s : Shared} {hb : Heap} {L fa lq lt la : Addr} {cd : Value} {vC vS : Option Value} {qs : List QR} {ts as : List LR} {pr : List (Addr × Obj)} {m : PySem.Str → Option Value}
/-- a change at a record (an iterator): all else stands -/
theorem St.chg0 {cC cS I : Addr} {h h' : Heap} {oI : Obj} (s : St w hb L cC cS lq lt la vC vS qs ts as pr h m) (gI : h.get? I = some oI) (kI : kd oI = 0) (fI : hb.get? I = none) (np : ∀ p ∈ pr, p.1 ≠ I) (k : ∀ b o, b ≠ I → h.get? b = some o → h'.get? b = some o) : St w hb L cC cS lq lt la vC vS qs ts as pr h' m := by
  have O : Off w h h' I := off_of k gI (by rw [kI]; decide) (by rw [kI]; decide)
  have lne : ∀ {a ys}, h.PlainList a ys → a ≠ I := fun p => by obtain ⟨o, e, z⟩ := plain_kd p; exact ne_kind e gI (by rw [z, kI]; decide)
  have yne : ∀ {y : LR}, LAt h y → y.a ≠ I := fun ⟨vs, p, _⟩ => lne p
  have cne : ∀ {c v}, h.IsCell c v → c ≠ I := fun p => by obtain ⟨o, e, z⟩ := cell_kd p; exact ne_kind e gI (by rw [z, kI]; decide)
  exact { s with
    F := fr_off s.F k fI gI (s.neL gI (by rw [kI]; decide) (by rw [kI]; decide))
    gq := O.pl (lne s.gq) s.gq, gt := O.pl (lne s.gt) s.gt, ga := O.pl (lne s.ga) s.ga, cc := O.ce (cne s.cc) s.cc, cs := O.ce (cne s.cs) s.cs
    qat := fun x hx => O.qa (s.qne gI (by rw [kI]; decide) x hx) (s.qat x hx)
    tat := fun x hx => O.la (yne (s.tat x hx)) (s.tat x hx), aat := fun x hx => O.la (yne (s.aat x hx)) (s.aat x hx)
    prk := fun p hp => ⟨k _ _ (np p hp) (s.prk p hp).1, (s.prk p hp).2⟩ }
theorem iter_kd {h : Heap} {I l : Addr} {i : Nat} (x : h.IsListIter I l i) : ∃ o, h.get? I = some o ∧ kd o = 0 := let ⟨o, e, _, d⟩ := x; ⟨o, e, by unfold kd; rw [d]⟩
def mainF : Stmt := hd1 (lawB.drop 3)
set_option maxHeartbeats 2000000 in
theorem main_loop {lsc : Addr} {vs : List Value} {ns : List Int} {Q : Flow → Shared → Prop} (rm : RmL A) (hfr : A.frames = some [lenv L fa cd]) (S : LSt w hb L lq lt la vC vS qs ts as [] s.heap m) (Y : Sync 0 qs ts as) (hsc : m (Str.ofString "script") = some (.ref lsc)) (hL : s.heap.IsList lsc vs.toArray) (iv : IntsAre vs ns) (hlen : ns.length ≤ 63)
    (h : ∀ h' tk m' vC' vS' qs' ts' as' i, i ≤ 30 → LSt w hb L lq lt la vC' vS' qs' ts' as' [] h' m' → Sync i qs' ts' as' → Q .next { s with heap := h', toks := tk }) :
    wpAny (model prog w) A (exec mainF (lenv L fa cd)) Q E s := by
  have vl : vs.length = ns.length := iv.length
  refine wpAny_For ?_
  refine Subscript_ ?_
  refine ll S.F.ns hsc ?_
  refine wpAny_Slice ?_
  refine wpAny_pure ?_
  refine wpAny_Constant_int (k := 0) (pos := ⟨24, 21, 24, 23⟩) ?_
  refine wpAny_pure ?_
  dsimp only
  have k₁ : ∀ b o, s.heap.get? b = some o → (s.heap.push { cls := .type "slice", data := .fields #[.none, .int 30 s.toks, .none] }).get? b = some o := fun b o e => Heap.get?_push_of_some _ e
  have gs : (s.heap.push { cls := .type "slice", data := .fields #[.none, .int 30 s.toks, .none] }).IsSliceOf s.heap.objs.size .none (.int 30 s.toks) .none := Heap.IsSliceOf.new ..
  have hL₁ := PyProof.Rows.lstKept hL k₁
  have S₁ := St.ext S k₁
  generalize s.heap.push { cls := .type "slice", data := .fields #[.none, .int 30 s.toks, .none] } = h₁ at k₁ gs hL₁ S₁ ⊢
  refine subscriptTail_ops (s := { s with heap := h₁, toks := s.toks + 1 }) (ops := [.ref s.heap.objs.size, .ref lsc]) hL₁.typeIs list_getitem_lookup ?_ rfl (fun _ => rfl)
  refine wpAny_getItem_list_slice (s := { s with heap := h₁, toks := s.toks + 1 }) (hsz := by rw [List.size_toArray, vl, sizeLine_eq]; omega) hL₁ gs .none (.int 30 s.toks) .none (by simp) ?_
  have i₂ := slice_ints_uptoW iv (y := 30) (by decide)
  generalize slicePick vs.toArray none (some 30) none = ws at i₂ ⊢
  have gl : (h₁.push { cls := .type "list", data := .seq ws }).IsList h₁.objs.size ws := ⟨_, Heap.get?_push_size _ rfl, rfl, _, rfl⟩
  have gp : (h₁.push { cls := .type "list", data := .seq ws }).get? h₁.objs.size = some { cls := .type "list", data := .seq ws } := Heap.get?_push_size _ rfl
  have nsl : h₁.get? h₁.objs.size = none := get_size _
  have nin := St.notIn S₁ nsl
  have S₂ : LSt w hb L lq lt la vC vS qs ts as [(h₁.objs.size, { cls := .type "list", data := .seq ws })] (h₁.push { cls := .type "list", data := .seq ws }) m := St.addPr (St.ext S₁ fun b o e => Heap.get?_push_of_some _ e) gp (fun z => nin (by
    simp only [List.mem_cons, List.mem_append] at z ⊢
    rcases z with z | z | z | z
    · exact .inl z
    · exact .inr (.inl z)
    · exact .inr (.inr (.inl z))
    · exact .inr (.inr (.inr (.inr z))))) (.inr (.inl (kd_list _ _)))
  dsimp only
  generalize h₁.push { cls := .type "list", data := .seq ws } = h₂ at gl gp S₂ ⊢
  generalize h₁.objs.size = sl at gl gp S₂ nin ⊢
  refine wpAny_pyIter_list (s := { s with heap := h₂, toks := s.toks + 1 }) gl ?_
  dsimp only
  have sll : sl < h₂.objs.size := Heap.lt_size gp
  have nI : h₂.get? h₂.objs.size = none := get_size _
  have S₃ : LSt w hb L lq lt la vC vS qs ts as _ (h₂.push { cls := .type "list_iterator", data := .fields #[.ref sl, .int 0 0] }) m := St.ext S₂ fun b o e => Heap.get?_push_of_some _ e
  have gI : (h₂.push { cls := .type "list_iterator", data := .fields #[.ref sl, .int 0 0] }).IsListIter h₂.objs.size sl 0 := ⟨_, Heap.get?_push_size _ rfl, rfl, rfl⟩
  have W := Walks.list (prog := prog) (w := w) (A := A) rm.h h₂.objs.size sl (Nat.ne_of_lt sll) ws
  have fI : hb.get? h₂.objs.size = none := fresh_b (S := True) S₂.F nI
  have slI : sl ≠ h₂.objs.size := Nat.ne_of_lt sll
  have nin' : h₂.objs.size ∉ (lq :: lt :: la :: (ts.map (·.a) ++ as.map (·.a))) := St.notIn S₂ nI
  generalize h₂.push { cls := .type "list_iterator", data := .fields #[.ref sl, .int 0 0] } = h₃ at S₃ gI ⊢
  generalize h₂.objs.size = I at gI W fI slI ⊢
  have wl : ws.size ≤ 30 := by
    have := i₂.length
    rw [← Array.length_toList, this, List.length_take]
    have : (30 : Int).toNat = 30 := rfl
    omega
  refine codeAny_forLoop (fun k s' => ∃ h' tk m' vC' vS' qs' ts' as' i, s' = { s with heap := h', toks := tk } ∧ LSt w hb L lq lt la vC' vS' qs' ts' as' [(sl, { cls := .type "list", data := .seq ws })] h' m' ∧ Sync i qs' ts' as' ∧ h'.IsListIter I sl i ∧ i ≤ ws.size ∧ k = ws.size + 1 - i) ?_ (ws.size + 1)
    ⟨h₃, _, m, vC, vS, qs, ts, as, 0, rfl, S₃, Y, gI, Nat.zero_le _, rfl⟩
  rintro k s' ⟨h', tk, m', vC', vS', qs', ts', as', i, rfl, S', Y', gI', hi, rfl⟩
  have gl' : h'.IsList sl ws := ⟨_, (S'.prk _ (.head _)).1, rfl, _, rfl⟩
  obtain ⟨oI, goI, koI⟩ := iter_kd gI'
  by_cases hlt : i < ws.size
  · refine W.item i _ _ _ hlt ⟨gI', gl'⟩ fun v h₄ tk₄ hP st₄ k₄ => ?_
    have S₄ := St.chg0 S' goI koI fI (fun p hp => by rw [List.mem_singleton] at hp; subst hp; exact slI) fun b o ne e => k₄ b o (by simpa using ne) e
    obtain ⟨n, t, rfl, _⟩ := ints_at i₂ (by simpa using hP)
    refine wpAny_assign_Name ?_
    obtain ⟨oJ, goJ, koJ⟩ := iter_kd st₄.1
    have nJ : I ∉ (lq :: lt :: la :: as'.map (·.a)) := fun z => by
      have ne : ∀ {a ys}, h₄.PlainList a ys → a ≠ I := fun p => by obtain ⟨o, e, z⟩ := plain_kd p; exact ne_kind e goJ (by rw [z, koJ]; decide)
      simp only [List.mem_cons, List.mem_map] at z
      rcases z with z | z | z | ⟨u, hu, z⟩
      · exact ne S₄.gq z.symm
      · exact ne S₄.gt z.symm
      · exact ne S₄.ga z.symm
      · obtain ⟨us, pu, _⟩ := S₄.aat u hu; exact ne pu z
    refine lst (s := { s with heap := h₄, toks := tk₄ }) (St.addPr S₄ goJ nJ (.inl koJ)) fun h₅ S₅ => ?_
    refine turn (s := { s with heap := h₅, toks := tk₄ + 1 }) rm hfr S₅ Y' (by omega) (if_pos rfl) fun h₆ tk₆ m₆ vC₆ vS₆ qs₆ ts₆ as₆ S₆ Y₆ => ?_
    refine ⟨ws.size + 1 - (i + 1), by omega, h₆, tk₆, m₆, vC₆, vS₆, qs₆, ts₆, as₆, i + 1, rfl, St.delPr S₆, Y₆, ?_, hlt, rfl⟩
    obtain ⟨oK, e1, e2, e3⟩ := st₄.1
    rw [e1] at goJ
    cases goJ
    exact ⟨_, (S₆.prk _ (.head _)).1, e2, e3⟩
  · obtain rfl : i = ws.size := by omega
    refine W.done _ _ _ ⟨gI', gl'⟩ fun h₄ tk₄ k₄ => ?_
    have S₄ := St.chg0 S' goI koI fI (fun p hp => by rw [List.mem_singleton] at hp; subst hp; exact slI) fun b o ne e => k₄ b o (by simpa using ne) e
    refine wpAny_execs_nil ?_
    exact h h₄ tk₄ _ _ _ _ _ _ _ wl (St.delPr S₄) Y'
end
end Mine
end
section
open PySem PySem.W PyProof.Rows PySem.Calls Builtin Builtin.ObjectAttr
set_option Elab.async false
set_option linter.unusedVariables false
set_option maxRecDepth 100000
namespace Mine
/-! zip of three lists -/
abbrev zipObj (f0 : Value) (TI TO : Addr) : Obj := { cls := .type "zip", dict := none, data := .fields #[f0, .bool false, .bool false, .ref TI, .ref TO], slots := #[] }
theorem ne_cls {h : Heap} {a b : Addr} {o o' : Obj} (ha : h.get? a = some o) (hb : h.get? b = some o') (k : o.cls ≠ o'.cls) : a ≠ b := fun e => by
  rw [e, hb] at ha; cases ha; exact k rfl
structure Zs (h : Heap) (z TI TO i1 i2 i3 l1 l2 l3 : Addr) (f0 : Value) (i : Nat) : Prop where
  z : h.get? z = some (zipObj f0 TI TO)
  ti : h.get? TI = some (tupObj #[.ref i1, .ref i2, .ref i3])
  to : ∃ a b c, h.get? TO = some (tupObj #[a, b, c])
  g1 : h.IsListIter i1 l1 i
  g2 : h.IsListIter i2 l2 i
  g3 : h.IsListIter i3 l3 i
structure Zd (TI TO i1 i2 i3 : Addr) : Prop where
  t : TI ≠ TO
  a : i1 ≠ i2
  b : i1 ≠ i3
  c : i2 ≠ i3
section
variable {prog : Program} {w : World} {A : Around} {E : Value → Shared → Prop} {s : Shared} {z TI TO i1 i2 i3 l1 l2 l3 : Addr} {i : Nat} {xs ys zs : Array Value} {x y u : Value}
theorem upd3 {T : Addr} {a b c v : Value} {k : Nat} {Q : Unit → Shared → Prop} (hT : s.heap.get? T = some (tupObj #[a, b, c]))
    (h : ∀ h', h'.get? T = some (tupObj ((#[a, b, c] : Array Value).setIfInBounds k v)) → Heap.SameBut T s.heap h' → Q () { s with heap := h' }) :
    wpAny (model prog w) A (updateSeq T (·.setIfInBounds k v)) Q E s := by
  refine wpAny_updateSeq hT rfl (h _ ?_ (Heap.SameBut.update ..))
  rw [Heap.get?_update_self _ hT rfl]
  simp [Obj.mapSeq]
set_option maxHeartbeats 1000000 in
theorem zip3_next {Q : Option Value → Shared → Prop} (D : Zd TI TO i1 i2 i3) (Z : Zs s.heap z TI TO i1 i2 i3 l1 l2 l3 .none i) (hl1 : s.heap.IsList l1 xs) (hl2 : s.heap.IsList l2 ys) (hl3 : s.heap.IsList l3 zs) (hx : xs[i]? = some x) (hy : ys[i]? = some y) (hu : zs[i]? = some u)
    (hQ : ∀ h' (T : Addr), Zs h' z TI TO i1 i2 i3 l1 l2 l3 (rawInt (T : Nat)) (i + 1) → s.heap.get? T = none → h'.get? T = some (tupObj #[x, y, u]) → (∀ b o, b ∉ [z, TO, i1, i2, i3] → s.heap.get? b = some o → h'.get? b = some o) → Q (some (.ref T)) { s with heap := h' }) :
    wpAny (model prog w) A (pyNext (.ref z)) Q E s := by
  have hT : s.TypeIs (.ref z) "zip" := ⟨_, Z.z, rfl⟩
  obtain ⟨a, b, c, gTO⟩ := Z.to
  obtain ⟨o1, e1, c1, d1⟩ := id Z.g1
  obtain ⟨o2, e2, c2, d2⟩ := id Z.g2
  obtain ⟨o3, e3, c3, d3⟩ := id Z.g3
  obtain ⟨p1, f1, q1, _⟩ := id hl1
  obtain ⟨p2, f2, q2, _⟩ := id hl2
  obtain ⟨p3, f3, q3, _⟩ := id hl3
  have zTO : z ≠ TO := ne_cls Z.z gTO (by simp)
  have zTI : z ≠ TI := ne_cls Z.z Z.ti (by simp)
  have zi1 : z ≠ i1 := ne_cls Z.z e1 (by rw [c1]; simp)
  have zi2 : z ≠ i2 := ne_cls Z.z e2 (by rw [c2]; simp)
  have zi3 : z ≠ i3 := ne_cls Z.z e3 (by rw [c3]; simp)
  have TOi1 : TO ≠ i1 := ne_cls gTO e1 (by rw [c1]; simp)
  have TOi2 : TO ≠ i2 := ne_cls gTO e2 (by rw [c2]; simp)
  have TOi3 : TO ≠ i3 := ne_cls gTO e3 (by rw [c3]; simp)
  have TIi1 : TI ≠ i1 := ne_cls Z.ti e1 (by rw [c1]; simp)
  have TIi2 : TI ≠ i2 := ne_cls Z.ti e2 (by rw [c2]; simp)
  have TIi3 : TI ≠ i3 := ne_cls Z.ti e3 (by rw [c3]; simp)
  have lne : ∀ {l p}, s.heap.get? l = some p → p.cls = .type "list" → l ≠ z ∧ l ≠ TO ∧ l ≠ i1 ∧ l ≠ i2 ∧ l ≠ i3 := fun e q =>
    ⟨ne_cls e Z.z (by rw [q]; simp), ne_cls e gTO (by rw [q]; simp), ne_cls e e1 (by rw [q, c1]; simp), ne_cls e e2 (by rw [q, c2]; simp), ne_cls e e3 (by rw [q, c3]; simp)⟩
  have m1 := lne f1 q1
  have m2 := lne f2 q2
  have m3 := lne f3 q3
  unfold pyNext
  refine wpAny_bind (wpAny_attempt (wpAny_callSpecial?_slot (name := Str.ofString "__next__") hT F.slot_zip_next
    (wpAny_call_entry F.slot_zip_next hT F.entry_zip_next ?_ (F.args_zip_next_1 _))))
  show wpAny _ _ (field (.ref z) 2 >>= _) _ _ _
  refine wpAny_bind (wpAny_field Z.z rfl (x := .bool false) rfl ?_)
  show wpAny _ _ (field (.ref z) 3 >>= _) _ _ _
  refine wpAny_bind (wpAny_field Z.z rfl (x := .ref TI) rfl ?_)
  refine wpAny_bind (wpAny_seqItems Z.ti rfl ?_)
  show wpAny _ _ (Builtin.SmallTypes.ownedTupleIsFree (.ref z) >>= _) _ _ _
  refine wpAny_bind ?_
  unfold Builtin.SmallTypes.ownedTupleIsFree
  refine wpAny_bind (wpAny_field Z.z rfl (x := .none) rfl (wpAny_pure ?_))
  refine PySem.bm_if_true rfl (wpAny_bind (wpAny_rule ?_))
  refine wpAny_bind (wpAny_field Z.z rfl (x := .ref TO) rfl ?_)
  refine wpAny_bind (wpAny_setField_rec Z.z (by simp) fun h₁ z₁ s₁ => ?_)
  have z₁' : h₁.get? z = some (zipObj .ellipsis TI TO) := z₁
  try dsimp only at s₁
  refine wpAny_bind ?_
  simp only [List.zipIdx_cons, List.zipIdx_nil, List.forIn_cons, List.forIn_nil]
  refine wpAny_bind (wpAny_bind (wpAny_onRaise ?_))
  show wpAny _ _ (Builtin.SmallTypes.nextOf (.ref i1) >>= _) _ _ _
  refine wpAny_bind (wpAny_nextOf_list_item (s := { s with heap := h₁ }) (Z.g1.extBut s₁.extBut (Ne.symm zi1)) (hl1.extBut s₁.extBut m1.1) hx fun h₂ g₂ s₂ => wpAny_pure ?_)
  try dsimp only at s₂
  have T₂ : h₂.get? TO = some (tupObj #[a, b, c]) := (s₂.2 _ TOi1).trans ((s₁.2 _ (Ne.symm zTO)).trans gTO)
  refine wpAny_bind (wpAny_seqItems T₂ rfl ?_)
  refine wpAny_bind (upd3 (s := { s with heap := h₂ }) T₂ fun h₃ T₃ s₃ => ?_)
  have T₃' : h₃.get? TO = some (tupObj #[x, b, c]) := T₃
  try dsimp only at s₃
  refine wpAny_bind (wpAny_letGo (wpAny_pure ?_))
  refine wpAny_bind (wpAny_bind (wpAny_onRaise ?_))
  show wpAny _ _ (Builtin.SmallTypes.nextOf (.ref i2) >>= _) _ _ _
  have k₃ : ∀ b o, b ≠ z → b ≠ TO → b ≠ i1 → s.heap.get? b = some o → h₃.get? b = some o := fun b o n1 n2 n3 e => (s₃.2 b n2).trans ((s₂.2 b n3).trans ((s₁.2 b n1).trans e))
  refine wpAny_bind (wpAny_nextOf_list_item (s := { s with heap := h₃ }) (Z.g2.at fun o e => k₃ _ _ (Ne.symm zi2) (Ne.symm TOi2) (Ne.symm D.a) e) (hl2.at fun o e => k₃ _ _ m2.1 m2.2.1 m2.2.2.1 e) hy fun h₄ g₄ s₄ => wpAny_pure ?_)
  try dsimp only at s₄
  have T₄ : h₄.get? TO = some (tupObj #[x, b, c]) := (s₄.2 _ TOi2).trans T₃'
  refine wpAny_bind (wpAny_seqItems T₄ rfl ?_)
  refine wpAny_bind (upd3 (s := { s with heap := h₄ }) T₄ fun h₅ T₅ s₅ => ?_)
  have T₅' : h₅.get? TO = some (tupObj #[x, y, c]) := T₅
  try dsimp only at s₅
  refine wpAny_bind (wpAny_letGo (wpAny_pure ?_))
  refine wpAny_bind (wpAny_bind (wpAny_onRaise ?_))
  show wpAny _ _ (Builtin.SmallTypes.nextOf (.ref i3) >>= _) _ _ _
  have k₅ : ∀ b o, b ≠ z → b ≠ TO → b ≠ i1 → b ≠ i2 → s.heap.get? b = some o → h₅.get? b = some o := fun b o n1 n2 n3 n4 e => (s₅.2 b n2).trans ((s₄.2 b n4).trans (k₃ b o n1 n2 n3 e))
  refine wpAny_bind (wpAny_nextOf_list_item (s := { s with heap := h₅ }) (Z.g3.at fun o e => k₅ _ _ (Ne.symm zi3) (Ne.symm TOi3) (Ne.symm D.b) (Ne.symm D.c) e) (hl3.at fun o e => k₅ _ _ m3.1 m3.2.1 m3.2.2.1 m3.2.2.2.1 e) hu fun h₆ g₆ s₆ => wpAny_pure ?_)
  try dsimp only at s₆
  have T₆ : h₆.get? TO = some (tupObj #[x, y, c]) := (s₆.2 _ TOi3).trans T₅'
  refine wpAny_bind (wpAny_seqItems T₆ rfl ?_)
  refine wpAny_bind (upd3 (s := { s with heap := h₆ }) T₆ fun h₇ T₇ s₇ => ?_)
  have T₇' : h₇.get? TO = some (tupObj #[x, y, u]) := T₇
  try dsimp only at s₇
  refine wpAny_bind (wpAny_letGo (wpAny_pure (wpAny_pure ?_)))
  refine wpAny_bind (wpAny_seqItems T₇' rfl ?_)
  refine wpAny_bind (wpAny_newTuple ?_)
  have k₇ : ∀ b o, b ≠ z → b ≠ TO → b ≠ i1 → b ≠ i2 → b ≠ i3 → s.heap.get? b = some o → h₇.get? b = some o := fun b o n1 n2 n3 n4 n5 e => (s₇.2 b n2).trans ((s₆.2 b n5).trans (k₅ b o n1 n2 n3 n4 e))
  have z₇ : h₇.get? z = some (zipObj .ellipsis TI TO) := (s₇.2 _ zTO).trans ((s₆.2 _ zi3).trans ((s₅.2 _ zTO).trans ((s₄.2 _ zi2).trans ((s₃.2 _ zTO).trans ((s₂.2 _ zi1).trans z₁')))))
  have j1 : h₇.IsListIter i1 l1 (i + 1) := g₂.at fun o e => (s₇.2 _ (Ne.symm TOi1)).trans ((s₆.2 _ D.b).trans ((s₅.2 _ (Ne.symm TOi1)).trans ((s₄.2 _ D.a).trans ((s₃.2 _ (Ne.symm TOi1)).trans e))))
  have j2 : h₇.IsListIter i2 l2 (i + 1) := g₄.at fun o e => (s₇.2 _ (Ne.symm TOi2)).trans ((s₆.2 _ D.c).trans ((s₅.2 _ (Ne.symm TOi2)).trans e))
  have j3 : h₇.IsListIter i3 l3 (i + 1) := g₆.at fun o e => (s₇.2 _ (Ne.symm TOi3)).trans e
  have sz : h₇.objs.size = s.heap.objs.size := by rw [s₇.1, s₆.1, s₅.1, s₄.1, s₃.1, s₂.1, s₁.1]
  show wpAny _ _ (Builtin.SmallTypes.ownedTupleHandOut (.ref z) (.ref h₇.objs.size) >>= _) _ _ _
  refine wpAny_bind ?_
  unfold Builtin.SmallTypes.ownedTupleHandOut
  have z₈ : (h₇.push (tupObj #[x, y, u])).get? z = some (zipObj .ellipsis TI TO) := Heap.get?_push_of_some _ z₇
  refine wpAny_bind (wpAny_setField_rec (s := { s with heap := h₇.push _ }) z₈ (by simp) fun h₉ z₉ s₉ => ?_)
  refine wpAny_setField_rec (s := { s with heap := h₉ }) z₉ (by simp) fun h₀ z₀ s₀ => ?_
  try dsimp only at s₉ s₀
  have zl : z < h₇.objs.size := Heap.lt_size z₇
  have up : ∀ b o, b ≠ z → h₇.get? b = some o → h₀.get? b = some o := fun b o n e => (s₀.2 b n).trans ((s₉.2 b n).trans (Heap.get?_push_of_some _ e))
  refine wpAny_pure ⟨_, rfl, ?_⟩
  refine wpAny_pure (hQ h₀ h₇.objs.size ⟨z₀, ?_, ⟨x, y, u, up _ _ (Ne.symm zTO) T₇'⟩, j1.at fun o e => up _ _ (Ne.symm zi1) e, j2.at fun o e => up _ _ (Ne.symm zi2) e, j3.at fun o e => up _ _ (Ne.symm zi3) e⟩ ?_ ?_ ?_)
  · exact up _ _ (Ne.symm zTI) (k₇ _ _ (Ne.symm zTI) D.t TIi1 TIi2 TIi3 Z.ti)
  · rw [sz]; exact get_size _
  · exact (s₀.2 _ (Nat.ne_of_gt zl)).trans ((s₉.2 _ (Nat.ne_of_gt zl)).trans (Heap.get?_push_size _ rfl))
  · intro b o hb e
    simp only [List.mem_cons, List.not_mem_nil, or_false, not_or] at hb
    exact up b o hb.1 (k₇ b o hb.1 hb.2.1 hb.2.2.1 hb.2.2.2.1 hb.2.2.2.2 e)
end
end Mine
end
section
open PySem PySem.W PyProof.Rows PySem.Calls Builtin Builtin.ObjectAttr
set_option Elab.async false
set_option linter.unusedVariables false
set_option maxRecDepth 100000
namespace Mine
section
variable {prog : Program} {w : World} {A : Around} {E : Value → Shared → Prop} {s : Shared} {z TI TO i1 i2 i3 l1 l2 l3 : Addr} {i : Nat} {xs ys zs : Array Value}
theorem zip3_end {Q : Option Value → Shared → Prop} (hh : A.handled = none) (Z : Zs s.heap z TI TO i1 i2 i3 l1 l2 l3 .none i) (hl1 : s.heap.IsList l1 xs) (hx : xs[i]? = none)
    (hQ : ∀ h', (∀ b o, b ∉ [z, TO, i1, i2, i3] → s.heap.get? b = some o → h'.get? b = some o) → Q none { s with heap := h' }) :
    wpAny (model prog w) A (pyNext (.ref z)) Q E s := by
  have hT : s.TypeIs (.ref z) "zip" := ⟨_, Z.z, rfl⟩
  obtain ⟨o1, e1, c1, d1⟩ := id Z.g1
  obtain ⟨p1, f1, q1, _⟩ := id hl1
  have zi1 : z ≠ i1 := ne_cls Z.z e1 (by rw [c1]; simp)
  have l1z : l1 ≠ z := ne_cls f1 Z.z (by rw [q1]; simp)
  unfold pyNext
  refine wpAny_bind (wpAny_attempt (wpAny_callSpecial?_slot (name := Str.ofString "__next__") hT F.slot_zip_next
    (wpAny_call_entry F.slot_zip_next hT F.entry_zip_next ?_ (F.args_zip_next_1 _))))
  show wpAny _ _ (field (.ref z) 2 >>= _) _ _ _
  refine wpAny_bind (wpAny_field Z.z rfl (x := .bool false) rfl ?_)
  show wpAny _ _ (field (.ref z) 3 >>= _) _ _ _
  refine wpAny_bind (wpAny_field Z.z rfl (x := .ref TI) rfl ?_)
  refine wpAny_bind (wpAny_seqItems Z.ti rfl ?_)
  show wpAny _ _ (Builtin.SmallTypes.ownedTupleIsFree (.ref z) >>= _) _ _ _
  refine wpAny_bind ?_
  unfold Builtin.SmallTypes.ownedTupleIsFree
  refine wpAny_bind (wpAny_field Z.z rfl (x := .none) rfl (wpAny_pure ?_))
  refine PySem.bm_if_true rfl (wpAny_bind (wpAny_rule ?_))
  refine wpAny_bind (wpAny_field Z.z rfl (x := .ref TO) rfl ?_)
  refine wpAny_bind (wpAny_setField_rec Z.z (by simp) fun h₁ z₁ s₁ => ?_)
  have z₁' : h₁.get? z = some (zipObj .ellipsis TI TO) := z₁
  refine wpAny_bind ?_
  simp only [List.zipIdx_cons, List.zipIdx_nil, List.forIn_cons, List.forIn_nil]
  refine wpAny_bind (wpAny_bind (wpAny_onRaise ?_))
  show wpAny _ _ (Builtin.SmallTypes.nextOf (.ref i1) >>= _) _ _ _
  refine wpAny_bind (wpAny_nextOf_list_end (A := A.in1) (s := { s with heap := h₁ }) hh (Z.g1.extBut s₁.extBut (Ne.symm zi1)) (hl1.extBut s₁.extBut l1z) hx fun h₂ e s₂ he => ?_)
  obtain ⟨oe, hoe, hce⟩ := he
  have z₂ : h₂.get? z = some (zipObj .ellipsis TI TO) := s₂ _ _ zi1 z₁'
  have hez : e ≠ z := ne_cls hoe z₂ (by rw [hce]; simp)
  refine wpAny_setField_rec (s := { s with heap := h₂ }) z₂ (by simp) fun h₃ _ s₃ => ?_
  have e₃ : h₃.get? e = some oe := (s₃.2 e hez).trans hoe
  refine wpAny_bind (wpAny_isInstance (T := "StopIteration") (b := true) ⟨oe, e₃, hce⟩ isSubtype_stop ?_)
  refine wpAny_pure (hQ h₃ fun b o hb q => ?_)
  simp only [List.mem_cons, List.not_mem_nil, or_false, not_or] at hb
  exact (s₃.2 b hb.1).trans (s₂ b o hb.2.2.1 ((s₁.2 b hb.1).trans q))
theorem zip3_go {T : Addr} {elts : List Expr} {x1} {pos : Pos} {Q : Unit → Shared → Prop} (Z : Zs s.heap z TI TO i1 i2 i3 l1 l2 l3 (rawInt (T : Nat)) i)
    (hQ : ∀ h', Zs h' z TI TO i1 i2 i3 l1 l2 l3 .none i → Heap.SameBut z s.heap h' → Q () { s with heap := h' }) :
    wpAny (model prog w) A (letOwnedTupleGo (.Tuple elts x1 pos) (.ref z) (.ref T)) Q E s := by
  obtain ⟨a, b, c, gTO⟩ := Z.to
  obtain ⟨o1, e1, c1, d1⟩ := id Z.g1
  obtain ⟨o2, e2, c2, d2⟩ := id Z.g2
  obtain ⟨o3, e3, c3, d3⟩ := id Z.g3
  unfold letOwnedTupleGo
  refine wpAny_bind (wpAny_load Z.z ?_)
  show wpAny _ _ (if (["enumerate", "zip", "dict_itemiterator", "dict_reverseitemiterator", "odict_iterator", "itertools.zip_longest", "itertools.pairwise"].contains "zip" &&
      (#[rawInt (T : Nat), .bool false, .bool false, .ref TI, .ref TO] : Array Value)[0]? == some (rawInt (T : Nat))) = true then _ else _) Q E s
  rw [if_pos (by simp)]
  refine wpAny_bind (wpAny_rule ?_)
  show wpAny _ _ (setField (.ref z) 0 .none) Q E s
  refine wpAny_setField_rec Z.z (by simp) fun h' z' s' => hQ h' ⟨z', ?_, ⟨a, b, c, ?_⟩, ?_, ?_, ?_⟩ s'
  · exact (s'.2 _ (ne_cls Z.ti Z.z (by simp))).trans Z.ti
  · exact (s'.2 _ (ne_cls gTO Z.z (by simp))).trans gTO
  · exact Z.g1.at fun o e => (s'.2 _ (ne_cls e1 Z.z (by rw [c1]; simp))).trans e
  · exact Z.g2.at fun o e => (s'.2 _ (ne_cls e2 Z.z (by rw [c2]; simp))).trans e
  · exact Z.g3.at fun o e => (s'.2 _ (ne_cls e3 Z.z (by rw [c3]; simp))).trans e
theorem zip3_iter {f0 : Value} {Q : Value → Shared → Prop} (hz : s.heap.get? z = some (zipObj f0 TI TO)) (h : Q (.ref z) s) : wpAny (model prog w) A (pyIter (.ref z)) Q E s := wpAny_pyIter_zip hz h
theorem typeCall_zip_3 (a b c : Value) : checkTypeCall "zip" ⟨[a, b, c], []⟩ = pure () := by kernel_rfl
theorem newCall_zip_3 (a b c : Value) : checkBuiltinCall "zip.__new__" ⟨[.type "zip", a, b, c], []⟩ = pure () := by kernel_rfl
abbrev itO (l : Addr) : Obj := { cls := .type "list_iterator", data := .fields #[.ref l, .int 0 0] }
abbrev zC (h : Heap) (l1 l2 l3 : Addr) : Heap := (PySem.zipH2 h l1 l2).push { cls := .type "list_iterator", data := .fields #[.ref l3, .int 0 0] }
abbrev zD (h : Heap) (l1 l2 l3 : Addr) : Heap := (zC h l1 l2 l3).push { cls := .type "tuple", data := .seq #[.ref h.objs.size, .ref (PySem.zipH1 h l1).objs.size, .ref (PySem.zipH2 h l1 l2).objs.size] }
abbrev zE (h : Heap) (l1 l2 l3 : Addr) : Heap := (zD h l1 l2 l3).push { cls := .type "tuple", data := .seq #[.none, .none, .none] }
abbrev zF (h : Heap) (l1 l2 l3 : Addr) : Heap := (zE h l1 l2 l3).push { cls := .type "zip", data := .fields #[.none, .bool false, .bool false, .ref (zC h l1 l2 l3).objs.size, .ref (zD h l1 l2 l3).objs.size] }
set_option maxHeartbeats 2000000 in
theorem zip3_meets (l1 l2 l3 : Addr) (xs ys zs : Array Value) :
    Meets (Builtin.«zip.__new__» ⟨[.type "zip", .ref l1, .ref l2, .ref l3], []⟩) (fun _ R s => s.heap.IsList l1 xs ∧ s.heap.IsList l2 ys ∧ s.heap.IsList l3 zs ∧
      R (.ok (.ret (.ref (zE s.heap l1 l2 l3).objs.size))) { s with heap := zF s.heap l1 l2 l3 }) :=
  .of_wp fun prog w A R s h => by
    obtain ⟨hp, g, d, tk, os⟩ := s; obtain ⟨hl1, hl2, hl3, h⟩ := h
    have hsub := sub_zip
    have hL1 : Heap.IsList (Shared.heap ⟨hp, g, d, tk, os⟩) l1 xs := hl1
    have hL2 : Heap.IsList (Shared.heap ⟨hp.push { cls := .type "list_iterator", data := .fields #[.ref l1, .int 0 0] }, g, d, tk, os⟩) l2 ys := Heap.IsList.push hl2 _
    have hL3 : Heap.IsList (Shared.heap ⟨(hp.push { cls := .type "list_iterator", data := .fields #[.ref l1, .int 0 0] }).push { cls := .type "list_iterator", data := .fields #[.ref l2, .int 0 0] }, g, d, tk, os⟩) l3 zs := Heap.IsList.push (Heap.IsList.push hl3 _) _
    wp_walk using wpAny_pyIter_list hL1, wpAny_pyIter_list hL2, wpAny_pyIter_list hL3
    exact ⟨_, rfl, h⟩
theorem zip3_call {Q : Value → Shared → Prop} (hl1 : s.heap.IsList l1 xs) (hl2 : s.heap.IsList l2 ys) (hl3 : s.heap.IsList l3 zs)
    (h : ∀ h' z TI TO i1 i2 i3, Zs h' z TI TO i1 i2 i3 l1 l2 l3 .none 0 → Zd TI TO i1 i2 i3 → (∀ b ∈ [z, TI, TO, i1, i2, i3], s.heap.get? b = none) → Ext [] s.heap h' → Q (.ref z) { s with heap := h' }) :
    wpAny (model prog w) A (call (.type "zip") [.ref l1, .ref l2, .ref l3]) Q E s := by
  refine callType_new PySem.F.called_zip (by decide) (typeCall_zip_3 _ _ _) (newCall_zip_3 _ _ _) (fun obj => PySem.F.initArgs_range_3 obj _ _ _) PySem.F.entry_zip_new
    (zip3_meets l1 l2 l3 xs ys zs) ⟨hl1, hl2, hl3, ?_⟩
  show _ ∧ Q _ _
  delta zF zE zD
  generalize e3 : zC s.heap l1 l2 l3 = h₃
  generalize r3 : (PySem.zipH2 s.heap l1 l2).objs.size = i3
  generalize r2 : (PySem.zipH1 s.heap l1).objs.size = i2
  generalize r1 : s.heap.objs.size = i1
  replace e3 := e3.symm
  replace r3 := r3.symm
  replace r2 := r2.symm
  replace r1 := r1.symm
  have z1 : i2 = i1 + 1 := by rw [r2, r1, Heap.size_push]
  have z2 : i3 = i1 + 2 := by rw [r3, Heap.size_push, ← r2, z1]
  have z3 : h₃.objs.size = i1 + 3 := by rw [e3, Heap.size_push, ← r3, z2]
  have o3 : ∀ b o, s.heap.get? b = some o → h₃.get? b = some o := fun b o e => by rw [e3]; exact Heap.get?_push_of_some _ (Heap.get?_push_of_some _ (Heap.get?_push_of_some _ e))
  have g1 : h₃.get? i1 = some (itO l1) := by rw [e3, r1]; exact Heap.get?_push_of_some _ (Heap.get?_push_of_some _ (Heap.get?_push_size _ rfl))
  have g2 : h₃.get? i2 = some (itO l2) := by rw [e3, r2]; exact Heap.get?_push_of_some _ (Heap.get?_push_size _ rfl)
  have g3 : h₃.get? i3 = some (itO l3) := by rw [e3, r3]; exact Heap.get?_push_size _ rfl
  clear e3 r2 r3
  generalize hH4 : h₃.push (tupObj #[.ref i1, .ref i2, .ref i3]) = h₄
  have z4 : h₄.objs.size = i1 + 4 := by rw [← hH4, Heap.size_push, z3]
  generalize hH5 : h₄.push (tupObj #[.none, .none, .none]) = h₅
  have z5 : h₅.objs.size = i1 + 5 := by rw [← hH5, Heap.size_push, z4]
  have o4 : ∀ b o, h₃.get? b = some o → h₄.get? b = some o := fun b o e => hH4 ▸ Heap.get?_push_of_some _ e
  have o5 : ∀ b o, h₄.get? b = some o → h₅.get? b = some o := fun b o e => hH5 ▸ Heap.get?_push_of_some _ e
  have o6 : ∀ b o, h₅.get? b = some o → (h₅.push (zipObj .none h₃.objs.size h₄.objs.size)).get? b = some o := fun b o e => Heap.get?_push_of_some _ e
  have gTI : h₄.get? h₃.objs.size = some (tupObj #[.ref i1, .ref i2, .ref i3]) := hH4 ▸ Heap.get?_push_size _ rfl
  have gTO : h₅.get? h₄.objs.size = some (tupObj #[.none, .none, .none]) := hH5 ▸ Heap.get?_push_size _ rfl
  have gz : (h₅.push (zipObj .none h₃.objs.size h₄.objs.size)).get? h₅.objs.size = some (zipObj .none h₃.objs.size h₄.objs.size) := Heap.get?_push_size _ rfl
  refine ⟨⟨_, gz, rfl⟩, h _ h₅.objs.size h₃.objs.size h₄.objs.size i1 i2 i3 ⟨gz, o6 _ _ (o5 _ _ gTI), ⟨_, _, _, o6 _ _ gTO⟩, ⟨_, o6 _ _ (o5 _ _ (o4 _ _ g1)), rfl, rfl⟩, ⟨_, o6 _ _ (o5 _ _ (o4 _ _ g2)), rfl, rfl⟩, ⟨_, o6 _ _ (o5 _ _ (o4 _ _ g3)), rfl, rfl⟩⟩ ⟨?_, ?_, ?_, ?_⟩ (fun b hb => PySem.Heap.get?_none_of_le ?_) fun b o _ e => o6 b o (o5 b o (o4 b o (o3 b o e)))⟩
  · rw [z3, z4]; exact Nat.ne_of_lt (Nat.lt_succ_self _)
  · rw [z1]; exact Nat.ne_of_lt (Nat.lt_succ_self _)
  · rw [z2]; exact Nat.ne_of_lt (Nat.lt_succ_of_lt (Nat.lt_succ_self _))
  · rw [z1, z2]; exact Nat.ne_of_lt (Nat.lt_succ_self _)
  · rw [← r1]
    simp only [List.mem_cons, List.not_mem_nil, or_false] at hb
    rcases hb with rfl | rfl | rfl | rfl | rfl | rfl
    · rw [z5]; exact Nat.le_add_right _ _
    · rw [z3]; exact Nat.le_add_right _ _
    · rw [z4]; exact Nat.le_add_right _ _
    · exact Nat.le_refl _
    · rw [z1]; exact Nat.le_add_right _ _
    · rw [z2]; exact Nat.le_add_right _ _
end
end Mine
end
section
open PySem PySem.W PyProof.Rows PySem.Calls Builtin Builtin.ObjectAttr
set_option Elab.async false
set_option linter.unusedVariables false
set_option maxRecDepth 100000
namespace Mine
theorem G_list (P : Params) : nsIn (K P) mainGlobals (Str.ofString "list") = some none := by kernel_rfl
theorem keep60 (P : Params) : keepIn (K P) (.ref 60) = true := by kernel_rfl
section
variable {prog : Program} {w : World} {A : Around} {E : Value → Shared → Prop} {s : Shared} {hb : Heap} {L fa lq lt la : Addr} {cd : Value} {vC vS : Option Value} {qs : List QR} {ts as : List LR} {pr : List (Addr × Obj)} {m : PySem.Str → Option Value}
theorem St.chgs {cC cS : Addr} {W : List Addr} {h h' : Heap} (s : St w hb L cC cS lq lt la vC vS qs ts as pr h m) (hW : ∀ x ∈ W, (∃ o, h.get? x = some o ∧ kd o = 0) ∧ hb.get? x = none) (np : ∀ p ∈ pr, p.1 ∉ W) (k : ∀ b o, b ∉ W → h.get? b = some o → h'.get? b = some o) : St w hb L cC cS lq lt la vC vS qs ts as pr h' m := by
  have nW : ∀ {b o}, h.get? b = some o → kd o ≠ 0 → b ∉ W := fun e z hb => by
    obtain ⟨⟨o', e', z'⟩, _⟩ := hW _ hb
    rw [e] at e'; cases e'; exact z z'
  have kk : ∀ {b o}, h.get? b = some o → kd o ≠ 0 → h'.get? b = some o := fun e z => k _ _ (nW e z) e
  have kp : ∀ {a ys}, h.PlainList a ys → h'.PlainList a ys := fun {a ys} x => x.at fun o e => by
    obtain ⟨o', e', z⟩ := plain_kd x; rw [e] at e'; cases e'; exact kk e (by rw [z]; decide)
  have kl : ∀ {x : LR}, LAt h x → LAt h' x := fun {x} ⟨vs, g, r⟩ => ⟨vs, kp g, r⟩
  have kc : ∀ {a v}, h.IsCell a v → h'.IsCell a v := fun {a v} x => by
    obtain ⟨o', e', z⟩ := cell_kd x
    obtain ⟨o, e, d⟩ := x
    rw [e] at e'; cases e'
    exact ⟨_, kk e (by rw [z]; decide), d⟩
  obtain ⟨oL, gL, kL⟩ := ns_kd s.F.ns
  exact { s with
    F := ⟨s.F.ns.at' fun o e => by rw [gL] at e; cases e; exact kk gL (by rcases kL with z | z <;> rw [z] <;> decide), fun b o e => k b o (fun z => by rw [(hW b z).2] at e; cases e) (s.F.keep b o e), s.F.above⟩
    gq := kp s.gq, gt := kp s.gt, ga := kp s.ga, cc := kc s.cc, cs := kc s.cs
    qat := fun x hx => (s.qat x hx).keeps (fun o e => by obtain ⟨o', e', z⟩ := (s.qat x hx).kq; rw [e] at e'; cases e'; exact kk e (by rw [z]; decide)) fun b o e z => kk e (by rcases z with z | z <;> rw [z] <;> decide)
    tat := fun x hx => kl (s.tat x hx), aat := fun x hx => kl (s.aat x hx)
    prk := fun p hp => ⟨k _ _ (np p hp) (s.prk p hp).1, (s.prk p hp).2⟩ }
def lastF : Stmt := hd1 (lawB.drop 5)
def lastB : List Stmt := forB lastF
set_option maxHeartbeats 2000000 in
theorem last_body {x : QR} {y z : LR} {pl : Addr} {n : Nat} {Q : Flow → Shared → Prop} (rm : RmL A) (S : LSt w hb L lq lt la vC (some (.ref y.a)) qs ts as pr s.heap m) (hx : x ∈ qs) (hy : y ∈ ts) (hz : z ∈ as) (ey : y.ns = x.tl) (ez : z.ns = x.ks) (hl : x.ks.length ≤ 100)
    (mq : m (Str.ofString "quoter") = some (.ref x.q)) (mo : m (Str.ofString "octets") = some (.ref z.a)) (mp : m (Str.ofString "plain") = some (.ref pl)) (P : FsAt w s.heap pl alw n) (hn : 64 ≤ n) (hn' : n < 128)
    (h : ∀ h' tk, LSt w hb L lq lt la vC (some (.ref y.a)) qs ts as pr h' m → Ext [] s.heap h' → Q .next { s with heap := h', toks := tk }) :
    wpAny (model prog w) A (execs lastB (lenv L fa cd)) Q E s := by
  have X := S.qat x hx
  obtain ⟨es, ep, gq, eo⟩ := X.obj
  obtain ⟨tk₀, gd⟩ := X.dic
  have sz := eo.size
  refine wpAny_execs_cons ?_
  refine wpAny_If ?_
  refine wpAny_isTrue_Compare1 ?_
  refine Call_ ?_
  refine Base.blt (w := w) S.B (G_list _) PyProof.Rows.Boot.list ?_
  refine PyProof.Rows.callWith_type1 ?_
  refine args_cons ?_
  refine MethodCall_ ?_
  refine ll S.F.ns mq ?_
  refine q_items_m S.B gq gd ?_
  refine callWith_method0 ?_
  refine q_items_call S.B X.one gq ?_
  refine args_nil ?_
  have k₁ : ∀ b o, s.heap.get? b = some o → (s.heap.push { cls := .type "dict_items", data := .fields #[.ref x.q] }).get? b = some o := fun b o e => Heap.get?_push_of_some _ e
  refine items_list (s := { s with heap := s.heap.push _ }) (q := x.q) rm.h ⟨_, Heap.get?_push_size _ rfl, rfl, rfl⟩ (k₁ _ _ gq) (by rw [sz]; omega) fun h₂ tk₂ acc c as' k₂ g₂ al₂ ac₂ T₂ => ?_
  dsimp only at k₂ g₂ ⊢
  have K₂ : ∀ b o, s.heap.get? b = some o → h₂.get? b = some o := fun b o e => k₂ b o (k₁ b o e)
  have S₂ := St.ext S K₂
  generalize (s.heap.push { cls := .type "dict_items", data := .fields #[.ref x.q] }).objs.size = R1 at g₂ ⊢
  obtain ⟨zs, gz, iz⟩ := S₂.aat z hz
  obtain ⟨ys, gy, iy⟩ := S₂.tat y hy
  have zl : zs.length = x.ks.length := by rw [iz.length, ez]
  refine comp_tups (s := { s with heap := h₂, toks := tk₂ }) (cl := [(Str.ofString "signs", L + 1 + 1)]) (P := fun j vs => ∃ k, x.ks[j]? = some k ∧ pairOf (qtext (told x.tl)) k vs) rm.h rfl (by decide) rfl (by decide) rfl gz.isList (by omega) ?_ ?_ ?_
  · intro Q' hq
    exact ll S₂.F.ns mo hq
  · intro C j v s₃ m₃ E' Q' nC hv hn₃ hm₃ k₃ hQ'
    obtain ⟨k, t, rfl, hk⟩ := ints_at iz (by simpa using hv)
    rw [ez] at hk
    have B₃ : Base w s₃.heap := S₂.B.keeps k₃
    have kr := X.ksr k (List.mem_of_getElem? hk)
    refine wpAny_Tuple ?_
    refine args_cons ?_
    refine wpAny_Name (wpAny_loadName_local (env := compEnvC _ _ C _) rfl rfl hn₃ hm₃ ?_)
    refine args_cons ?_
    refine Call_ ?_
    refine Base.glob (w := w) B₃ (G_written _) ?_
    refine callWith_K (K := K w.params) B₃.k (keep60 _) ?_
    refine args_cons ?_
    refine wpAny_Name (wpAny_loadName_local (env := compEnvC _ _ C _) rfl rfl hn₃ hm₃ ?_)
    refine args_cons ?_
    refine wpAny_Name (wpAny_loadName_cell (env := compEnvC _ _ C _) rfl rfl rfl (S₂.cs.keeps k₃) ?_)
    refine args_nil ⟨B₃.k, wpAny_call ?_⟩
    refine written_call (s := s₃) B₃ rm.rm (PyProof.Rows.lstKept gy.isList k₃) iy kr.1 kr.2 fun h₄ tk₄ t₄ ex₄ => ?_
    refine args_nil ⟨by rw [sizeLine_eq]; show 2 ≤ _; decide, ?_⟩
    refine hQ' _ _ _ tk₄ ?_ (fun b o hb e => Heap.get?_push_of_some _ (ex₄ b o hb e)) (Heap.get?_push_size _ rfl) ⟨k, hk, t, t₄, by rw [ey]⟩
    dsimp only
    cases e : s₃.heap.get? h₄.objs.size with
    | none => rfl
    | some o => have := Heap.lt_size (ex₄ _ _ (by simp) e); exact absurd this (Nat.lt_irrefl _)
  · intro D h₃ tk₃ yy nD gD zD TD ex₃
    have K₃ : ∀ b o, h₂.get? b = some o → h₃.get? b = some o := fun b o e => ex₃ b o (by simp) e
    have S₃ := St.ext S₂ K₃
    refine tups_ne (s := { s with heap := h₃, toks := tk₃ }) (by have := rm.u; show A.units + 1 < 9900; omega) (K₃ _ _ g₂) ac₂ al₂ (T₂.keeps fun a vs e => K₃ _ _ e) eo gD (by rw [zD, zl]) TD (wpAny_truthy_bool ?_)
    rw [if_neg Bool.false_ne_true]
    refine wpAny_execs_nil ?_
    refine wpAny_execs_cons ?_
    refine wpAny_If ?_
    refine wpAny_isTrue_Compare1 ?_
    refine Attribute_Name_ ?_
    refine ll (s := { s with heap := h₃, toks := tk₃ }) S₃.F.ns mq ?_
    have K0 : ∀ b o, s.heap.get? b = some o → h₃.get? b = some o := fun b o e => K₃ b o (K₂ b o e)
    refine q_get_safe (s := { s with heap := h₃, toks := tk₃ }) S₃.B.k (K0 _ _ gq) (K0 _ _ gd) ?_
    refine MethodCall_ ?_
    refine ll (s := { s with heap := h₃, toks := tk₃ + 1 }) S₃.F.ns mp ?_
    obtain ⟨ep', pp, tp, gp, fp⟩ := P
    refine getMethod_union (K0 _ _ gp) ?_
    refine callWith_method1 ?_
    refine args_cons ?_
    refine ls (s := { s with heap := h₃, toks := tk₃ + 1 }) S₃.cs ?_
    refine args_nil ?_
    obtain ⟨us, gu, iu⟩ := S₃.tat y hy
    have yp : Value.ref y.a ≠ .ref pl := fun e => by
      obtain ⟨nu, gu'⟩ := gu
      have e' : y.a = pl := Value.ref.inj e
      rw [e', K0 _ _ gp] at gu'
      exact absurd (congrArg Obj.cls (Option.some.inj gu')) (by simp)
    have yr : ∀ k ∈ y.ns, 0 ≤ k ∧ k < 128 := by rw [ey]; exact X.tlr
    refine call_union (s := { s with heap := h₃, toks := tk₃ + 1 }) (K0 _ _ gp) fp hn hn' yp (gives_list rm.h gu.isList iu yr) fun r h₄ tk₄ n₄ ex₄ nr gr le => ?_
    have S₄ := St.ext S₃ fun b o e => ex₄ b o (by simp) e
    obtain ⟨nf, gf, _⟩ := (S₄.qat x hx).set
    have gr' : FsAt w h₄ r (told x.tl) n₄ := gr.congr fun k => by rw [contains_any, ey]; rfl
    refine fs_ne (s := { s with heap := h₄, toks := tk₄ }) (by have := rm.u; show A.units < 9900; omega) gf gr' (wpAny_truthy_bool ?_)
    rw [if_neg Bool.false_ne_true]
    refine wpAny_execs_nil (wpAny_execs_nil ?_)
    exact h h₄ tk₄ S₄ fun b o _ e => ex₄ b o (by simp) (K0 b o e)
end
end Mine
end
section
open PySem PySem.W PyProof.Rows PySem.Calls Builtin Builtin.ObjectAttr
set_option Elab.async false
set_option linter.unusedVariables false
set_option maxRecDepth 100000
namespace Mine
theorem G_zip (P : Params) : nsIn (K P) mainGlobals (Str.ofString "zip") = some none := by kernel_rfl
section
variable {prog : Program} {w : World} {A : Around} {E : Value → Shared → Prop} {s : Shared} {hb : Heap} {L fa lq lt la : Addr} {cd : Value} {vC vS : Option Value} {qs : List QR} {ts as : List LR} {pr : List (Addr × Obj)} {m : PySem.Str → Option Value}
theorem St.add0 {cC cS : Addr} {h : Heap} (S : St w hb L cC cS lq lt la vC vS qs ts as pr h m) {l : List (Addr × Obj)} (hl : ∀ p ∈ l, h.get? p.1 = some p.2 ∧ kd p.2 = 0) : St w hb L cC cS lq lt la vC vS qs ts as (l ++ pr) h m :=
  { S with prk := fun p hp => (List.mem_append.mp hp).elim (fun q => ⟨(hl p q).1, (fun z => by
      have ne : ∀ {a ys}, h.PlainList a ys → a ≠ p.1 := fun x => by obtain ⟨o, e, z⟩ := plain_kd x; exact ne_kind e (hl p q).1 (by rw [z, (hl p q).2]; decide)
      simp only [List.mem_cons, List.mem_map] at z
      rcases z with z | z | z | ⟨u, hu, z⟩
      · exact ne S.gq z.symm
      · exact ne S.gt z.symm
      · exact ne S.ga z.symm
      · obtain ⟨us, pu, _⟩ := S.aat u hu; exact ne pu z), .inl (hl p q).2⟩) (S.prk p) }
theorem St.del0 {cC cS : Addr} {h : Heap} {l : List (Addr × Obj)} (S : St w hb L cC cS lq lt la vC vS qs ts as (l ++ pr) h m) : St w hb L cC cS lq lt la vC vS qs ts as pr h m :=
  { S with prk := fun p hp => S.prk p (List.mem_append_right _ hp) }
theorem Zs.objs {h : Heap} {z TI TO i1 i2 i3 l1 l2 l3 : Addr} {f0 : Value} {i : Nat} (Z : Zs h z TI TO i1 i2 i3 l1 l2 l3 f0 i) : ∃ l : List (Addr × Obj), (∀ p ∈ l, h.get? p.1 = some p.2 ∧ kd p.2 = 0) ∧ (∀ {h' : Heap}, (∀ p ∈ l, h'.get? p.1 = some p.2) → Zs h' z TI TO i1 i2 i3 l1 l2 l3 f0 i) := by
  obtain ⟨a, b, c, gTO⟩ := Z.to
  obtain ⟨o1, e1, c1, d1⟩ := id Z.g1
  obtain ⟨o2, e2, c2, d2⟩ := id Z.g2
  obtain ⟨o3, e3, c3, d3⟩ := id Z.g3
  refine ⟨[(z, zipObj f0 TI TO), (TI, tupObj #[.ref i1, .ref i2, .ref i3]), (TO, tupObj #[a, b, c]), (i1, o1), (i2, o2), (i3, o3)], fun p hp => ?_, fun {h'} k => ?_⟩
  · simp only [List.mem_cons, List.not_mem_nil, or_false] at hp
    rcases hp with rfl | rfl | rfl | rfl | rfl | rfl
    · exact ⟨Z.z, rfl⟩
    · exact ⟨Z.ti, kd_tup _⟩
    · exact ⟨gTO, kd_tup _⟩
    · exact ⟨e1, by unfold kd; rw [d1]⟩
    · exact ⟨e2, by unfold kd; rw [d2]⟩
    · exact ⟨e3, by unfold kd; rw [d3]⟩
  · exact ⟨k (z, zipObj f0 TI TO) (.head _), k (TI, _) (by simp), ⟨a, b, c, k (TO, _) (by simp)⟩, ⟨o1, k (i1, o1) (by simp), c1, d1⟩, ⟨o2, k (i2, o2) (by simp), c2, d2⟩, ⟨o3, k (i3, o3) (by simp), c3, d3⟩⟩
theorem Zs.kinds {h : Heap} {z TI TO i1 i2 i3 l1 l2 l3 : Addr} {f0 : Value} {i : Nat} (Z : Zs h z TI TO i1 i2 i3 l1 l2 l3 f0 i) : ∀ x ∈ [z, TO, i1, i2, i3], ∃ o, h.get? x = some o ∧ kd o = 0 := by
  obtain ⟨a, b, c, gTO⟩ := Z.to
  intro x hx
  simp only [List.mem_cons, List.not_mem_nil, or_false] at hx
  rcases hx with rfl | rfl | rfl | rfl | rfl
  · exact ⟨_, Z.z, rfl⟩
  · exact ⟨_, gTO, kd_tup _⟩
  · exact iter_kd Z.g1
  · exact iter_kd Z.g2
  · exact iter_kd Z.g3
set_option maxHeartbeats 2000000 in
theorem last_loop {pl : Addr} {n i₀ : Nat} {Q : Flow → Shared → Prop} (rm : RmL A) (S : LSt w hb L lq lt la vC vS qs ts as [] s.heap m) (Y : Sync i₀ qs ts as) (hi₀ : i₀ ≤ 30) (mp : m (Str.ofString "plain") = some (.ref pl)) (P : FsAt w s.heap pl alw n) (hn : 64 ≤ n) (hn' : n < 128) (npl : pl ∉ (lq :: lt :: la :: as.map (·.a)))
    (h : ∀ h' tk m', Fr hb L h' m' → Q .next { s with heap := h', toks := tk }) :
    wpAny (model prog w) A (exec lastF (lenv L fa cd)) Q E s := by
  have e1 : qs.length = ts.length := by have := congrArg List.length Y.tl; simpa using this
  have e2 : qs.length = as.length := by have := congrArg List.length Y.ks; simpa using this
  obtain ⟨esp, epp, tp, gp, fp⟩ := P
  have S : LSt w hb L lq lt la vC vS qs ts as [(pl, fsObj esp epp tp)] s.heap m := St.addPr S gp npl (.inr (.inr rfl))
  refine wpAny_For ?_
  refine Call_ ?_
  refine Base.blt (w := w) S.B (G_zip _) PyProof.Rows.Boot.zip ?_
  refine PyProof.Rows.callWith_type1 ?_
  refine args_cons ?_
  refine ll S.F.ns S.mq ?_
  refine args_cons ?_
  refine ll S.F.ns S.mt ?_
  refine args_cons ?_
  refine ll S.F.ns S.ma ?_
  refine args_nil ?_
  refine zip3_call S.gq.isList S.gt.isList S.ga.isList fun h₁ z TI TO i1 i2 i3 Z₁ D fr ex₁ => ?_
  have S₁ := St.ext S fun b o e => ex₁ b o (by simp) e
  refine zip3_iter Z₁.z ?_
  have fz : ∀ x ∈ [z, TO, i1, i2, i3], hb.get? x = none := fun x hx => fresh_b (S := True) S.F (fr x (by
    simp only [List.mem_cons, List.not_mem_nil, or_false] at hx ⊢
    rcases hx with rfl | rfl | rfl | rfl | rfl <;> simp))
  refine codeAny_forLoop_any (fun k s' => ∃ h' tk m' vS' i, s' = { s with heap := h', toks := tk } ∧ LSt w hb L lq lt la vC vS' qs ts as [(pl, fsObj esp epp tp)] h' m' ∧ m' (Str.ofString "plain") = some (.ref pl) ∧ Zs h' z TI TO i1 i2 i3 lq lt la .none i ∧ i ≤ qs.length ∧ k = qs.length + 1 - i) ?_ (qs.length + 1)
    ⟨h₁, s.toks, m, vS, 0, rfl, S₁, mp, Z₁, Nat.zero_le _, rfl⟩
  rintro k s' ⟨h', tk, m', vS', i, rfl, S', mp', Z', hi, rfl⟩
  have pW : ∀ {hh : Heap} {f0 : Value} {j : Nat}, hh.get? pl = some (fsObj esp epp tp) → Zs hh z TI TO i1 i2 i3 lq lt la f0 j → pl ∉ [z, TO, i1, i2, i3] := fun g Zz hx => by
    obtain ⟨o, e, q⟩ := Zz.kinds pl hx
    rw [g] at e; cases e; cases q
  by_cases hlt : i < qs.length
  · obtain ⟨p, x, r, eqs, hp⟩ := split_at hlt
    obtain ⟨pt, y, rt, ets, hpt⟩ := split_at (l := ts) (j := i) (by omega)
    obtain ⟨pa, zz, ra, eas, hpa⟩ := split_at (l := as) (j := i) (by omega)
    have ey : y.ns = x.tl := by
      have := congrArg (fun l => l[i]?) Y.tl
      rw [eqs, ets] at this
      simp only [List.map_append, List.map_cons] at this
      rw [List.getElem?_append_right (by simp [hp]), List.getElem?_append_right (by simp [hpt])] at this
      simpa [hpt, hp] using this.symm
    have ez : zz.ns = x.ks := by
      have := congrArg (fun l => l[i]?) Y.ks
      rw [eqs, eas] at this
      simp only [List.map_append, List.map_cons] at this
      rw [List.getElem?_append_right (by simp [hp]), List.getElem?_append_right (by simp [hpa])] at this
      simpa [hpa, hp] using this.symm
    have mx : x ∈ qs := by rw [eqs]; simp
    have my : y ∈ ts := by rw [ets]; simp
    have mz : zz ∈ as := by rw [eas]; simp
    refine zip3_next (s := { s with heap := h', toks := tk }) (x := .ref x.q) (y := .ref y.a) (u := .ref zz.a) D Z' S'.gq.isList S'.gt.isList S'.ga.isList (by rw [eqs]; simp [hp]) (by rw [ets]; simp [hpt]) (by rw [eas]; simp [hpa]) fun h₂ T Z₂ nT gT k₂ => ?_
    have S₂ := St.chgs S' (fun x hx => ⟨Z'.kinds x hx, fz x hx⟩) (fun q hq => by rw [List.mem_singleton] at hq; subst hq; exact pW (S'.prk _ (.head _)).1 Z') k₂
    refine zip3_go (s := { s with heap := h₂, toks := tk }) Z₂ fun h₃ Z₃ sb₃ => ?_
    have S₃ := St.chgs (W := [z]) S₂ (fun x hx => by
        rw [List.mem_singleton] at hx; subst hx
        exact ⟨Z₂.kinds _ (by simp), fz _ (by simp)⟩) (fun q hq => by
        rw [List.mem_singleton] at hq; subst hq
        intro hz; rw [List.mem_singleton] at hz
        exact pW (S₂.prk _ (.head _)).1 Z₂ (by have hz : pl = z := hz; rw [hz]; simp)) (fun b o hb e => (sb₃.2 b (by simpa using hb)).trans e)
    have Tz : T ≠ z := fun e => by rw [e] at nT; have := Z'.z; rw [nT] at this; cases this
    have gT₃ : h₃.get? T = some (tupObj #[.ref x.q, .ref y.a, .ref zz.a]) := (sb₃.2 _ Tz).trans gT
    refine assign_Tuple_tuple (s := { s with heap := h₃, toks := tk }) (items := #[.ref x.q, .ref y.a, .ref zz.a]) rm.h ⟨_, gT₃, rfl, _, rfl⟩ rfl rfl fun h₄ ex₄ => ?_
    have K₄ : ∀ b o, h₃.get? b = some o → h₄.get? b = some o := fun b o e => ex₄ b o (Nat.ne_of_lt (Heap.lt_size e)) e
    have S₄ := St.ext S₃ K₄
    obtain ⟨ol, hol, back⟩ := Z₃.objs
    have S₅ := St.add0 (l := ol) S₄ fun q hq => ⟨K₄ _ _ (hol q hq).1, (hol q hq).2⟩
    refine assignInOrder_cons ?_
    refine wpAny_assign_Name ?_
    refine lst (s := { s with heap := h₄, toks := tk }) S₅ fun h₆ S₆ => ?_
    refine assignInOrder_cons ?_
    refine wpAny_assign_Name ?_
    refine lsst (s := { s with heap := h₆, toks := tk + 1 }) S₆ fun h₇ S₇ => ?_
    refine assignInOrder_cons ?_
    refine wpAny_assign_Name ?_
    refine lst (s := { s with heap := h₇, toks := tk + 1 }) S₇ fun h₈ S₈ => ?_
    refine assignInOrder_nil ?_
    refine last_body (s := { s with heap := h₈, toks := tk + 1 + 1 }) (n := n) rm S₈ mx my mz ey ez (by have := Y.lk x mx; omega) rfl rfl mp' ⟨_, _, _, (S₈.prk _ (List.mem_append_right _ (.head _))).1, fp⟩ hn hn' fun h₉ tk₉ S₉ ex₉ => ?_
    refine ⟨qs.length + 1 - (i + 1), by omega, h₉, tk₉, _, _, i + 1, rfl, St.del0 S₉, mp', back fun q hq => (S₉.prk q (List.mem_append_left _ hq)).1, hlt, rfl⟩
  · obtain rfl : i = qs.length := by omega
    refine zip3_end (s := { s with heap := h', toks := tk }) rm.h Z' S'.gq.isList (by simp) fun h₂ k₂ => ?_
    have S₂ := St.chgs S' (fun x hx => ⟨Z'.kinds x hx, fz x hx⟩) (fun q hq => by rw [List.mem_singleton] at hq; subst hq; exact pW (S'.prk _ (.head _)).1 Z') k₂
    exact wpAny_execs_nil (h h₂ tk _ S₂.F)
end
end Mine
end
section
open PySem PySem.W PyProof.Rows PySem.Calls Builtin Builtin.ObjectAttr
set_option Elab.async false
set_option linter.unusedVariables false
set_option maxRecDepth 100000
namespace Mine
section
variable {prog : Program} {w : World} {A : Around} {E : Value → Shared → Prop} {s : Shared} {hb : Heap} {L fa : Addr} {cd : Value} {vC vS : Option Value} {m : PySem.Str → Option Value}
set_option maxHeartbeats 2000000 in
theorem law_start {Q : Flow → Shared → Prop} (B : Base w hb) (F : Fr hb L s.heap m) (fL : hb.get? L = none) (c1 : s.heap.IsCell (L + 1) vC) (c2 : s.heap.IsCell (L + 1 + 1) vS) (f1 : hb.get? (L + 1) = none) (f2 : hb.get? (L + 1 + 1) = none) (rm : RmL A)
    (h : ∀ h' tk m' lq lt la qs ts as, LSt w hb L lq lt la vC vS qs ts as [] h' m' → Sync 0 qs ts as → m' (Str.ofString "script") = m (Str.ofString "script") → wpAny (model prog w) A (execs (lawB.drop 3) (lenv L fa cd)) Q E { s with heap := h', toks := tk }) :
    wpAny (model prog w) A (execs lawB (lenv L fa cd)) Q E s := by
  have Bs : Base w s.heap := B.keeps F.keep
  obtain ⟨oL, gL, kL⟩ := ns_kd F.ns
  refine wpAny_execs_cons ?_
  refine wpAny_Assign_Name ?_
  refine List_ ?_
  refine args_cons ?_
  refine Call_ ?_
  refine Base.glob (w := w) Bs (G_quoter _) ?_
  refine callWith_K (K := K w.params) Bs.k (keep49 _) ?_
  refine args_cons ?_
  refine PySem.W.Constant_bytes ?_
  refine args_nil ⟨Bs.k, wpAny_call ?_⟩
  refine mk_quoter (s := { s with toks := s.toks + 1 }) (T := fun k => (KBw.bInts #[]).contains k) Bs rm.rm (fun z => by cases z) (fun A' E' h' hh _ => gives_bytes hh (fun k hk => by cases hk)) fun q d f h₁ tk₁ tk' n' one ex₁ nq nd nf qd qf df gq gd gf le => ?_
  have K₁ : ∀ b o, s.heap.get? b = some o → h₁.get? b = some o := fun b o e => ex₁ b o (by simp) e
  refine args_nil ?_
  refine wpAny_newObj_type ?_ (by size_fits)
  dsimp only
  have gq₂ : (h₁.push { cls := .type "list", data := .seq [Value.ref q].toArray }).get? h₁.objs.size = some { cls := .type "list", data := .seq [Value.ref q].toArray } := Heap.get?_push_size _ rfl
  have K₂ : ∀ b o, h₁.get? b = some o → (h₁.push { cls := .type "list", data := .seq [Value.ref q].toArray }).get? b = some o := fun b o e => Heap.get?_push_of_some _ e
  have z₂ : (h₁.push { cls := .type "list", data := .seq [Value.ref q].toArray }).objs.size = h₁.objs.size + 1 := Heap.size_push ..
  generalize h₁.push { cls := .type "list", data := .seq [Value.ref q].toArray } = h₂ at gq₂ K₂ z₂ ⊢
  have F₂ : Fr hb L h₂ m := PyProof.Rows.Fr.keptAll F fun b o e => K₂ b o (K₁ b o e)
  have nLb : ∀ {x}, s.heap.get? x = none → x ≠ L := fun nx e => by rw [e, gL] at nx; cases nx
  have old : ∀ {x}, h₁.objs.size ≤ x → s.heap.get? x = none := fun {x} hx => by
    cases e : s.heap.get? x with
    | none => rfl
    | some o => exact absurd (Heap.lt_size (K₁ _ _ e)) (Nat.not_lt.mpr hx)
  have fb : ∀ {x}, s.heap.get? x = none → hb.get? x = none := fun nx => fresh_b (S := True) F nx
  refine wpAny_storeName_local (env := lenv L fa cd) (s := { s with heap := h₂, toks := tk₁ }) rfl F₂.ns fun h₃ n₃ sb₃ => ?_
  have z₃ : h₃.objs.size = h₁.objs.size + 1 := (sb₃.1).trans z₂
  have F₃ := F₂.set n₃ sb₃
  refine wpAny_execs_cons ?_
  refine wpAny_Assign_Name ?_
  refine List_ ?_
  refine args_cons ?_
  refine List_ ?_
  refine args_nil ?_
  refine wpAny_newObj_type ?_ (by size_fits)
  refine args_nil ?_
  refine wpAny_newObj_type ?_ (by size_fits)
  dsimp only
  have g₄ : (h₃.push { cls := .type "list", data := .seq ([] : List Value).toArray }).get? h₃.objs.size = some { cls := .type "list", data := .seq ([] : List Value).toArray } := Heap.get?_push_size _ rfl
  have K₄ : ∀ b o, h₃.get? b = some o → (h₃.push { cls := .type "list", data := .seq ([] : List Value).toArray }).get? b = some o := fun b o e => Heap.get?_push_of_some _ e
  have z₄ : (h₃.push { cls := .type "list", data := .seq ([] : List Value).toArray }).objs.size = h₁.objs.size + 2 := by rw [Heap.size_push, z₃]
  rw [z₃] at g₄ ⊢
  generalize h₃.push { cls := .type "list", data := .seq ([] : List Value).toArray } = h₄ at g₄ K₄ z₄ ⊢
  have g₅ : (h₄.push { cls := .type "list", data := .seq [Value.ref (h₁.objs.size + 1)].toArray }).get? h₄.objs.size = some { cls := .type "list", data := .seq [Value.ref (h₁.objs.size + 1)].toArray } := Heap.get?_push_size _ rfl
  have K₅ : ∀ b o, h₄.get? b = some o → (h₄.push { cls := .type "list", data := .seq [Value.ref (h₁.objs.size + 1)].toArray }).get? b = some o := fun b o e => Heap.get?_push_of_some _ e
  have z₅ : (h₄.push { cls := .type "list", data := .seq [Value.ref (h₁.objs.size + 1)].toArray }).objs.size = h₁.objs.size + 3 := by rw [Heap.size_push, z₄]
  rw [z₄] at g₅ ⊢
  generalize h₄.push { cls := .type "list", data := .seq [Value.ref (h₁.objs.size + 1)].toArray } = h₅ at g₅ K₅ z₅ ⊢
  have F₅ : Fr hb L h₅ _ := PyProof.Rows.Fr.keptAll F₃ fun b o e => K₅ b o (K₄ b o e)
  refine wpAny_storeName_local (env := lenv L fa cd) (s := { s with heap := h₅, toks := tk₁ + 1 }) rfl F₅.ns fun h₆ n₆ sb₆ => ?_
  have z₆ : h₆.objs.size = h₁.objs.size + 3 := (sb₆.1).trans z₅
  have F₆ := F₅.set n₆ sb₆
  refine wpAny_execs_cons ?_
  refine wpAny_Assign_Name ?_
  refine List_ ?_
  refine args_cons ?_
  refine List_ ?_
  refine args_nil ?_
  refine wpAny_newObj_type ?_ (by size_fits)
  refine args_nil ?_
  refine wpAny_newObj_type ?_ (by size_fits)
  dsimp only
  have g₇ : (h₆.push { cls := .type "list", data := .seq ([] : List Value).toArray }).get? h₆.objs.size = some { cls := .type "list", data := .seq ([] : List Value).toArray } := Heap.get?_push_size _ rfl
  have K₇ : ∀ b o, h₆.get? b = some o → (h₆.push { cls := .type "list", data := .seq ([] : List Value).toArray }).get? b = some o := fun b o e => Heap.get?_push_of_some _ e
  have z₇ : (h₆.push { cls := .type "list", data := .seq ([] : List Value).toArray }).objs.size = h₁.objs.size + 4 := by rw [Heap.size_push, z₆]
  rw [z₆] at g₇ ⊢
  generalize h₆.push { cls := .type "list", data := .seq ([] : List Value).toArray } = h₇ at g₇ K₇ z₇ ⊢
  have g₈ : (h₇.push { cls := .type "list", data := .seq [Value.ref (h₁.objs.size + 3)].toArray }).get? h₇.objs.size = some { cls := .type "list", data := .seq [Value.ref (h₁.objs.size + 3)].toArray } := Heap.get?_push_size _ rfl
  have K₈ : ∀ b o, h₇.get? b = some o → (h₇.push { cls := .type "list", data := .seq [Value.ref (h₁.objs.size + 3)].toArray }).get? b = some o := fun b o e => Heap.get?_push_of_some _ e
  rw [z₇] at g₈ ⊢
  generalize h₇.push { cls := .type "list", data := .seq [Value.ref (h₁.objs.size + 3)].toArray } = h₈ at g₈ K₈ ⊢
  have F₈ : Fr hb L h₈ _ := PyProof.Rows.Fr.keptAll F₆ fun b o e => K₈ b o (K₇ b o e)
  refine wpAny_storeName_local (env := lenv L fa cd) (s := { s with heap := h₈, toks := tk₁ + 1 + 1 }) rfl F₈.ns fun h₉ n₉ sb₉ => ?_
  have F₉ := F₈.set n₉ sb₉
  have k3 : ∀ b o, b ≠ L → h₂.get? b = some o → h₃.get? b = some o := fun b o ne e => (sb₃.2 b ne).trans e
  have k6 : ∀ b o, b ≠ L → h₃.get? b = some o → h₆.get? b = some o := fun b o ne e => (sb₆.2 b ne).trans (K₅ b o (K₄ b o e))
  have k6' : ∀ b o, b ≠ L → h₄.get? b = some o → h₆.get? b = some o := fun b o ne e => (sb₆.2 b ne).trans (K₅ b o e)
  have k6'' : ∀ b o, b ≠ L → h₅.get? b = some o → h₆.get? b = some o := fun b o ne e => (sb₆.2 b ne).trans e
  have k9 : ∀ b o, b ≠ L → h₆.get? b = some o → h₉.get? b = some o := fun b o ne e => (sb₉.2 b ne).trans (K₈ b o (K₇ b o e))
  have k9' : ∀ b o, b ≠ L → h₇.get? b = some o → h₉.get? b = some o := fun b o ne e => (sb₉.2 b ne).trans (K₈ b o e)
  have k9'' : ∀ b o, b ≠ L → h₈.get? b = some o → h₉.get? b = some o := fun b o ne e => (sb₉.2 b ne).trans e
  have k1 : ∀ b o, b ≠ L → h₁.get? b = some o → h₉.get? b = some o := fun b o ne e => k9 b o ne (k6 b o ne (k3 b o ne (K₂ b o e)))
  have o0 := old (x := h₁.objs.size) (Nat.le_refl _)
  have o1 := old (x := h₁.objs.size + 1) (Nat.le_add_right _ _)
  have o2 := old (x := h₁.objs.size + 2) (Nat.le_add_right _ _)
  have o3 := old (x := h₁.objs.size + 3) (Nat.le_add_right _ _)
  have o4 := old (x := h₁.objs.size + 4) (Nat.le_add_right _ _)
  have fL3 : f ≠ L := nLb nf
  have cell : ∀ {a v}, s.heap.IsCell a v → h₉.IsCell a v := fun x => by
    obtain ⟨o', e', z⟩ := cell_kd x
    obtain ⟨o, e, dd⟩ := x
    exact ⟨o, k1 _ _ (by
      rw [e] at e'; cases e'
      exact ne_kind e gL (by rw [z]; rcases kL with q | q <;> rw [q] <;> decide)) (K₁ _ _ e), dd⟩
  refine h h₉ _ _ h₁.objs.size (h₁.objs.size + 2) (h₁.objs.size + 4) [⟨q, d, f, [], []⟩] [⟨h₁.objs.size + 1, []⟩] [⟨h₁.objs.size + 3, []⟩] {
      base := B, F := F₉, mq := rfl, mt := rfl, ma := rfl
      gq := ⟨_, k9 _ _ (nLb o0) (k6 _ _ (nLb o0) (k3 _ _ (nLb o0) gq₂))⟩
      gt := ⟨_, k9 _ _ (nLb o2) (k6'' _ _ (nLb o2) g₅)⟩
      ga := ⟨_, k9'' _ _ (nLb o4) g₈⟩
      cc := cell c1, cs := cell c2
      qat := fun x hx => by
        rw [List.mem_singleton] at hx; subst hx
        exact {
          one := one
          obj := ⟨_, _, k1 _ _ (nLb nq) gq, EsOk.nil _⟩
          dic := ⟨_, k1 _ _ (nLb nd) gd⟩
          set := ⟨n', (gf.at fun o e => k1 _ _ fL3 e).congr fun k => by unfold told; rw [contains_any]; rfl, le⟩
          tlr := fun k hk => by cases hk
          ksr := fun k hk => by cases hk }
      tat := fun x hx => by rw [List.mem_singleton] at hx; subst hx; exact ⟨[], ⟨_, k9 _ _ (nLb o1) (k6' _ _ (nLb o1) g₄)⟩, .nil⟩
      aat := fun x hx => by rw [List.mem_singleton] at hx; subst hx; exact ⟨[], ⟨_, k9' _ _ (nLb o3) g₇⟩, .nil⟩
      ndl := by
        generalize h₁.objs.size = N
        show ([N, N + 2, N + 4, N + 1, N + 3] : List Nat).Nodup
        simp
      ndq := by simp
      cne := Nat.ne_of_lt (Nat.lt_succ_self _)
      off := fun x hx => by rw [List.mem_singleton] at hx; subst hx; exact ⟨nLb nq, nLb nd⟩
      fC := f1, fS := f2, fL := fL
      fl := fun a ha => by
        simp only [List.map_cons, List.map_nil, List.mem_cons, List.mem_append, List.not_mem_nil, or_false] at ha
        rcases ha with rfl | rfl | rfl | rfl | rfl
        · exact fb o0
        · exact fb o2
        · exact fb o4
        · exact fb o1
        · exact fb o3
      fq := fun x hx => by rw [List.mem_singleton] at hx; subst hx; exact fb nq
      prk := fun p hp => by cases hp } ⟨rfl, rfl, by simp, by simp, fun x hx => by rw [List.mem_singleton] at hx; subst hx; simp, fun x hx => by rw [List.mem_singleton] at hx; subst hx; simp⟩ rfl
end
end Mine
end
section
open PySem PySem.W PyProof.Rows PySem.Calls Builtin Builtin.ObjectAttr
set_option Elab.async false
set_option linter.unusedVariables false
set_option maxRecDepth 100000
namespace Mine
theorem G_fs (P : Params) : nsIn (K P) mainGlobals (Str.ofString "frozenset") = some none := by kernel_rfl
theorem plain_alw {l : List Int} (h1 : l.all alw = true) (h2 : alwL.all (fun k => l.contains k) = true) (k : Int) : l.contains k = alw k := by
  refine Bool.eq_iff_iff.mpr ⟨fun h => ?_, fun h => ?_⟩
  · exact List.all_eq_true.mp h1 k (List.contains_iff_mem.mp h)
  · exact List.all_eq_true.mp h2 k ((alw_mem k).mp h)
section
variable {prog : Program} {w : World} {A : Around} {E : Value → Shared → Prop} {s : Shared} {hb : Heap} {L fa : Addr} {cd : Value} {vC vS : Option Value} {m : PySem.Str → Option Value}
set_option maxHeartbeats 2000000 in
theorem law_all {lsc : Addr} {vs : List Value} {ns : List Int} {Q : Flow → Shared → Prop} (B : Base w hb) (F : Fr hb L s.heap m) (fL : hb.get? L = none) (c1 : s.heap.IsCell (L + 1) vC) (c2 : s.heap.IsCell (L + 1 + 1) vS) (f1 : hb.get? (L + 1) = none) (f2 : hb.get? (L + 1 + 1) = none) (rm : RmL A) (hfr : A.frames = some [lenv L fa cd])
    (hsc : m (Str.ofString "script") = some (.ref lsc)) (hL : hb.IsList lsc vs.toArray) (iv : IntsAre vs ns) (hlen : ns.length ≤ 63)
    (h : ∀ h' tk m', Fr hb L h' m' → Q (.ret (.bool true)) { s with heap := h', toks := tk }) :
    wpAny (model prog w) A (execs lawB (lenv L fa cd)) Q E s := by
  refine law_start B F fL c1 c2 f1 f2 rm fun h₁ tk₁ m₁ lq lt la qs ts as S₁ Y₁ em => ?_
  refine wpAny_execs_cons ?_
  refine main_loop (s := { s with heap := h₁, toks := tk₁ }) rm hfr S₁ Y₁ (em.trans hsc) (PyProof.Rows.lstKept hL S₁.F.keep) iv hlen fun h₂ tk₂ m₂ vC₂ vS₂ qs₂ ts₂ as₂ i hi S₂ Y₂ => ?_
  refine wpAny_execs_cons ?_
  refine wpAny_Assign_Name ?_
  refine Call_ ?_
  refine Base.blt (w := w) S₂.B (G_fs _) PyProof.Rows.Boot.frozenset ?_
  refine PyProof.Rows.callWith_type1 ?_
  refine args_cons ?_
  refine PySem.W.Constant_bytes ?_
  refine args_nil ?_
  refine call_fs_bytes (s := { s with heap := h₂, toks := tk₂ + 1 }) rm.h (by decide +kernel) fun r h₃ tk₃ n₃ ex₃ nr gr => ?_
  have gr' := gr.congr (plain_alw (by decide +kernel) (by decide +kernel))
  have S₃ := St.ext S₂ fun b o e => ex₃ b o (by simp) e
  have nin := St.notIn S₂ nr
  obtain ⟨es, ep, tb, g, x⟩ := gr'
  have lo := x.ge (l := alwL) (by decide +kernel) (fun k hk => (alw_mem k).mpr hk)
  have hi' := x.leOf (l := alwL) (fun k hk => (alw_mem k).mp hk)
  have l66 : alwL.length = 66 := by decide +kernel
  rw [l66] at lo hi'
  have nr' : r ∉ (lq :: lt :: la :: as₂.map (·.a)) := fun z => nin (by
    simp only [List.mem_cons, List.mem_append] at z ⊢
    rcases z with z | z | z | z
    · exact .inl z
    · exact .inr (.inl z)
    · exact .inr (.inr (.inl z))
    · exact .inr (.inr (.inr (.inr z))))
  refine lst (s := { s with heap := h₃, toks := tk₃ }) (St.addPr S₃ g nr' (.inr (.inr rfl))) fun h₄ S₄ => ?_
  refine wpAny_execs_cons ?_
  refine last_loop (s := { s with heap := h₄, toks := tk₃ + 1 }) (pl := r) (n := n₃) rm (St.delPr S₄) Y₂ hi rfl ⟨_, _, _, (S₄.prk _ (.head _)).1, x⟩ (by omega) (by omega) nr' fun h₅ tk₅ m₅ F₅ => ?_
  refine wpAny_execs_cons ?_
  refine wpAny_Return_some ?_
  refine wpAny_Constant_bool ?_
  exact h h₅ tk₅ m₅ F₅
end
end Mine
end
section
open PySem PySem.W PyProof.Rows PySem.Calls
set_option Elab.async false
set_option maxRecDepth 100000
namespace Mine
set_option maxHeartbeats 4000000 in
theorem Xtop : PySem.Challenge.rw_dn0241_02.Holds := by
  refine holds_of ?_
  w_on
  k_fill
  intro w s₀ s₁ mg mb G Y fa o pm cd doc dV kV ho hd hcd hD hmg hg args vals as hpre hlay hrd hwl hlo
  obtain ⟨KX, KS⟩ := Y
  have KX : (K w.params).In s₁.heap := KX
  k_behind G ho hd hcd hD hmg hpre hlay hrd hwl hlo cd
  rename Top _ _ _ _ _ _ => T
  rename Fr _ _ _ _ => F0
  rename IntsAre _ _ => hI
  rename News _ _ _ _ => N0
  rename Heap.IsList _ _ _ => hL
  rename (¬ _ < _) => hlen
  obtain ⟨nS, nC⟩ : _ ∧ _ := ⟨N0 _ (.head _), N0 _ (.tail _ (.head _))⟩
  refine law_all (hb := s₁.heap) (L := s₁.heap.objs.size) ⟨KX, KS, ⟨mg, T.g⟩, ⟨mb, T.b, T.builtins⟩, T.nolimit, T.nodigits⟩ F0 (get_size _) ⟨_, nC.1, by assumption⟩ ⟨_, nS.1, by assumption⟩ nC.2.2 nS.2.2 ⟨rfl, (by show 1 + 300 + 1 ≤ 350; decide), (by show 4 + 3 ≤ 100; decide)⟩ rfl rfl hL hI (by omega) fun h' tk m' F' => ?_
  refine goodW_bool F' hg (raisesW_false ?_) ?_
  · wrow_none_raised
  · first | wrow_post | kc_post
end Mine
end
theorem PySem.Challenge.cw_dn0241_02_holds : PySem.Challenge.rw_dn0241_02.Holds := by
  exact Mine.Xtop
