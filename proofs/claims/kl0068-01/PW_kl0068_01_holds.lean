import PyProof.Rows.All
import Wide.All
import OpenK.AllK
import Wide.FinOn
import PySem.Challenge.RW_kl0068_01
set_option Elab.async false
section
open PySem PySem.W PySem.Spec PySem.Calls PyProof.Rows
set_option maxRecDepth 100000
set_option maxHeartbeats 8000000
namespace Mine
/-- the text's statement at a place -/
noncomputable def stAt (i : Nat) : Stmt := (PySem.Challenge.pw_kl0068_01.main.body)[i]?.getD (.Pass ⟨0, 0, 0, 0⟩)
noncomputable def args1 : Arguments := (by exact fun x _ => x : (x : Arguments) → (∃ n b d r tp sc ts bi po, stAt 1 = Stmt.FunctionDef n x b d r tp sc ts bi po) → Arguments) _ ⟨_, _, _, _, _, _, _, _, _, rfl⟩
noncomputable def body1 : List Stmt := (by exact fun x _ => x : (x : List Stmt) → (∃ n a d r tp sc ts bi po, stAt 1 = Stmt.FunctionDef n a x d r tp sc ts bi po) → List Stmt) _ ⟨_, _, _, _, _, _, _, _, _, rfl⟩
noncomputable def scope1 : Scope := (by exact fun x _ => x : (x : Scope) → (∃ n a b d r tp ts bi po, stAt 1 = Stmt.FunctionDef n a b d r tp x ts bi po) → Scope) _ ⟨_, _, _, _, _, _, _, _, _, rfl⟩
noncomputable def args6 : Arguments := (by exact fun x _ => x : (x : Arguments) → (∃ n b d r tp sc ts bi po, stAt 6 = Stmt.FunctionDef n x b d r tp sc ts bi po) → Arguments) _ ⟨_, _, _, _, _, _, _, _, _, rfl⟩
noncomputable def body6 : List Stmt := (by exact fun x _ => x : (x : List Stmt) → (∃ n a d r tp sc ts bi po, stAt 6 = Stmt.FunctionDef n a x d r tp sc ts bi po) → List Stmt) _ ⟨_, _, _, _, _, _, _, _, _, rfl⟩
noncomputable def scope6 : Scope := (by exact fun x _ => x : (x : Scope) → (∃ n a b d r tp ts bi po, stAt 6 = Stmt.FunctionDef n a b d r tp x ts bi po) → Scope) _ ⟨_, _, _, _, _, _, _, _, _, rfl⟩
noncomputable def args8 : Arguments := (by exact fun x _ => x : (x : Arguments) → (∃ n b d r tp sc ts bi po, stAt 8 = Stmt.FunctionDef n x b d r tp sc ts bi po) → Arguments) _ ⟨_, _, _, _, _, _, _, _, _, rfl⟩
noncomputable def body8 : List Stmt := (by exact fun x _ => x : (x : List Stmt) → (∃ n a d r tp sc ts bi po, stAt 8 = Stmt.FunctionDef n a x d r tp sc ts bi po) → List Stmt) _ ⟨_, _, _, _, _, _, _, _, _, rfl⟩
noncomputable def scope8 : Scope := (by exact fun x _ => x : (x : Scope) → (∃ n a b d r tp ts bi po, stAt 8 = Stmt.FunctionDef n a b d r tp x ts bi po) → Scope) _ ⟨_, _, _, _, _, _, _, _, _, rfl⟩
noncomputable def args9 : Arguments := (by exact fun x _ => x : (x : Arguments) → (∃ n b d r tp sc ts bi po, stAt 9 = Stmt.FunctionDef n x b d r tp sc ts bi po) → Arguments) _ ⟨_, _, _, _, _, _, _, _, _, rfl⟩
noncomputable def body9 : List Stmt := (by exact fun x _ => x : (x : List Stmt) → (∃ n a d r tp sc ts bi po, stAt 9 = Stmt.FunctionDef n a x d r tp sc ts bi po) → List Stmt) _ ⟨_, _, _, _, _, _, _, _, _, rfl⟩
noncomputable def scope9 : Scope := (by exact fun x _ => x : (x : Scope) → (∃ n a b d r tp ts bi po, stAt 9 = Stmt.FunctionDef n a b d r tp x ts bi po) → Scope) _ ⟨_, _, _, _, _, _, _, _, _, rfl⟩
noncomputable def args11 : Arguments := (by exact fun x _ => x : (x : Arguments) → (∃ n b d r tp sc ts bi po, stAt 11 = Stmt.FunctionDef n x b d r tp sc ts bi po) → Arguments) _ ⟨_, _, _, _, _, _, _, _, _, rfl⟩
noncomputable def body11 : List Stmt := (by exact fun x _ => x : (x : List Stmt) → (∃ n a d r tp sc ts bi po, stAt 11 = Stmt.FunctionDef n a x d r tp sc ts bi po) → List Stmt) _ ⟨_, _, _, _, _, _, _, _, _, rfl⟩
noncomputable def scope11 : Scope := (by exact fun x _ => x : (x : Scope) → (∃ n a b d r tp ts bi po, stAt 11 = Stmt.FunctionDef n a b d r tp x ts bi po) → Scope) _ ⟨_, _, _, _, _, _, _, _, _, rfl⟩
noncomputable def args13 : Arguments := (by exact fun x _ => x : (x : Arguments) → (∃ n b d r tp sc ts bi po, stAt 13 = Stmt.FunctionDef n x b d r tp sc ts bi po) → Arguments) _ ⟨_, _, _, _, _, _, _, _, _, rfl⟩
noncomputable def body13 : List Stmt := (by exact fun x _ => x : (x : List Stmt) → (∃ n a d r tp sc ts bi po, stAt 13 = Stmt.FunctionDef n a x d r tp sc ts bi po) → List Stmt) _ ⟨_, _, _, _, _, _, _, _, _, rfl⟩
noncomputable def scope13 : Scope := (by exact fun x _ => x : (x : Scope) → (∃ n a b d r tp ts bi po, stAt 13 = Stmt.FunctionDef n a b d r tp x ts bi po) → Scope) _ ⟨_, _, _, _, _, _, _, _, _, rfl⟩
noncomputable def args17 : Arguments := (by exact fun x _ => x : (x : Arguments) → (∃ n b d r tp sc ts bi po, stAt 17 = Stmt.FunctionDef n x b d r tp sc ts bi po) → Arguments) _ ⟨_, _, _, _, _, _, _, _, _, rfl⟩
noncomputable def body17 : List Stmt := (by exact fun x _ => x : (x : List Stmt) → (∃ n a d r tp sc ts bi po, stAt 17 = Stmt.FunctionDef n a x d r tp sc ts bi po) → List Stmt) _ ⟨_, _, _, _, _, _, _, _, _, rfl⟩
noncomputable def scope17 : Scope := (by exact fun x _ => x : (x : Scope) → (∃ n a b d r tp ts bi po, stAt 17 = Stmt.FunctionDef n a b d r tp x ts bi po) → Scope) _ ⟨_, _, _, _, _, _, _, _, _, rfl⟩
noncomputable def args19 : Arguments := (by exact fun x _ => x : (x : Arguments) → (∃ n b d r tp sc ts bi po, stAt 19 = Stmt.FunctionDef n x b d r tp sc ts bi po) → Arguments) _ ⟨_, _, _, _, _, _, _, _, _, rfl⟩
noncomputable def body19 : List Stmt := (by exact fun x _ => x : (x : List Stmt) → (∃ n a d r tp sc ts bi po, stAt 19 = Stmt.FunctionDef n a x d r tp sc ts bi po) → List Stmt) _ ⟨_, _, _, _, _, _, _, _, _, rfl⟩
noncomputable def scope19 : Scope := (by exact fun x _ => x : (x : Scope) → (∃ n a b d r tp ts bi po, stAt 19 = Stmt.FunctionDef n a b d r tp x ts bi po) → Scope) _ ⟨_, _, _, _, _, _, _, _, _, rfl⟩
noncomputable def args21 : Arguments := (by exact fun x _ => x : (x : Arguments) → (∃ n b d r tp sc ts bi po, stAt 21 = Stmt.FunctionDef n x b d r tp sc ts bi po) → Arguments) _ ⟨_, _, _, _, _, _, _, _, _, rfl⟩
noncomputable def body21 : List Stmt := (by exact fun x _ => x : (x : List Stmt) → (∃ n a d r tp sc ts bi po, stAt 21 = Stmt.FunctionDef n a x d r tp sc ts bi po) → List Stmt) _ ⟨_, _, _, _, _, _, _, _, _, rfl⟩
noncomputable def scope21 : Scope := (by exact fun x _ => x : (x : Scope) → (∃ n a b d r tp ts bi po, stAt 21 = Stmt.FunctionDef n a b d r tp x ts bi po) → Scope) _ ⟨_, _, _, _, _, _, _, _, _, rfl⟩
noncomputable def args22 : Arguments := (by exact fun x _ => x : (x : Arguments) → (∃ n b d r tp sc ts bi po, stAt 22 = Stmt.FunctionDef n x b d r tp sc ts bi po) → Arguments) _ ⟨_, _, _, _, _, _, _, _, _, rfl⟩
noncomputable def body22 : List Stmt := (by exact fun x _ => x : (x : List Stmt) → (∃ n a d r tp sc ts bi po, stAt 22 = Stmt.FunctionDef n a x d r tp sc ts bi po) → List Stmt) _ ⟨_, _, _, _, _, _, _, _, _, rfl⟩
noncomputable def scope22 : Scope := (by exact fun x _ => x : (x : Scope) → (∃ n a b d r tp ts bi po, stAt 22 = Stmt.FunctionDef n a b d r tp x ts bi po) → Scope) _ ⟨_, _, _, _, _, _, _, _, _, rfl⟩
noncomputable def args23 : Arguments := (by exact fun x _ => x : (x : Arguments) → (∃ n b d r tp sc ts bi po, stAt 23 = Stmt.FunctionDef n x b d r tp sc ts bi po) → Arguments) _ ⟨_, _, _, _, _, _, _, _, _, rfl⟩
noncomputable def body23 : List Stmt := (by exact fun x _ => x : (x : List Stmt) → (∃ n a d r tp sc ts bi po, stAt 23 = Stmt.FunctionDef n a x d r tp sc ts bi po) → List Stmt) _ ⟨_, _, _, _, _, _, _, _, _, rfl⟩
noncomputable def scope23 : Scope := (by exact fun x _ => x : (x : Scope) → (∃ n a b d r tp ts bi po, stAt 23 = Stmt.FunctionDef n a b d r tp x ts bi po) → Scope) _ ⟨_, _, _, _, _, _, _, _, _, rfl⟩
noncomputable def args24 : Arguments := (by exact fun x _ => x : (x : Arguments) → (∃ n b d r tp sc ts bi po, stAt 24 = Stmt.FunctionDef n x b d r tp sc ts bi po) → Arguments) _ ⟨_, _, _, _, _, _, _, _, _, rfl⟩
noncomputable def body24 : List Stmt := (by exact fun x _ => x : (x : List Stmt) → (∃ n a d r tp sc ts bi po, stAt 24 = Stmt.FunctionDef n a x d r tp sc ts bi po) → List Stmt) _ ⟨_, _, _, _, _, _, _, _, _, rfl⟩
noncomputable def scope24 : Scope := (by exact fun x _ => x : (x : Scope) → (∃ n a b d r tp ts bi po, stAt 24 = Stmt.FunctionDef n a b d r tp x ts bi po) → Scope) _ ⟨_, _, _, _, _, _, _, _, _, rfl⟩
noncomputable def args25 : Arguments := (by exact fun x _ => x : (x : Arguments) → (∃ n b d r tp sc ts bi po, stAt 25 = Stmt.FunctionDef n x b d r tp sc ts bi po) → Arguments) _ ⟨_, _, _, _, _, _, _, _, _, rfl⟩
noncomputable def body25 : List Stmt := (by exact fun x _ => x : (x : List Stmt) → (∃ n a d r tp sc ts bi po, stAt 25 = Stmt.FunctionDef n a x d r tp sc ts bi po) → List Stmt) _ ⟨_, _, _, _, _, _, _, _, _, rfl⟩
noncomputable def scope25 : Scope := (by exact fun x _ => x : (x : Scope) → (∃ n a b d r tp ts bi po, stAt 25 = Stmt.FunctionDef n a b d r tp x ts bi po) → Scope) _ ⟨_, _, _, _, _, _, _, _, _, rfl⟩
noncomputable def args26 : Arguments := (by exact fun x _ => x : (x : Arguments) → (∃ n b d r tp sc ts bi po, stAt 26 = Stmt.FunctionDef n x b d r tp sc ts bi po) → Arguments) _ ⟨_, _, _, _, _, _, _, _, _, rfl⟩
noncomputable def body26 : List Stmt := (by exact fun x _ => x : (x : List Stmt) → (∃ n a d r tp sc ts bi po, stAt 26 = Stmt.FunctionDef n a x d r tp sc ts bi po) → List Stmt) _ ⟨_, _, _, _, _, _, _, _, _, rfl⟩
noncomputable def scope26 : Scope := (by exact fun x _ => x : (x : Scope) → (∃ n a b d r tp ts bi po, stAt 26 = Stmt.FunctionDef n a b d r tp x ts bi po) → Scope) _ ⟨_, _, _, _, _, _, _, _, _, rfl⟩
/-- what stands behind the top, as far as the law can come to it (the addresses printed by a program of mine; the defs' trees are the row's own) -/
noncomputable def kk : Params → Frag := (by exact fun k _ => k : (k : Params → Frag) → (k = fun P => ((nat_lit 3, ⟨(.type "dict"), none, (.dict #[⟨(PySem.PyData.keyHash P (Str.ofString "__name__")), (.str (Str.ofString "__name__") (165 : Nat)), (.str (Str.ofString "law_kl0068_01") (615 : Nat))⟩, ⟨(PySem.PyData.keyHash P (Str.ofString "__doc__")), (.str (Str.ofString "__doc__") (166 : Nat)), .none⟩, ⟨(PySem.PyData.keyHash P (Str.ofString "__package__")), (.str (Str.ofString "__package__") (167 : Nat)), .none⟩, ⟨(PySem.PyData.keyHash P (Str.ofString "__loader__")), (.str (Str.ofString "__loader__") (168 : Nat)), (.builtin "__main__.__loader__#opaque")⟩, ⟨(PySem.PyData.keyHash P (Str.ofString "__spec__")), (.str (Str.ofString "__spec__") (169 : Nat)), .none⟩, ⟨(PySem.PyData.keyHash P (Str.ofString "__annotations__")), (.str (Str.ofString "__annotations__") (170 : Nat)), (.ref (6 : Nat))⟩, ⟨(PySem.PyData.keyHash P (Str.ofString "__builtins__")), (.str (Str.ofString "__builtins__") (171 : Nat)), (.ref (4 : Nat))⟩, ⟨(PySem.PyData.keyHash P (Str.ofString "__file__")), (.str (Str.ofString "__file__") (173 : Nat)), (.str (Str.ofString "/claim/cut.py") (172 : Nat))⟩, ⟨(PySem.PyData.keyHash P (Str.ofString "__cached__")), (.str (Str.ofString "__cached__") (174 : Nat)), .none⟩, ⟨(PySem.PyData.keyHash P (Str.ofString "_sre")), (.str (Str.ofString "_sre") (275 : Nat)), (.ref (12 : Nat))⟩, ⟨(PySem.PyData.keyHash P (Str.ofString "_wall")), (.str (Str.ofString "_wall") (288 : Nat)), (.ref (38 : Nat))⟩, ⟨(PySem.PyData.keyHash P (Str.ofString "Error")), (.str (Str.ofString "Error") (310 : Nat)), (.ref (48 : Nat))⟩, ⟨(PySem.PyData.keyHash P (Str.ofString "error_reply")), (.str (Str.ofString "error_reply") (326 : Nat)), (.ref (61 : Nat))⟩, ⟨(PySem.PyData.keyHash P (Str.ofString "error_proto")), (.str (Str.ofString "error_proto") (342 : Nat)), (.ref (73 : Nat))⟩, ⟨(PySem.PyData.keyHash P (Str.ofString "parse229")), (.str (Str.ofString "parse229") (355 : Nat)), (.ref (82 : Nat))⟩, ⟨(PySem.PyData.keyHash P (Str.ofString "_buffer")), (.str (Str.ofString "_buffer") (365 : Nat)), (.ref (89 : Nat))⟩, ⟨(PySem.PyData.keyHash P (Str.ofString "_truth")), (.str (Str.ofString "_truth") (373 : Nat)), (.ref (96 : Nat))⟩, ⟨(PySem.PyData.keyHash P (Str.ofString "_B64")), (.str (Str.ofString "_B64") (375 : Nat)), (.bytes (List.toArray (65 :: 66 :: 67 :: 68 :: 69 :: 70 :: 71 :: 72 :: 73 :: 74 :: 75 :: 76 :: 77 :: 78 :: 79 :: 80 :: 81 :: 82 :: 83 :: 84 :: 85 :: 86 :: 87 :: 88 :: 89 :: 90 :: 97 :: 98 :: 99 :: 100 :: 101 :: 102 :: 103 :: 104 :: 105 :: 106 :: 107 :: 108 :: 109 :: 110 :: 111 :: 112 :: 113 :: 114 :: 115 :: 116 :: 117 :: 118 :: 119 :: 120 :: 121 :: 122 :: 48 :: 49 :: 50 :: 51 :: 52 :: 53 :: 54 :: 55 :: 56 :: 57 :: 43 :: 47 :: [])) (374 : Nat))⟩, ⟨(PySem.PyData.keyHash P (Str.ofString "b2a_base64")), (.str (Str.ofString "b2a_base64") (389 : Nat)), (.ref (104 : Nat))⟩, ⟨(PySem.PyData.keyHash P (Str.ofString "b64encode")), (.str (Str.ofString "b64encode") (400 : Nat)), (.ref (112 : Nat))⟩, ⟨(PySem.PyData.keyHash P (Str.ofString "_twin_re_1")), (.str (Str.ofString "_twin_re_1") (438 : Nat)), (.ref (117 : Nat))⟩, ⟨(PySem.PyData.keyHash P (Str.ofString "_special_chars_map")), (.str (Str.ofString "_special_chars_map") (586 : Nat)), (.ref (119 : Nat))⟩, ⟨(PySem.PyData.keyHash P (Str.ofString "escape")), (.str (Str.ofString "escape") (593 : Nat)), (.ref (129 : Nat))⟩, ⟨(PySem.PyData.keyHash P (Str.ofString "_translate")), (.str (Str.ofString "_translate") (614 : Nat)), (.ref (136 : Nat))⟩, ⟨(PySem.PyData.keyHash P (Str.ofString "_law_pairs")), (.str (Str.ofString "_law_pairs") (627 : Nat)), (.ref (143 : Nat))⟩, ⟨(PySem.PyData.keyHash P (Str.ofString "_law_takes")), (.str (Str.ofString "_law_takes") (633 : Nat)), (.ref (148 : Nat))⟩, ⟨(PySem.PyData.keyHash P (Str.ofString "_law_kept")), (.str (Str.ofString "_law_kept") (648 : Nat)), (.ref (155 : Nat))⟩, ⟨(PySem.PyData.keyHash P (Str.ofString "_law_told")), (.str (Str.ofString "_law_told") (654 : Nat)), (.ref (160 : Nat))⟩, ⟨(PySem.PyData.keyHash P (Str.ofString "_law_due")), (.str (Str.ofString "_law_due") (665 : Nat)), (.ref (167 : Nat))⟩, ⟨(PySem.PyData.keyHash P (Str.ofString "law")), (.str (Str.ofString "law") (673 : Nat)), (.ref (174 : Nat))⟩] (30 : Nat)), #[]⟩) ::
(nat_lit 6, ⟨(.type "dict"), none, (.dict #[] (0 : Nat)), #[]⟩) ::
(nat_lit 11, ⟨(.type "dict"), none, (.dict #[⟨(PySem.PyData.keyHash P (Str.ofString "__name__")), (.str (Str.ofString "__name__") (247 : Nat)), (.str (Str.ofString "_sre") (246 : Nat))⟩, ⟨(PySem.PyData.keyHash P (Str.ofString "__doc__")), (.str (Str.ofString "__doc__") (248 : Nat)), .none⟩, ⟨(PySem.PyData.keyHash P (Str.ofString "__package__")), (.str (Str.ofString "__package__") (250 : Nat)), (.str (Str.ofString "") (249 : Nat))⟩, ⟨(PySem.PyData.keyHash P (Str.ofString "__loader__")), (.str (Str.ofString "__loader__") (251 : Nat)), (.builtin "off-the-table:_sre.__loader__:shared#opaque")⟩, ⟨(PySem.PyData.keyHash P (Str.ofString "__spec__")), (.str (Str.ofString "__spec__") (252 : Nat)), (.builtin "off-the-table:_sre.__spec__:shared#opaque")⟩, ⟨(PySem.PyData.keyHash P (Str.ofString "compile")), (.str (Str.ofString "compile") (253 : Nat)), (.builtin "_sre.compile")⟩, ⟨(PySem.PyData.keyHash P (Str.ofString "template")), (.str (Str.ofString "template") (254 : Nat)), (.builtin "off-the-table:_sre.template:shared#opaque")⟩, ⟨(PySem.PyData.keyHash P (Str.ofString "getcodesize")), (.str (Str.ofString "getcodesize") (255 : Nat)), (.builtin "off-the-table:_sre.getcodesize:shared#opaque")⟩, ⟨(PySem.PyData.keyHash P (Str.ofString "ascii_iscased")), (.str (Str.ofString "ascii_iscased") (256 : Nat)), (.builtin "off-the-table:_sre.ascii_iscased:shared#opaque")⟩, ⟨(PySem.PyData.keyHash P (Str.ofString "unicode_iscased")), (.str (Str.ofString "unicode_iscased") (257 : Nat)), (.builtin "off-the-table:_sre.unicode_iscased:shared#opaque")⟩, ⟨(PySem.PyData.keyHash P (Str.ofString "ascii_tolower")), (.str (Str.ofString "ascii_tolower") (258 : Nat)), (.builtin "off-the-table:_sre.ascii_tolower:shared#opaque")⟩, ⟨(PySem.PyData.keyHash P (Str.ofString "unicode_tolower")), (.str (Str.ofString "unicode_tolower") (259 : Nat)), (.builtin "off-the-table:_sre.unicode_tolower:shared#opaque")⟩, ⟨(PySem.PyData.keyHash P (Str.ofString "MAGIC")), (.str (Str.ofString "MAGIC") (261 : Nat)), (.int 20230612 (260 : Nat))⟩, ⟨(PySem.PyData.keyHash P (Str.ofString "CODESIZE")), (.str (Str.ofString "CODESIZE") (263 : Nat)), (.int 4 (262 : Nat))⟩, ⟨(PySem.PyData.keyHash P (Str.ofString "MAXREPEAT")), (.str (Str.ofString "MAXREPEAT") (265 : Nat)), (.int 4294967295 (264 : Nat))⟩, ⟨(PySem.PyData.keyHash P (Str.ofString "MAXGROUPS")), (.str (Str.ofString "MAXGROUPS") (267 : Nat)), (.int 1073741823 (266 : Nat))⟩, ⟨(PySem.PyData.keyHash P (Str.ofString "copyright")), (.str (Str.ofString "copyright") (269 : Nat)), (.str (Str.ofString " SRE 2.2.2 Copyright (c) 1997-2002 by Secret Labs AB ") (268 : Nat))⟩] (17 : Nat)), #[]⟩) ::
(nat_lit 12, ⟨(.type "module"), (some (11 : Nat)), .plain, #[]⟩) ::
(nat_lit 32, ⟨(.type "tuple"), none, (.seq #[] (0 : Nat)), #[]⟩) ::
(nat_lit 34, ⟨(.type "tuple"), none, (.seq #[(.str (Str.ofString "k") (285 : Nat))] (0 : Nat)), #[]⟩) ::
(nat_lit 35, ⟨(.type "tuple"), none, (.seq #[] (0 : Nat)), #[]⟩) ::
(nat_lit 37, ⟨(.type "code"), none, (.fields #[(.str (Str.ofString "_wall") (282 : Nat)), (.str (Str.ofString "_wall") (283 : Nat)), (.str (Str.ofString "/claim/cut.py") (284 : Nat)), (.int 2 (0 : Nat)), (.int 1 (0 : Nat)), (.int 0 (0 : Nat)), (.int 0 (0 : Nat)), (.int 3 (0 : Nat)), (.ref (32 : Nat)), (.bool true), (.int 276 (0 : Nat)), (.ref (33 : Nat)), .none, (.ref (34 : Nat)), (.ref (35 : Nat)), (.ref (36 : Nat)), (.int 286 (0 : Nat)), (.int 2 (0 : Nat)), (.str (Str.ofString "/claim/cut.py") (287 : Nat))]), #[]⟩) ::
(nat_lit 38, ⟨(.type "function"), none, (.func ⟨(Str.ofString "_wall"), (Str.ofString "_wall"), args1, (.stmts body1), scope1, (3 : Nat), [], .none, .none, .none, (.str (Str.ofString "__main__") (164 : Nat)), none, (.ref (37 : Nat)), .none, (0 : Nat)⟩), #[]⟩) ::
(nat_lit 39, ⟨(.type "tuple"), none, (.seq #[(.type "Exception")] (0 : Nat)), #[]⟩) ::
(nat_lit 46, ⟨(.type "tuple"), none, (.seq #[] (0 : Nat)), #[]⟩) ::
(nat_lit 47, ⟨(.type "dict"), none, (.dict #[⟨(PySem.PyData.keyHash P (Str.ofString "__module__")), (.str (Str.ofString "__module__") (298 : Nat)), (.str (Str.ofString "cpy313.ftplib") (289 : Nat))⟩, ⟨(PySem.PyData.keyHash P (Str.ofString "__firstlineno__")), (.str (Str.ofString "__firstlineno__") (302 : Nat)), (.int 6 (301 : Nat))⟩, ⟨(PySem.PyData.keyHash P (Str.ofString "__static_attributes__")), (.str (Str.ofString "__static_attributes__") (303 : Nat)), (.ref (46 : Nat))⟩, ⟨(PySem.PyData.keyHash P (Str.ofString "__weakref__")), (.str (Str.ofString "__weakref__") (305 : Nat)), (.ref (49 : Nat))⟩, ⟨(PySem.PyData.keyHash P (Str.ofString "__doc__")), (.str (Str.ofString "__doc__") (306 : Nat)), .none⟩] (3 : Nat)), #[]⟩) ::
(nat_lit 48, ⟨(.type "type"), none, (.cls ⟨(Str.ofString "Error"), [(.type "Exception")], [(.ref (48 : Nat)), (.type "Exception"), (.type "BaseException"), (.type "object")], (47 : Nat), (Str.ofString "Error"), true, [], [(.ref (61 : Nat)), (.ref (73 : Nat))], false, none, false⟩), #[(some (.ref (39 : Nat))), none, (some (.str (Str.ofString "Error") (291 : Nat))), (some (.str (Str.ofString "Error") (299 : Nat))), (some (.builtin "Exception.__new__")), (some (.bool true))]⟩) ::
(nat_lit 49, ⟨(.type "getset_descriptor"), none, (.fields #[(.str (Str.ofString "__weakref__") (304 : Nat)), (.ref (48 : Nat)), (.builtin "ExceptionGroup.__weakref__"), .none]), #[]⟩) ::
(nat_lit 52, ⟨(.type "tuple"), none, (.seq #[(.ref (48 : Nat))] (0 : Nat)), #[]⟩) ::
(nat_lit 59, ⟨(.type "tuple"), none, (.seq #[] (0 : Nat)), #[]⟩) ::
(nat_lit 60, ⟨(.type "dict"), none, (.dict #[⟨(PySem.PyData.keyHash P (Str.ofString "__module__")), (.str (Str.ofString "__module__") (318 : Nat)), (.str (Str.ofString "cpy313.ftplib") (289 : Nat))⟩, ⟨(PySem.PyData.keyHash P (Str.ofString "__firstlineno__")), (.str (Str.ofString "__firstlineno__") (322 : Nat)), (.int 8 (321 : Nat))⟩, ⟨(PySem.PyData.keyHash P (Str.ofString "__static_attributes__")), (.str (Str.ofString "__static_attributes__") (323 : Nat)), (.ref (59 : Nat))⟩, ⟨(PySem.PyData.keyHash P (Str.ofString "__doc__")), (.str (Str.ofString "__doc__") (324 : Nat)), .none⟩] (2 : Nat)), #[]⟩) ::
(nat_lit 61, ⟨(.type "type"), none, (.cls ⟨(Str.ofString "error_reply"), [(.ref (48 : Nat))], [(.ref (61 : Nat)), (.ref (48 : Nat)), (.type "Exception"), (.type "BaseException"), (.type "object")], (60 : Nat), (Str.ofString "error_reply"), true, [], [], false, none, false⟩), #[(some (.ref (52 : Nat))), none, (some (.str (Str.ofString "error_reply") (311 : Nat))), (some (.str (Str.ofString "error_reply") (319 : Nat))), (some (.builtin "Exception.__new__")), (some (.bool true))]⟩) ::
(nat_lit 64, ⟨(.type "tuple"), none, (.seq #[(.ref (48 : Nat))] (0 : Nat)), #[]⟩) ::
(nat_lit 71, ⟨(.type "tuple"), none, (.seq #[] (0 : Nat)), #[]⟩) ::
(nat_lit 72, ⟨(.type "dict"), none, (.dict #[⟨(PySem.PyData.keyHash P (Str.ofString "__module__")), (.str (Str.ofString "__module__") (334 : Nat)), (.str (Str.ofString "cpy313.ftplib") (289 : Nat))⟩, ⟨(PySem.PyData.keyHash P (Str.ofString "__firstlineno__")), (.str (Str.ofString "__firstlineno__") (338 : Nat)), (.int 10 (337 : Nat))⟩, ⟨(PySem.PyData.keyHash P (Str.ofString "__static_attributes__")), (.str (Str.ofString "__static_attributes__") (339 : Nat)), (.ref (71 : Nat))⟩, ⟨(PySem.PyData.keyHash P (Str.ofString "__doc__")), (.str (Str.ofString "__doc__") (340 : Nat)), .none⟩] (2 : Nat)), #[]⟩) ::
(nat_lit 73, ⟨(.type "type"), none, (.cls ⟨(Str.ofString "error_proto"), [(.ref (48 : Nat))], [(.ref (73 : Nat)), (.ref (48 : Nat)), (.type "Exception"), (.type "BaseException"), (.type "object")], (72 : Nat), (Str.ofString "error_proto"), true, [], [], false, none, false⟩), #[(some (.ref (64 : Nat))), none, (some (.str (Str.ofString "error_proto") (327 : Nat))), (some (.str (Str.ofString "error_proto") (335 : Nat))), (some (.builtin "Exception.__new__")), (some (.bool true))]⟩) ::
(nat_lit 76, ⟨(.type "tuple"), none, (.seq #[] (0 : Nat)), #[]⟩) ::
(nat_lit 78, ⟨(.type "tuple"), none, (.seq #[(.str (Str.ofString "resp") (346 : Nat)), (.str (Str.ofString "peer") (347 : Nat)), (.str (Str.ofString "left") (348 : Nat)), (.str (Str.ofString "right") (349 : Nat)), (.str (Str.ofString "parts") (350 : Nat)), (.str (Str.ofString "host") (351 : Nat)), (.str (Str.ofString "port") (352 : Nat))] (0 : Nat)), #[]⟩) ::
(nat_lit 79, ⟨(.type "tuple"), none, (.seq #[] (0 : Nat)), #[]⟩) ::
(nat_lit 81, ⟨(.type "code"), none, (.fields #[(.str (Str.ofString "parse229") (343 : Nat)), (.str (Str.ofString "parse229") (344 : Nat)), (.str (Str.ofString "/claim/cut.py") (345 : Nat)), (.int 12 (0 : Nat)), (.int 2 (0 : Nat)), (.int 0 (0 : Nat)), (.int 0 (0 : Nat)), (.int 3 (0 : Nat)), (.ref (76 : Nat)), (.bool true), (.int 276 (0 : Nat)), (.ref (77 : Nat)), .none, (.ref (78 : Nat)), (.ref (79 : Nat)), (.ref (80 : Nat)), (.int 353 (0 : Nat)), (.int 12 (0 : Nat)), (.str (Str.ofString "/claim/cut.py") (354 : Nat))]), #[]⟩) ::
(nat_lit 82, ⟨(.type "function"), none, (.func ⟨(Str.ofString "parse229"), (Str.ofString "parse229"), args6, (.stmts body6), scope6, (3 : Nat), [], .none, .none, .none, (.str (Str.ofString "cpy313.ftplib") (289 : Nat)), none, (.ref (81 : Nat)), .none, (0 : Nat)⟩), #[]⟩) ::
(nat_lit 83, ⟨(.type "tuple"), none, (.seq #[] (0 : Nat)), #[]⟩) ::
(nat_lit 85, ⟨(.type "tuple"), none, (.seq #[(.str (Str.ofString "data") (361 : Nat)), (.str (Str.ofString "t") (362 : Nat))] (0 : Nat)), #[]⟩) ::
(nat_lit 86, ⟨(.type "tuple"), none, (.seq #[] (0 : Nat)), #[]⟩) ::
(nat_lit 88, ⟨(.type "code"), none, (.fields #[(.str (Str.ofString "_buffer") (358 : Nat)), (.str (Str.ofString "_buffer") (359 : Nat)), (.str (Str.ofString "/claim/cut.py") (360 : Nat)), (.int 30 (0 : Nat)), (.int 1 (0 : Nat)), (.int 0 (0 : Nat)), (.int 0 (0 : Nat)), (.int 3 (0 : Nat)), (.ref (83 : Nat)), (.bool true), (.int 276 (0 : Nat)), (.ref (84 : Nat)), .none, (.ref (85 : Nat)), (.ref (86 : Nat)), (.ref (87 : Nat)), (.int 363 (0 : Nat)), (.int 30 (0 : Nat)), (.str (Str.ofString "/claim/cut.py") (364 : Nat))]), #[]⟩) ::
(nat_lit 89, ⟨(.type "function"), none, (.func ⟨(Str.ofString "_buffer"), (Str.ofString "_buffer"), args8, (.stmts body8), scope8, (3 : Nat), [], .none, .none, .none, (.str (Str.ofString "binascii") (356 : Nat)), none, (.ref (88 : Nat)), .none, (0 : Nat)⟩), #[]⟩) ::
(nat_lit 90, ⟨(.type "tuple"), none, (.seq #[] (0 : Nat)), #[]⟩) ::
(nat_lit 92, ⟨(.type "tuple"), none, (.seq #[(.str (Str.ofString "x") (369 : Nat)), (.str (Str.ofString "t") (370 : Nat))] (0 : Nat)), #[]⟩) ::
(nat_lit 93, ⟨(.type "tuple"), none, (.seq #[] (0 : Nat)), #[]⟩) ::
(nat_lit 95, ⟨(.type "code"), none, (.fields #[(.str (Str.ofString "_truth") (366 : Nat)), (.str (Str.ofString "_truth") (367 : Nat)), (.str (Str.ofString "/claim/cut.py") (368 : Nat)), (.int 37 (0 : Nat)), (.int 1 (0 : Nat)), (.int 0 (0 : Nat)), (.int 0 (0 : Nat)), (.int 3 (0 : Nat)), (.ref (90 : Nat)), (.bool true), (.int 276 (0 : Nat)), (.ref (91 : Nat)), .none, (.ref (92 : Nat)), (.ref (93 : Nat)), (.ref (94 : Nat)), (.int 371 (0 : Nat)), (.int 37 (0 : Nat)), (.str (Str.ofString "/claim/cut.py") (372 : Nat))]), #[]⟩) ::
(nat_lit 96, ⟨(.type "function"), none, (.func ⟨(Str.ofString "_truth"), (Str.ofString "_truth"), args9, (.stmts body9), scope9, (3 : Nat), [], .none, .none, .none, (.str (Str.ofString "binascii") (356 : Nat)), none, (.ref (95 : Nat)), .none, (0 : Nat)⟩), #[]⟩) ::
(nat_lit 97, ⟨(.type "dict"), none, (.dict #[⟨(PySem.PyData.keyHash P (Str.ofString "newline")), (.str (Str.ofString "newline") (376 : Nat)), (.bool true)⟩] (1 : Nat)), #[]⟩) ::
(nat_lit 98, ⟨(.type "tuple"), none, (.seq #[] (0 : Nat)), #[]⟩) ::
(nat_lit 100, ⟨(.type "tuple"), none, (.seq #[(.str (Str.ofString "data") (380 : Nat)), (.str (Str.ofString "newline") (381 : Nat)), (.str (Str.ofString "bin_data") (382 : Nat)), (.str (Str.ofString "out") (383 : Nat)), (.str (Str.ofString "leftbits") (384 : Nat)), (.str (Str.ofString "leftchar") (385 : Nat)), (.str (Str.ofString "b") (386 : Nat))] (0 : Nat)), #[]⟩) ::
(nat_lit 101, ⟨(.type "tuple"), none, (.seq #[] (0 : Nat)), #[]⟩) ::
(nat_lit 103, ⟨(.type "code"), none, (.fields #[(.str (Str.ofString "b2a_base64") (377 : Nat)), (.str (Str.ofString "b2a_base64") (378 : Nat)), (.str (Str.ofString "/claim/cut.py") (379 : Nat)), (.int 43 (0 : Nat)), (.int 1 (0 : Nat)), (.int 1 (0 : Nat)), (.int 1 (0 : Nat)), (.int 3 (0 : Nat)), (.ref (98 : Nat)), (.bool true), (.int 276 (0 : Nat)), (.ref (99 : Nat)), .none, (.ref (100 : Nat)), (.ref (101 : Nat)), (.ref (102 : Nat)), (.int 387 (0 : Nat)), (.int 43 (0 : Nat)), (.str (Str.ofString "/claim/cut.py") (388 : Nat))]), #[]⟩) ::
(nat_lit 104, ⟨(.type "function"), none, (.func ⟨(Str.ofString "b2a_base64"), (Str.ofString "b2a_base64"), args11, (.stmts body11), scope11, (3 : Nat), [], .none, (.ref (97 : Nat)), .none, (.str (Str.ofString "binascii") (356 : Nat)), none, (.ref (103 : Nat)), .none, (0 : Nat)⟩), #[]⟩) ::
(nat_lit 105, ⟨(.type "tuple"), none, (.seq #[.none] (0 : Nat)), #[]⟩) ::
(nat_lit 106, ⟨(.type "tuple"), none, (.seq #[] (0 : Nat)), #[]⟩) ::
(nat_lit 108, ⟨(.type "tuple"), none, (.seq #[(.str (Str.ofString "s") (395 : Nat)), (.str (Str.ofString "altchars") (396 : Nat)), (.str (Str.ofString "encoded") (397 : Nat))] (0 : Nat)), #[]⟩) ::
(nat_lit 109, ⟨(.type "tuple"), none, (.seq #[] (0 : Nat)), #[]⟩) ::
(nat_lit 111, ⟨(.type "code"), none, (.fields #[(.str (Str.ofString "b64encode") (392 : Nat)), (.str (Str.ofString "b64encode") (393 : Nat)), (.str (Str.ofString "/claim/cut.py") (394 : Nat)), (.int 66 (0 : Nat)), (.int 2 (0 : Nat)), (.int 0 (0 : Nat)), (.int 0 (0 : Nat)), (.int 3 (0 : Nat)), (.ref (106 : Nat)), (.bool true), (.int 276 (0 : Nat)), (.ref (107 : Nat)), .none, (.ref (108 : Nat)), (.ref (109 : Nat)), (.ref (110 : Nat)), (.int 398 (0 : Nat)), (.int 66 (0 : Nat)), (.str (Str.ofString "/claim/cut.py") (399 : Nat))]), #[]⟩) ::
(nat_lit 112, ⟨(.type "function"), none, (.func ⟨(Str.ofString "b64encode"), (Str.ofString "b64encode"), args13, (.stmts body13), scope13, (3 : Nat), [], (.ref (105 : Nat)), .none, .none, (.str (Str.ofString "cpy313.base64") (390 : Nat)), none, (.ref (111 : Nat)), .none, (0 : Nat)⟩), #[]⟩) ::
(nat_lit 116, ⟨(.type "tuple"), none, (.seq #[(.int 14 (0 : Nat)), (.int 14 (0 : Nat)), (.int 4 (0 : Nat)), (.int 1 (0 : Nat)), (.int 1 (0 : Nat)), (.int 9 (0 : Nat)), (.int 0 (0 : Nat)), (.int 64 (0 : Nat)), (.int 0 (0 : Nat)), (.int 1342177280 (0 : Nat)), (.int 0 (0 : Nat)), (.int 0 (0 : Nat)), (.int 0 (0 : Nat)), (.int 0 (0 : Nat)), (.int 0 (0 : Nat)), (.int 17 (0 : Nat)), (.int 0 (0 : Nat)), (.int 13 (0 : Nat)), (.int 11 (0 : Nat)), (.int 9 (0 : Nat)), (.int 0 (0 : Nat)), (.int 64 (0 : Nat)), (.int 0 (0 : Nat)), (.int 1342177280 (0 : Nat)), (.int 0 (0 : Nat)), (.int 0 (0 : Nat)), (.int 0 (0 : Nat)), (.int 0 (0 : Nat)), (.int 0 (0 : Nat)), (.int 17 (0 : Nat)), (.int 1 (0 : Nat)), (.int 1 (0 : Nat))] (0 : Nat)), #[]⟩) ::
(nat_lit 117, ⟨(.type "re.Pattern"), none, (.fields #[(.str (Str.ofString "([&~|])") (402 : Nat)), (.int 32 (437 : Nat)), (.int 1 (0 : Nat)), .none, .none, (.ref (116 : Nat)), (.int 0 (0 : Nat))]), #[]⟩) ::
(nat_lit 119, ⟨(.type "dict"), none, (.dict #[⟨40, (.int 40 (442 : Nat)), (.str (Str.ofString "\\(") (446 : Nat))⟩, ⟨41, (.int 41 (448 : Nat)), (.str (Str.ofString "\\)") (452 : Nat))⟩, ⟨91, (.int 91 (454 : Nat)), (.str (Str.ofString "\\[") (458 : Nat))⟩, ⟨93, (.int 93 (460 : Nat)), (.str (Str.ofString "\\]") (464 : Nat))⟩, ⟨123, (.int 123 (466 : Nat)), (.str (Str.ofString "\\{") (470 : Nat))⟩, ⟨125, (.int 125 (472 : Nat)), (.str (Str.ofString "\\}") (476 : Nat))⟩, ⟨63, (.int 63 (478 : Nat)), (.str (Str.ofString "\\?") (482 : Nat))⟩, ⟨42, (.int 42 (484 : Nat)), (.str (Str.ofString "\\*") (488 : Nat))⟩, ⟨43, (.int 43 (490 : Nat)), (.str (Str.ofString "\\+") (494 : Nat))⟩, ⟨45, (.int 45 (496 : Nat)), (.str (Str.ofString "\\-") (500 : Nat))⟩, ⟨124, (.int 124 (502 : Nat)), (.str (Str.ofString "\\|") (506 : Nat))⟩, ⟨94, (.int 94 (508 : Nat)), (.str (Str.ofString "\\^") (512 : Nat))⟩, ⟨36, (.int 36 (514 : Nat)), (.str (Str.ofString "\\$") (518 : Nat))⟩, ⟨92, (.int 92 (520 : Nat)), (.str (Str.ofString "\\\\") (524 : Nat))⟩, ⟨46, (.int 46 (526 : Nat)), (.str (Str.ofString "\\.") (530 : Nat))⟩, ⟨38, (.int 38 (532 : Nat)), (.str (Str.ofString "\\&") (536 : Nat))⟩, ⟨126, (.int 126 (538 : Nat)), (.str (Str.ofString "\\~") (542 : Nat))⟩, ⟨35, (.int 35 (544 : Nat)), (.str (Str.ofString "\\#") (548 : Nat))⟩, ⟨32, (.int 32 (550 : Nat)), (.str (Str.ofString "\\ ") (554 : Nat))⟩, ⟨9, (.int 9 (556 : Nat)), (.str (Str.ofString "\\\x09") (560 : Nat))⟩, ⟨10, (.int 10 (562 : Nat)), (.str (Str.ofString "\\\x0a") (566 : Nat))⟩, ⟨13, (.int 13 (568 : Nat)), (.str (Str.ofString "\\\x0d") (572 : Nat))⟩, ⟨11, (.int 11 (574 : Nat)), (.str (Str.ofString "\\\x0b") (578 : Nat))⟩, ⟨12, (.int 12 (580 : Nat)), (.str (Str.ofString "\\\x0c") (584 : Nat))⟩] (24 : Nat)), #[]⟩) ::
(nat_lit 123, ⟨(.type "tuple"), none, (.seq #[] (0 : Nat)), #[]⟩) ::
(nat_lit 125, ⟨(.type "tuple"), none, (.seq #[(.str (Str.ofString "pattern") (590 : Nat))] (0 : Nat)), #[]⟩) ::
(nat_lit 126, ⟨(.type "tuple"), none, (.seq #[] (0 : Nat)), #[]⟩) ::
(nat_lit 128, ⟨(.type "code"), none, (.fields #[(.str (Str.ofString "escape") (587 : Nat)), (.str (Str.ofString "escape") (588 : Nat)), (.str (Str.ofString "/claim/cut.py") (589 : Nat)), (.int 75 (0 : Nat)), (.int 1 (0 : Nat)), (.int 0 (0 : Nat)), (.int 0 (0 : Nat)), (.int 3 (0 : Nat)), (.ref (123 : Nat)), (.bool true), (.int 276 (0 : Nat)), (.ref (124 : Nat)), .none, (.ref (125 : Nat)), (.ref (126 : Nat)), (.ref (127 : Nat)), (.int 591 (0 : Nat)), (.int 75 (0 : Nat)), (.str (Str.ofString "/claim/cut.py") (592 : Nat))]), #[]⟩) ::
(nat_lit 129, ⟨(.type "function"), none, (.func ⟨(Str.ofString "escape"), (Str.ofString "escape"), args17, (.stmts body17), scope17, (3 : Nat), [], .none, .none, .none, (.str (Str.ofString "re") (439 : Nat)), none, (.ref (128 : Nat)), .none, (0 : Nat)⟩), #[]⟩) ::
(nat_lit 130, ⟨(.type "tuple"), none, (.seq #[] (0 : Nat)), #[]⟩) ::
(nat_lit 132, ⟨(.type "tuple"), none, (.seq #[(.str (Str.ofString "pat") (599 : Nat)), (.str (Str.ofString "STAR") (600 : Nat)), (.str (Str.ofString "QUESTION_MARK") (601 : Nat)), (.str (Str.ofString "res") (602 : Nat)), (.str (Str.ofString "add") (603 : Nat)), (.str (Str.ofString "i") (604 : Nat)), (.str (Str.ofString "n") (605 : Nat)), (.str (Str.ofString "c") (606 : Nat)), (.str (Str.ofString "j") (607 : Nat)), (.str (Str.ofString "stuff") (608 : Nat)), (.str (Str.ofString "chunks") (609 : Nat)), (.str (Str.ofString "k") (610 : Nat)), (.str (Str.ofString "chunk") (611 : Nat))] (0 : Nat)), #[]⟩) ::
(nat_lit 133, ⟨(.type "tuple"), none, (.seq #[] (0 : Nat)), #[]⟩) ::
(nat_lit 135, ⟨(.type "code"), none, (.fields #[(.str (Str.ofString "_translate") (596 : Nat)), (.str (Str.ofString "_translate") (597 : Nat)), (.str (Str.ofString "/claim/cut.py") (598 : Nat)), (.int 82 (0 : Nat)), (.int 3 (0 : Nat)), (.int 0 (0 : Nat)), (.int 0 (0 : Nat)), (.int 3 (0 : Nat)), (.ref (130 : Nat)), (.bool true), (.int 276 (0 : Nat)), (.ref (131 : Nat)), .none, (.ref (132 : Nat)), (.ref (133 : Nat)), (.ref (134 : Nat)), (.int 612 (0 : Nat)), (.int 82 (0 : Nat)), (.str (Str.ofString "/claim/cut.py") (613 : Nat))]), #[]⟩) ::
(nat_lit 136, ⟨(.type "function"), none, (.func ⟨(Str.ofString "_translate"), (Str.ofString "_translate"), args19, (.stmts body19), scope19, (3 : Nat), [], .none, .none, .none, (.str (Str.ofString "cpy313.fnmatch") (594 : Nat)), none, (.ref (135 : Nat)), .none, (0 : Nat)⟩), #[]⟩) ::
(nat_lit 137, ⟨(.type "tuple"), none, (.seq #[] (0 : Nat)), #[]⟩) ::
(nat_lit 139, ⟨(.type "tuple"), none, (.seq #[(.str (Str.ofString "script") (620 : Nat)), (.str (Str.ofString "pairs") (621 : Nat)), (.str (Str.ofString "n") (622 : Nat)), (.str (Str.ofString "r") (623 : Nat)), (.str (Str.ofString "s") (624 : Nat))] (0 : Nat)), #[]⟩) ::
(nat_lit 140, ⟨(.type "tuple"), none, (.seq #[] (0 : Nat)), #[]⟩) ::
(nat_lit 142, ⟨(.type "code"), none, (.fields #[(.str (Str.ofString "_law_pairs") (617 : Nat)), (.str (Str.ofString "_law_pairs") (618 : Nat)), (.str (Str.ofString "/claim/cut.py") (619 : Nat)), (.int 145 (0 : Nat)), (.int 1 (0 : Nat)), (.int 0 (0 : Nat)), (.int 0 (0 : Nat)), (.int 3 (0 : Nat)), (.ref (137 : Nat)), (.bool true), (.int 276 (0 : Nat)), (.ref (138 : Nat)), .none, (.ref (139 : Nat)), (.ref (140 : Nat)), (.ref (141 : Nat)), (.int 625 (0 : Nat)), (.int 145 (0 : Nat)), (.str (Str.ofString "/claim/cut.py") (626 : Nat))]), #[]⟩) ::
(nat_lit 143, ⟨(.type "function"), none, (.func ⟨(Str.ofString "_law_pairs"), (Str.ofString "_law_pairs"), args21, (.stmts body21), scope21, (3 : Nat), [], .none, .none, .none, (.str (Str.ofString "law_kl0068_01") (615 : Nat)), none, (.ref (142 : Nat)), .none, (0 : Nat)⟩), #[]⟩) ::
(nat_lit 144, ⟨(.type "tuple"), none, (.seq #[] (0 : Nat)), #[]⟩) ::
(nat_lit 147, ⟨(.type "code"), none, (.fields #[(.str (Str.ofString "_law_takes") (628 : Nat)), (.str (Str.ofString "_law_takes") (629 : Nat)), (.str (Str.ofString "/claim/cut.py") (630 : Nat)), (.int 151 (0 : Nat)), (.int 2 (0 : Nat)), (.int 0 (0 : Nat)), (.int 0 (0 : Nat)), (.int 3 (0 : Nat)), (.ref (144 : Nat)), (.bool true), (.int 276 (0 : Nat)), (.ref (145 : Nat)), .none, .none, .none, (.ref (146 : Nat)), (.int 631 (0 : Nat)), (.int 151 (0 : Nat)), (.str (Str.ofString "/claim/cut.py") (632 : Nat))]), #[]⟩) ::
(nat_lit 148, ⟨(.type "function"), none, (.func ⟨(Str.ofString "_law_takes"), (Str.ofString "_law_takes"), args22, (.stmts body22), scope22, (3 : Nat), [], .none, .none, .none, (.str (Str.ofString "law_kl0068_01") (615 : Nat)), none, (.ref (147 : Nat)), .none, (0 : Nat)⟩), #[]⟩) ::
(nat_lit 149, ⟨(.type "tuple"), none, (.seq #[] (0 : Nat)), #[]⟩) ::
(nat_lit 151, ⟨(.type "tuple"), none, (.seq #[(.str (Str.ofString "ports") (637 : Nat)), (.str (Str.ofString "one") (638 : Nat)), (.str (Str.ofString "two") (639 : Nat)), (.str (Str.ofString "kept") (640 : Nat)), (.str (Str.ofString "k") (641 : Nat)), (.str (Str.ofString "mark") (642 : Nat)), (.str (Str.ofString "host") (643 : Nat)), (.str (Str.ofString "port") (644 : Nat)), (.str (Str.ofString "signs") (645 : Nat))] (0 : Nat)), #[]⟩) ::
(nat_lit 152, ⟨(.type "tuple"), none, (.seq #[] (0 : Nat)), #[]⟩) ::
(nat_lit 154, ⟨(.type "code"), none, (.fields #[(.str (Str.ofString "_law_kept") (634 : Nat)), (.str (Str.ofString "_law_kept") (635 : Nat)), (.str (Str.ofString "/claim/cut.py") (636 : Nat)), (.int 159 (0 : Nat)), (.int 3 (0 : Nat)), (.int 0 (0 : Nat)), (.int 0 (0 : Nat)), (.int 3 (0 : Nat)), (.ref (149 : Nat)), (.bool true), (.int 276 (0 : Nat)), (.ref (150 : Nat)), .none, (.ref (151 : Nat)), (.ref (152 : Nat)), (.ref (153 : Nat)), (.int 646 (0 : Nat)), (.int 159 (0 : Nat)), (.str (Str.ofString "/claim/cut.py") (647 : Nat))]), #[]⟩) ::
(nat_lit 155, ⟨(.type "function"), none, (.func ⟨(Str.ofString "_law_kept"), (Str.ofString "_law_kept"), args23, (.stmts body23), scope23, (3 : Nat), [], .none, .none, .none, (.str (Str.ofString "law_kl0068_01") (615 : Nat)), none, (.ref (154 : Nat)), .none, (0 : Nat)⟩), #[]⟩) ::
(nat_lit 156, ⟨(.type "tuple"), none, (.seq #[] (0 : Nat)), #[]⟩) ::
(nat_lit 159, ⟨(.type "code"), none, (.fields #[(.str (Str.ofString "_law_told") (649 : Nat)), (.str (Str.ofString "_law_told") (650 : Nat)), (.str (Str.ofString "/claim/cut.py") (651 : Nat)), (.int 168 (0 : Nat)), (.int 1 (0 : Nat)), (.int 0 (0 : Nat)), (.int 0 (0 : Nat)), (.int 3 (0 : Nat)), (.ref (156 : Nat)), (.bool true), (.int 276 (0 : Nat)), (.ref (157 : Nat)), .none, .none, .none, (.ref (158 : Nat)), (.int 652 (0 : Nat)), (.int 168 (0 : Nat)), (.str (Str.ofString "/claim/cut.py") (653 : Nat))]), #[]⟩) ::
(nat_lit 160, ⟨(.type "function"), none, (.func ⟨(Str.ofString "_law_told"), (Str.ofString "_law_told"), args24, (.stmts body24), scope24, (3 : Nat), [], .none, .none, .none, (.str (Str.ofString "law_kl0068_01") (615 : Nat)), none, (.ref (159 : Nat)), .none, (0 : Nat)⟩), #[]⟩) ::
(nat_lit 161, ⟨(.type "tuple"), none, (.seq #[] (0 : Nat)), #[]⟩) ::
(nat_lit 163, ⟨(.type "tuple"), none, (.seq #[(.str (Str.ofString "pairs") (658 : Nat)), (.str (Str.ofString "due") (659 : Nat)), (.str (Str.ofString "r") (660 : Nat)), (.str (Str.ofString "s") (661 : Nat)), (.str (Str.ofString "port") (662 : Nat))] (0 : Nat)), #[]⟩) ::
(nat_lit 164, ⟨(.type "tuple"), none, (.seq #[] (0 : Nat)), #[]⟩) ::
(nat_lit 166, ⟨(.type "code"), none, (.fields #[(.str (Str.ofString "_law_due") (655 : Nat)), (.str (Str.ofString "_law_due") (656 : Nat)), (.str (Str.ofString "/claim/cut.py") (657 : Nat)), (.int 177 (0 : Nat)), (.int 1 (0 : Nat)), (.int 0 (0 : Nat)), (.int 0 (0 : Nat)), (.int 3 (0 : Nat)), (.ref (161 : Nat)), (.bool true), (.int 276 (0 : Nat)), (.ref (162 : Nat)), .none, (.ref (163 : Nat)), (.ref (164 : Nat)), (.ref (165 : Nat)), (.int 663 (0 : Nat)), (.int 177 (0 : Nat)), (.str (Str.ofString "/claim/cut.py") (664 : Nat))]), #[]⟩) ::
(nat_lit 167, ⟨(.type "function"), none, (.func ⟨(Str.ofString "_law_due"), (Str.ofString "_law_due"), args25, (.stmts body25), scope25, (3 : Nat), [], .none, .none, .none, (.str (Str.ofString "law_kl0068_01") (615 : Nat)), none, (.ref (166 : Nat)), .none, (0 : Nat)⟩), #[]⟩) ::
(nat_lit 168, ⟨(.type "tuple"), none, (.seq #[] (0 : Nat)), #[]⟩) ::
(nat_lit 170, ⟨(.type "tuple"), none, (.seq #[(.str (Str.ofString "script") (669 : Nat)), (.str (Str.ofString "pairs") (670 : Nat))] (0 : Nat)), #[]⟩) ::
(nat_lit 171, ⟨(.type "tuple"), none, (.seq #[] (0 : Nat)), #[]⟩) ::
(nat_lit 173, ⟨(.type "code"), none, (.fields #[(.str (Str.ofString "law") (666 : Nat)), (.str (Str.ofString "law") (667 : Nat)), (.str (Str.ofString "/claim/cut.py") (668 : Nat)), (.int 183 (0 : Nat)), (.int 1 (0 : Nat)), (.int 0 (0 : Nat)), (.int 0 (0 : Nat)), (.int 3 (0 : Nat)), (.ref (168 : Nat)), (.bool true), (.int 276 (0 : Nat)), (.ref (169 : Nat)), .none, (.ref (170 : Nat)), (.ref (171 : Nat)), (.ref (172 : Nat)), (.int 671 (0 : Nat)), (.int 183 (0 : Nat)), (.str (Str.ofString "/claim/cut.py") (672 : Nat))]), #[]⟩) ::
(nat_lit 174, ⟨(.type "function"), none, (.func ⟨(Str.ofString "law"), (Str.ofString "law"), args26, (.stmts body26), scope26, (3 : Nat), [], .none, .none, .none, (.str (Str.ofString "law_kl0068_01") (615 : Nat)), none, (.ref (173 : Nat)), .none, (0 : Nat)⟩), #[]⟩) :: [] : Frag)) → Params → Frag) _ (by
  delta args1 body1 scope1 args6 body6 scope6 args8 body8 scope8 args9 body9 scope9 args11 body11 scope11 args13 body13 scope13 args17 body17 scope17 args19 body19 scope19 args21 body21 scope21 args22 body22 scope22 args23 body23 scope23 args24 body24 scope24 args25 body25 scope25 args26 body26 scope26
  exact rfl)
noncomputable def vw : Program := view PySem.Challenge.pw_kl0068_01 [0, 1, 3, 4, 5, 6, 8, 9, 10, 14, 16, 17, 19, 21, 22, 23, 24, 25, 26]
abbrev lo : List Str := [Str.ofString "b2a_base64", Str.ofString "b64encode", Str.ofString "_twin_re_1", Str.ofString "_special_chars_map"]
abbrev rowW : RowW := OpenRow.toRowW (OpenLaw.row PySem.Challenge.rw_kl0068_01)
noncomputable abbrev xt : Shared → Bool := fun s => xlAt vw [] s && recOk (RowW.records rowW) s
theorem kk_as : ∀ P, (nat_lit 3 :: nat_lit 6 :: nat_lit 11 :: nat_lit 12 :: nat_lit 32 :: nat_lit 34 :: nat_lit 35 :: nat_lit 37 :: nat_lit 38 :: nat_lit 39 :: nat_lit 46 :: nat_lit 47 :: nat_lit 48 :: nat_lit 49 :: nat_lit 52 :: nat_lit 59 :: nat_lit 60 :: nat_lit 61 :: nat_lit 64 :: nat_lit 71 :: nat_lit 72 :: nat_lit 73 :: nat_lit 76 :: nat_lit 78 :: nat_lit 79 :: nat_lit 81 :: nat_lit 82 :: nat_lit 83 :: nat_lit 85 :: nat_lit 86 :: nat_lit 88 :: nat_lit 89 :: nat_lit 90 :: nat_lit 92 :: nat_lit 93 :: nat_lit 95 :: nat_lit 96 :: nat_lit 97 :: nat_lit 98 :: nat_lit 100 :: nat_lit 101 :: nat_lit 103 :: nat_lit 104 :: nat_lit 105 :: nat_lit 106 :: nat_lit 108 :: nat_lit 109 :: nat_lit 111 :: nat_lit 112 :: nat_lit 116 :: nat_lit 117 :: nat_lit 119 :: nat_lit 123 :: nat_lit 125 :: nat_lit 126 :: nat_lit 128 :: nat_lit 129 :: nat_lit 130 :: nat_lit 132 :: nat_lit 133 :: nat_lit 135 :: nat_lit 136 :: nat_lit 137 :: nat_lit 139 :: nat_lit 140 :: nat_lit 142 :: nat_lit 143 :: nat_lit 144 :: nat_lit 147 :: nat_lit 148 :: nat_lit 149 :: nat_lit 151 :: nat_lit 152 :: nat_lit 154 :: nat_lit 155 :: nat_lit 156 :: nat_lit 159 :: nat_lit 160 :: nat_lit 161 :: nat_lit 163 :: nat_lit 164 :: nat_lit 166 :: nat_lit 167 :: nat_lit 168 :: nat_lit 170 :: nat_lit 171 :: nat_lit 173 :: nat_lit 174 :: [] : List Addr) = (kk P).map (·.1) := fun _ => by kernel_rfl
noncomputable abbrev hk : Hook := kmHook kk (nat_lit 3 :: nat_lit 6 :: nat_lit 11 :: nat_lit 12 :: nat_lit 32 :: nat_lit 34 :: nat_lit 35 :: nat_lit 37 :: nat_lit 38 :: nat_lit 39 :: nat_lit 46 :: nat_lit 47 :: nat_lit 48 :: nat_lit 49 :: nat_lit 52 :: nat_lit 59 :: nat_lit 60 :: nat_lit 61 :: nat_lit 64 :: nat_lit 71 :: nat_lit 72 :: nat_lit 73 :: nat_lit 76 :: nat_lit 78 :: nat_lit 79 :: nat_lit 81 :: nat_lit 82 :: nat_lit 83 :: nat_lit 85 :: nat_lit 86 :: nat_lit 88 :: nat_lit 89 :: nat_lit 90 :: nat_lit 92 :: nat_lit 93 :: nat_lit 95 :: nat_lit 96 :: nat_lit 97 :: nat_lit 98 :: nat_lit 100 :: nat_lit 101 :: nat_lit 103 :: nat_lit 104 :: nat_lit 105 :: nat_lit 106 :: nat_lit 108 :: nat_lit 109 :: nat_lit 111 :: nat_lit 112 :: nat_lit 116 :: nat_lit 117 :: nat_lit 119 :: nat_lit 123 :: nat_lit 125 :: nat_lit 126 :: nat_lit 128 :: nat_lit 129 :: nat_lit 130 :: nat_lit 132 :: nat_lit 133 :: nat_lit 135 :: nat_lit 136 :: nat_lit 137 :: nat_lit 139 :: nat_lit 140 :: nat_lit 142 :: nat_lit 143 :: nat_lit 144 :: nat_lit 147 :: nat_lit 148 :: nat_lit 149 :: nat_lit 151 :: nat_lit 152 :: nat_lit 154 :: nat_lit 155 :: nat_lit 156 :: nat_lit 159 :: nat_lit 160 :: nat_lit 161 :: nat_lit 163 :: nat_lit 164 :: nat_lit 166 :: nat_lit 167 :: nat_lit 168 :: nat_lit 170 :: nat_lit 171 :: nat_lit 173 :: nat_lit 174 :: []) kk_as [131]
abbrev Left (w : World) : Prop := (openEnds treeTable PySem.Challenge.pw_kl0068_01 w 5064).map (fun s => (openSeen vw lo (importedModules PySem.Challenge.pw_kl0068_01.main.body) xt true s, Hook.obs hk s)) = some (openGood vw lo, Hook.val hk w)
end Mine
end
section
open PySem PySem.W PySem.Spec PySem.Calls PyProof.Rows
set_option maxRecDepth 100000
set_option maxHeartbeats 8000000
set_option linter.unusedVariables false
namespace Mine
/- the heaps at the top's start, behind its frame's making, and at some statements' ends (printed by a program of mine; a text's word is parted where its letters would be read as a row of the head) -/
noncomputable def ob0 (P : Params) : Obj := ⟨(.type "dict"), none, (.dict (List.toArray (⟨(PySem.PyData.keyHash P (Str.ofString "__name__")), (.str (Str.ofString "__name__") (1 : Nat)), (.str (Str.ofString "builtins") (160 : Nat))⟩ :: ⟨(PySem.PyData.keyHash P (Str.ofString "__doc__")), (.str (Str.ofString "__doc__") (2 : Nat)), (.builtin "builtins.__doc__:str#opaque")⟩ :: ⟨(PySem.PyData.keyHash P (Str.ofString "__package__")), (.str (Str.ofString "__package__") (3 : Nat)), (.builtin "builtins.__package__:str#opaque")⟩ :: ⟨(PySem.PyData.keyHash P (Str.ofString "__loader__")), (.str (Str.ofString "__loader__") (4 : Nat)), (.builtin "builtins.__loader__:shared#opaque")⟩ :: ⟨(PySem.PyData.keyHash P (Str.ofString "__spec__")), (.str (Str.ofString "__spec__") (5 : Nat)), (.builtin "builtins.__spec__#opaque")⟩ :: ⟨(PySem.PyData.keyHash P (Str.ofString "__build_class__")), (.str (Str.ofString "__build_class__") (6 : Nat)), (.builtin "__build_class__")⟩ :: ⟨(PySem.PyData.keyHash P (Str.ofString "__import__")), (.str (Str.ofString "__import__") (7 : Nat)), (.builtin "__import__")⟩ :: ⟨(PySem.PyData.keyHash P (Str.ofString "abs")), (.str (Str.ofString "abs") (8 : Nat)), (.builtin "abs")⟩ :: ⟨(PySem.PyData.keyHash P (Str.ofString "all")), (.str (Str.ofString "all") (9 : Nat)), (.builtin "all")⟩ :: ⟨(PySem.PyData.keyHash P (Str.ofString "any")), (.str (Str.ofString "any") (10 : Nat)), (.builtin "any")⟩ :: ⟨(PySem.PyData.keyHash P (Str.ofString "ascii")), (.str (Str.ofString "ascii") (11 : Nat)), (.builtin "ascii")⟩ :: ⟨(PySem.PyData.keyHash P (Str.ofString "bin")), (.str (Str.ofString "bin") (12 : Nat)), (.builtin "bin")⟩ :: ⟨(PySem.PyData.keyHash P (Str.ofString "breakpoint")), (.str (Str.ofString "breakpoint") (13 : Nat)), (.builtin "breakpoint")⟩ :: ⟨(PySem.PyData.keyHash P (Str.ofString "callable")), (.str (Str.ofString "callable") (14 : Nat)), (.builtin "callable")⟩ :: ⟨(PySem.PyData.keyHash P (Str.ofString "chr")), (.str (Str.ofString "chr") (15 : Nat)), (.builtin "chr")⟩ :: ⟨(PySem.PyData.keyHash P (Str.ofString "compile")), (.str (Str.ofString "compile") (16 : Nat)), (.builtin "compile")⟩ :: ⟨(PySem.PyData.keyHash P (Str.ofString "delattr")), (.str (Str.ofString "delattr") (17 : Nat)), (.builtin "delattr")⟩ :: ⟨(PySem.PyData.keyHash P (Str.ofString "dir")), (.str (Str.ofString "dir") (18 : Nat)), (.builtin "dir")⟩ :: ⟨(PySem.PyData.keyHash P (Str.ofString "divmod")), (.str (Str.ofString "divmod") (19 : Nat)), (.builtin "divmod")⟩ :: ⟨(PySem.PyData.keyHash P (Str.ofString "eval")), (.str (Str.ofString "eval") (20 : Nat)), (.builtin "eval")⟩ :: ⟨(PySem.PyData.keyHash P (Str.ofString "exec")), (.str (Str.ofString "exec") (21 : Nat)), (.builtin "exec")⟩ :: ⟨(PySem.PyData.keyHash P (Str.ofString "format")), (.str (Str.ofString "format") (22 : Nat)), (.builtin "format")⟩ :: ⟨(PySem.PyData.keyHash P (Str.ofString "getattr")), (.str (Str.ofString "getattr") (23 : Nat)), (.builtin "getattr")⟩ :: ⟨(PySem.PyData.keyHash P (Str.ofString "globals")), (.str (Str.ofString "globals") (24 : Nat)), (.builtin "globals")⟩ :: ⟨(PySem.PyData.keyHash P (Str.ofString "hasattr")), (.str (Str.ofString "hasattr") (25 : Nat)), (.builtin "hasattr")⟩ :: ⟨(PySem.PyData.keyHash P (Str.ofString "hash")), (.str (Str.ofString "hash") (26 : Nat)), (.builtin "hash")⟩ :: ⟨(PySem.PyData.keyHash P (Str.ofString "hex")), (.str (Str.ofString "hex") (27 : Nat)), (.builtin "hex")⟩ :: ⟨(PySem.PyData.keyHash P (Str.ofString "id")), (.str (Str.ofString "id") (28 : Nat)), (.builtin "id")⟩ :: ⟨(PySem.PyData.keyHash P (Str.ofString "input")), (.str (Str.ofString "input") (29 : Nat)), (.builtin "input")⟩ :: ⟨(PySem.PyData.keyHash P (Str.ofString "isinstance")), (.str (Str.ofString "isinstance") (30 : Nat)), (.builtin "isinstance")⟩ :: ⟨(PySem.PyData.keyHash P (Str.ofString "issubclass")), (.str (Str.ofString "issubclass") (31 : Nat)), (.builtin "issubclass")⟩ :: ⟨(PySem.PyData.keyHash P (Str.ofString "iter")), (.str (Str.ofString "iter") (32 : Nat)), (.builtin "iter")⟩ :: ⟨(PySem.PyData.keyHash P (Str.ofString "aiter")), (.str (Str.ofString "aiter") (33 : Nat)), (.builtin "aiter")⟩ :: ⟨(PySem.PyData.keyHash P (Str.ofString "len")), (.str (Str.ofString "len") (34 : Nat)), (.builtin "len")⟩ :: ⟨(PySem.PyData.keyHash P (Str.ofString "locals")), (.str (Str.ofString "locals") (35 : Nat)), (.builtin "locals")⟩ :: ⟨(PySem.PyData.keyHash P (Str.ofString "max")), (.str (Str.ofString "max") (36 : Nat)), (.builtin "max")⟩ :: ⟨(PySem.PyData.keyHash P (Str.ofString "min")), (.str (Str.ofString "min") (37 : Nat)), (.builtin "min")⟩ :: ⟨(PySem.PyData.keyHash P (Str.ofString "next")), (.str (Str.ofString "next") (38 : Nat)), (.builtin "next")⟩ :: ⟨(PySem.PyData.keyHash P (Str.ofString "anext")), (.str (Str.ofString "anext") (39 : Nat)), (.builtin "anext")⟩ :: ⟨(PySem.PyData.keyHash P (Str.ofString "oct")), (.str (Str.ofString "oct") (40 : Nat)), (.builtin "oct")⟩ :: ⟨(PySem.PyData.keyHash P (Str.ofString "ord")), (.str (Str.ofString "ord") (41 : Nat)), (.builtin "ord")⟩ :: ⟨(PySem.PyData.keyHash P (Str.ofString "pow")), (.str (Str.ofString "pow") (42 : Nat)), (.builtin "pow")⟩ :: ⟨(PySem.PyData.keyHash P (Str.ofString "print")), (.str (Str.ofString "print") (43 : Nat)), (.builtin "print")⟩ :: ⟨(PySem.PyData.keyHash P (Str.ofString "repr")), (.str (Str.ofString "repr") (44 : Nat)), (.builtin "repr")⟩ :: ⟨(PySem.PyData.keyHash P (Str.ofString "round")), (.str (Str.ofString "round") (45 : Nat)), (.builtin "round")⟩ :: ⟨(PySem.PyData.keyHash P (Str.ofString "setattr")), (.str (Str.ofString "setattr") (46 : Nat)), (.builtin "setattr")⟩ :: ⟨(PySem.PyData.keyHash P (Str.ofString "sorted")), (.str (Str.ofString "sorted") (47 : Nat)), (.builtin "sorted")⟩ :: ⟨(PySem.PyData.keyHash P (Str.ofString "sum")), (.str (Str.ofString "sum") (48 : Nat)), (.builtin "sum")⟩ :: ⟨(PySem.PyData.keyHash P (Str.ofString "vars")), (.str (Str.ofString "vars") (49 : Nat)), (.builtin "vars")⟩ :: ⟨(PySem.PyData.keyHash P (Str.ofString "None")), (.str (Str.ofString "None") (50 : Nat)), .none⟩ :: ⟨(PySem.PyData.keyHash P (Str.ofString "Ellipsis")), (.str (Str.ofString "Ellipsis") (51 : Nat)), .ellipsis⟩ :: ⟨(PySem.PyData.keyHash P (Str.ofString "NotImplemented")), (.str (Str.ofString "NotImplemented") (52 : Nat)), .notImplemented⟩ :: ⟨(PySem.PyData.keyHash P (Str.ofString "False")), (.str (Str.ofString "False") (53 : Nat)), (.bool false)⟩ :: ⟨(PySem.PyData.keyHash P (Str.ofString "True")), (.str (Str.ofString "True") (54 : Nat)), (.bool true)⟩ :: ⟨(PySem.PyData.keyHash P (Str.ofString "bool")), (.str (Str.ofString "bool") (55 : Nat)), (.type "bool")⟩ :: ⟨(PySem.PyData.keyHash P (Str.ofString "memoryview")), (.str (Str.ofString "memoryview") (56 : Nat)), (.type "memoryview")⟩ :: ⟨(PySem.PyData.keyHash P (Str.ofString "bytearray")), (.str (Str.ofString "bytearray") (57 : Nat)), (.type "bytearray")⟩ :: ⟨(PySem.PyData.keyHash P (Str.ofString "bytes")), (.str (Str.ofString "bytes") (58 : Nat)), (.type "bytes")⟩ :: ⟨(PySem.PyData.keyHash P (Str.ofString "classmethod")), (.str (Str.ofString "classmethod") (59 : Nat)), (.type "classmethod")⟩ :: ⟨(PySem.PyData.keyHash P (Str.ofString "complex")), (.str (Str.ofString "complex") (60 : Nat)), (.type "complex")⟩ :: ⟨(PySem.PyData.keyHash P (Str.ofString "dict")), (.str (Str.ofString "dict") (61 : Nat)), (.type "dict")⟩ :: ⟨(PySem.PyData.keyHash P (Str.ofString "enumerate")), (.str (Str.ofString "enumerate") (62 : Nat)), (.type "enumerate")⟩ :: ⟨(PySem.PyData.keyHash P (Str.ofString "filter")), (.str (Str.ofString "filter") (63 : Nat)), (.type "filter")⟩ :: ⟨(PySem.PyData.keyHash P (Str.ofString "float")), (.str (Str.ofString "float") (64 : Nat)), (.type "float")⟩ :: ⟨(PySem.PyData.keyHash P (Str.ofString "frozenset")), (.str (Str.ofString "frozenset") (65 : Nat)), (.type "frozenset")⟩ :: ⟨(PySem.PyData.keyHash P (Str.ofString "property")), (.str (Str.ofString "property") (66 : Nat)), (.type "property")⟩ :: ⟨(PySem.PyData.keyHash P (Str.ofString "int")), (.str (Str.ofString "int") (67 : Nat)), (.type "int")⟩ :: ⟨(PySem.PyData.keyHash P (Str.ofString "list")), (.str (Str.ofString "list") (68 : Nat)), (.type "list")⟩ :: ⟨(PySem.PyData.keyHash P (Str.ofString "map")), (.str (Str.ofString "map") (69 : Nat)), (.type "map")⟩ :: ⟨(PySem.PyData.keyHash P (Str.ofString "object")), (.str (Str.ofString "object") (70 : Nat)), (.type "object")⟩ :: ⟨(PySem.PyData.keyHash P (Str.ofString "range")), (.str (Str.ofString "range") (71 : Nat)), (.type "range")⟩ :: ⟨(PySem.PyData.keyHash P (Str.ofString "reversed")), (.str (Str.ofString "reversed") (72 : Nat)), (.type "reversed")⟩ :: ⟨(PySem.PyData.keyHash P (Str.ofString "set")), (.str (Str.ofString "set") (73 : Nat)), (.type "set")⟩ :: ⟨(PySem.PyData.keyHash P (Str.ofString "slice")), (.str (Str.ofString "slice") (74 : Nat)), (.type "slice")⟩ :: ⟨(PySem.PyData.keyHash P (Str.ofString "staticmethod")), (.str (Str.ofString "staticmethod") (75 : Nat)), (.type "staticmethod")⟩ :: ⟨(PySem.PyData.keyHash P (Str.ofString "str")), (.str (Str.ofString "str") (76 : Nat)), (.type "str")⟩ :: ⟨(PySem.PyData.keyHash P (Str.ofString "super")), (.str (Str.ofString "super") (77 : Nat)), (.type "super")⟩ :: ⟨(PySem.PyData.keyHash P (Str.ofString "tuple")), (.str (Str.ofString "tuple") (78 : Nat)), (.type "tuple")⟩ :: ⟨(PySem.PyData.keyHash P (Str.ofString "type")), (.str (Str.ofString "type") (79 : Nat)), (.type "type")⟩ :: ⟨(PySem.PyData.keyHash P (Str.ofString "zip")), (.str (Str.ofString "zip") (80 : Nat)), (.type "zip")⟩ :: ⟨(PySem.PyData.keyHash P (Str.ofString "__debug__")), (.str (Str.ofString "__debug__") (81 : Nat)), (.bool true)⟩ :: ⟨(PySem.PyData.keyHash P (Str.ofString "BaseException")), (.str (Str.ofString "BaseException") (82 : Nat)), (.type "BaseException")⟩ :: ⟨(PySem.PyData.keyHash P (Str.ofString "BaseExceptionGroup")), (.str (Str.ofString "BaseExceptionGroup") (83 : Nat)), (.type "BaseExceptionGroup")⟩ :: ⟨(PySem.PyData.keyHash P (Str.ofString "Exception")), (.str (Str.ofString "Exception") (84 : Nat)), (.type "Exception")⟩ :: ⟨(PySem.PyData.keyHash P (Str.ofString "GeneratorExit")), (.str (Str.ofString "GeneratorExit") (85 : Nat)), (.type "GeneratorExit")⟩ :: ⟨(PySem.PyData.keyHash P (Str.ofString "KeyboardInterrupt")), (.str (Str.ofString "KeyboardInterrupt") (86 : Nat)), (.type "KeyboardInterrupt")⟩ :: ⟨(PySem.PyData.keyHash P (Str.ofString "SystemExit")), (.str (Str.ofString "SystemExit") (87 : Nat)), (.type "SystemExit")⟩ :: ⟨(PySem.PyData.keyHash P (Str.ofString "ArithmeticError")), (.str (Str.ofString "ArithmeticError") (88 : Nat)), (.type "ArithmeticError")⟩ :: ⟨(PySem.PyData.keyHash P (Str.ofString "AssertionError")), (.str (Str.ofString "AssertionError") (89 : Nat)), (.type "AssertionError")⟩ :: ⟨(PySem.PyData.keyHash P (Str.ofString "AttributeError")), (.str (Str.ofString "AttributeError") (90 : Nat)), (.type "AttributeError")⟩ :: ⟨(PySem.PyData.keyHash P (Str.ofString "BufferError")), (.str (Str.ofString "BufferError") (91 : Nat)), (.type "BufferError")⟩ :: ⟨(PySem.PyData.keyHash P (Str.ofString "EOFError")), (.str (Str.ofString "EOFError") (92 : Nat)), (.type "EOFError")⟩ :: ⟨(PySem.PyData.keyHash P (Str.ofString "ImportError")), (.str (Str.ofString "ImportError") (93 : Nat)), (.type "ImportError")⟩ :: ⟨(PySem.PyData.keyHash P (Str.ofString "LookupError")), (.str (Str.ofString "LookupError") (94 : Nat)), (.type "LookupError")⟩ :: ⟨(PySem.PyData.keyHash P (Str.ofString "MemoryError")), (.str (Str.ofString "MemoryError") (95 : Nat)), (.type "MemoryError")⟩ :: ⟨(PySem.PyData.keyHash P (Str.ofString "NameError")), (.str (Str.ofString "NameError") (96 : Nat)), (.type "NameError")⟩ :: ⟨(PySem.PyData.keyHash P (Str.ofString "OSError")), (.str (Str.ofString "OSError") (97 : Nat)), (.type "OSError")⟩ :: ⟨(PySem.PyData.keyHash P (Str.ofString "ReferenceError")), (.str (Str.ofString "ReferenceError") (98 : Nat)), (.type "ReferenceError")⟩ :: ⟨(PySem.PyData.keyHash P (Str.ofString "RuntimeError")), (.str (Str.ofString "RuntimeError") (99 : Nat)), (.type "RuntimeError")⟩ :: ⟨(PySem.PyData.keyHash P (Str.ofString "StopAsyncIteration")), (.str (Str.ofString "StopAsyncIteration") (100 : Nat)), (.type "StopAsyncIteration")⟩ :: ⟨(PySem.PyData.keyHash P (Str.ofString "StopIteration")), (.str (Str.ofString "StopIteration") (101 : Nat)), (.type "StopIteration")⟩ :: ⟨(PySem.PyData.keyHash P (Str.ofString "SyntaxError")), (.str (Str.ofString "SyntaxError") (102 : Nat)), (.type "SyntaxError")⟩ :: ⟨(PySem.PyData.keyHash P (Str.ofString "SystemError")), (.str (Str.ofString "SystemError") (103 : Nat)), (.type "SystemError")⟩ :: ⟨(PySem.PyData.keyHash P (Str.ofString "TypeError")), (.str (Str.ofString "TypeError") (104 : Nat)), (.type "TypeError")⟩ :: ⟨(PySem.PyData.keyHash P (Str.ofString "ValueError")), (.str (Str.ofString "ValueError") (105 : Nat)), (.type "ValueError")⟩ :: ⟨(PySem.PyData.keyHash P (Str.ofString "Warning")), (.str (Str.ofString "Warning") (106 : Nat)), (.type "Warning")⟩ :: ⟨(PySem.PyData.keyHash P (Str.ofString "FloatingPointError")), (.str (Str.ofString "FloatingPointError") (107 : Nat)), (.type "FloatingPointError")⟩ :: ⟨(PySem.PyData.keyHash P (Str.ofString "OverflowError")), (.str (Str.ofString "OverflowError") (108 : Nat)), (.type "OverflowError")⟩ :: ⟨(PySem.PyData.keyHash P (Str.ofString "ZeroDivisionError")), (.str (Str.ofString "ZeroDivisionError") (109 : Nat)), (.type "ZeroDivisionError")⟩ :: ⟨(PySem.PyData.keyHash P (Str.ofString "BytesWarning")), (.str (Str.ofString "BytesWarning") (110 : Nat)), (.type "BytesWarning")⟩ :: ⟨(PySem.PyData.keyHash P (Str.ofString "DeprecationWarning")), (.str (Str.ofString "DeprecationWarning") (111 : Nat)), (.type "DeprecationWarning")⟩ :: ⟨(PySem.PyData.keyHash P (Str.ofString "EncodingWarning")), (.str (Str.ofString "EncodingWarning") (112 : Nat)), (.type "EncodingWarning")⟩ :: ⟨(PySem.PyData.keyHash P (Str.ofString "FutureWarning")), (.str (Str.ofString "FutureWarning") (113 : Nat)), (.type "FutureWarning")⟩ :: ⟨(PySem.PyData.keyHash P (Str.ofString "ImportWarning")), (.str (Str.ofString "ImportWarning") (114 : Nat)), (.type "ImportWarning")⟩ :: ⟨(PySem.PyData.keyHash P (Str.ofString "PendingDeprecationWarning")), (.str (Str.ofString "PendingDeprecationWarning") (115 : Nat)), (.type "PendingDeprecationWarning")⟩ :: ⟨(PySem.PyData.keyHash P (Str.ofString "ResourceWarning")), (.str (Str.ofString "ResourceWarning") (116 : Nat)), (.type "ResourceWarning")⟩ :: ⟨(PySem.PyData.keyHash P (Str.ofString "RuntimeWarning")), (.str (Str.ofString "RuntimeWarning") (117 : Nat)), (.type "RuntimeWarning")⟩ :: ⟨(PySem.PyData.keyHash P (Str.ofString "SyntaxWarning")), (.str (Str.ofString "SyntaxWarning") (118 : Nat)), (.type "SyntaxWarning")⟩ :: ⟨(PySem.PyData.keyHash P (Str.ofString "UnicodeWarning")), (.str (Str.ofString "UnicodeWarning") (119 : Nat)), (.type "UnicodeWarning")⟩ :: ⟨(PySem.PyData.keyHash P (Str.ofString "UserWarning")), (.str (Str.ofString "UserWarning") (120 : Nat)), (.type "UserWarning")⟩ :: ⟨(PySem.PyData.keyHash P (Str.ofString "BlockingIOError")), (.str (Str.ofString "BlockingIOError") (121 : Nat)), (.type "BlockingIOError")⟩ :: ⟨(PySem.PyData.keyHash P (Str.ofString "ChildProcessError")), (.str (Str.ofString "ChildProcessError") (122 : Nat)), (.type "ChildProcessError")⟩ :: ⟨(PySem.PyData.keyHash P (Str.ofString "ConnectionError")), (.str (Str.ofString "ConnectionError") (123 : Nat)), (.type "ConnectionError")⟩ :: ⟨(PySem.PyData.keyHash P (Str.ofString "FileExistsError")), (.str (Str.ofString "FileExistsError") (124 : Nat)), (.type "FileExistsError")⟩ :: ⟨(PySem.PyData.keyHash P (Str.ofString "FileNotFoundError")), (.str (Str.ofString "FileNotFoundError") (125 : Nat)), (.type "FileNotFoundError")⟩ :: ⟨(PySem.PyData.keyHash P (Str.ofString "InterruptedError")), (.str (Str.ofString "InterruptedError") (126 : Nat)), (.type "InterruptedError")⟩ :: ⟨(PySem.PyData.keyHash P (Str.ofString "IsADirectoryError")), (.str (Str.ofString "IsADirectoryError") (127 : Nat)), (.type "IsADirectoryError")⟩ :: ⟨(PySem.PyData.keyHash P (Str.ofString "NotADirectoryError")), (.str (Str.ofString "NotADirectoryError") (128 : Nat)), (.type "NotADirectoryError")⟩ :: ⟨(PySem.PyData.keyHash P (Str.ofString "PermissionError")), (.str (Str.ofString "PermissionError") (129 : Nat)), (.type "PermissionError")⟩ :: ⟨(PySem.PyData.keyHash P (Str.ofString "ProcessLookupError")), (.str (Str.ofString "ProcessLookupError") (130 : Nat)), (.type "ProcessLookupError")⟩ :: ⟨(PySem.PyData.keyHash P (Str.ofString "TimeoutError")), (.str (Str.ofString "TimeoutError") (131 : Nat)), (.type "TimeoutError")⟩ :: ⟨(PySem.PyData.keyHash P (Str.ofString "IndentationError")), (.str (Str.ofString "IndentationError") (132 : Nat)), (.type "IndentationError")⟩ :: ⟨(PySem.PyData.keyHash P (Str.ofString "_IncompleteInputError")), (.str (Str.ofString "_IncompleteInputError") (133 : Nat)), (.type "_IncompleteInputError")⟩ :: ⟨(PySem.PyData.keyHash P (Str.ofString "IndexError")), (.str (Str.ofString "IndexError") (134 : Nat)), (.type "IndexError")⟩ :: ⟨(PySem.PyData.keyHash P (Str.ofString "KeyError")), (.str (Str.ofString "KeyError") (135 : Nat)), (.type "KeyError")⟩ :: ⟨(PySem.PyData.keyHash P (Str.ofString "ModuleNotFoundError")), (.str (Str.ofString "ModuleNotFoundError") (136 : Nat)), (.type "ModuleNotFoundError")⟩ :: ⟨(PySem.PyData.keyHash P (Str.ofString "NotImplementedError")), (.str (Str.ofString "NotImplementedError") (137 : Nat)), (.type "NotImplementedError")⟩ :: ⟨(PySem.PyData.keyHash P (Str.ofString "PythonFinalizationError")), (.str (Str.ofString "PythonFinalizationError") (138 : Nat)), (.type "PythonFinalizationError")⟩ :: ⟨(PySem.PyData.keyHash P (Str.ofString "RecursionError")), (.str (Str.ofString "RecursionError") (139 : Nat)), (.type "RecursionError")⟩ :: ⟨(PySem.PyData.keyHash P (Str.ofString "UnboundLocalError")), (.str (Str.ofString "UnboundLocalError") (140 : Nat)), (.type "UnboundLocalError")⟩ :: ⟨(PySem.PyData.keyHash P (Str.ofString "UnicodeError")), (.str (Str.ofString "UnicodeError") (141 : Nat)), (.type "UnicodeError")⟩ :: ⟨(PySem.PyData.keyHash P (Str.ofString "BrokenPipeError")), (.str (Str.ofString "BrokenPipeError") (142 : Nat)), (.type "BrokenPipeError")⟩ :: ⟨(PySem.PyData.keyHash P (Str.ofString "ConnectionAbortedError")), (.str (Str.ofString "ConnectionAbortedError") (143 : Nat)), (.type "ConnectionAbortedError")⟩ :: ⟨(PySem.PyData.keyHash P (Str.ofString "ConnectionRefusedError")), (.str (Str.ofString "ConnectionRefusedError") (144 : Nat)), (.type "ConnectionRefusedError")⟩ :: ⟨(PySem.PyData.keyHash P (Str.ofString "ConnectionResetError")), (.str (Str.ofString "ConnectionResetError") (145 : Nat)), (.type "ConnectionResetError")⟩ :: ⟨(PySem.PyData.keyHash P (Str.ofString "TabError")), (.str (Str.ofString "TabError") (146 : Nat)), (.type "TabError")⟩ :: ⟨(PySem.PyData.keyHash P (Str.ofString "UnicodeDecodeError")), (.str (Str.ofString "UnicodeDecodeError") (147 : Nat)), (.type "UnicodeDecodeError")⟩ :: ⟨(PySem.PyData.keyHash P (Str.ofString "UnicodeEncodeError")), (.str (Str.ofString "UnicodeEncodeError") (148 : Nat)), (.type "UnicodeEncodeError")⟩ :: ⟨(PySem.PyData.keyHash P (Str.ofString "UnicodeTranslateError")), (.str (Str.ofString "UnicodeTranslateError") (149 : Nat)), (.type "UnicodeTranslateError")⟩ :: ⟨(PySem.PyData.keyHash P (Str.ofString "ExceptionGroup")), (.str (Str.ofString "ExceptionGroup") (150 : Nat)), (.type "ExceptionGroup")⟩ :: ⟨(PySem.PyData.keyHash P (Str.ofString "EnvironmentError")), (.str (Str.ofString "EnvironmentError") (151 : Nat)), (.type "OSError")⟩ :: ⟨(PySem.PyData.keyHash P (Str.ofString "IOError")), (.str (Str.ofString "IOError") (152 : Nat)), (.type "OSError")⟩ :: ⟨(PySem.PyData.keyHash P (Str.ofString "open")), (.str (Str.ofString "open") (153 : Nat)), (.builtin "open")⟩ :: ⟨(PySem.PyData.keyHash P (Str.ofString "quit")), (.str (Str.ofString "quit") (154 : Nat)), (.builtin "builtins.quit#opaque")⟩ :: ⟨(PySem.PyData.keyHash P (Str.ofString "exit")), (.str (Str.ofString "exit") (155 : Nat)), (.builtin "builtins.exit#opaque")⟩ :: ⟨(PySem.PyData.keyHash P (Str.ofString "copyright")), (.str (Str.ofString "copyright") (156 : Nat)), (.builtin "builtins.copyright#opaque")⟩ :: ⟨(PySem.PyData.keyHash P (Str.ofString "credits")), (.str (Str.ofString "credits") (157 : Nat)), (.builtin "builtins.credits#opaque")⟩ :: ⟨(PySem.PyData.keyHash P (Str.ofString "license")), (.str (Str.ofString "license") (158 : Nat)), (.builtin "builtins.license#opaque")⟩ :: ⟨(PySem.PyData.keyHash P (Str.ofString "help")), (.str (Str.ofString "help") (159 : Nat)), (.builtin "builtins.help#opaque")⟩ :: [])) (159 : Nat)), #[]⟩
noncomputable def ob1 (P : Params) : Obj := ⟨(.type "dict"), none, (.dict #[⟨(PySem.PyData.keyHash P (Str.ofString "builtins")), (.str (Str.ofString "builtins") (162 : Nat)), (.ref (4 : Nat))⟩, ⟨(PySem.PyData.keyHash P (Str.ofString "__main__")), (.str (Str.ofString "__main__") (163 : Nat)), (.ref (5 : Nat))⟩, ⟨(PySem.PyData.keyHash P (Str.ofString "_sre")), (.str (Str.ofString "_sre") (244 : Nat)), (.ref (12 : Nat))⟩] (3 : Nat)), #[]⟩
noncomputable def ob2 (P : Params) : Obj := ⟨.none, none, (.dict #[⟨(PySem.PyData.keyHash P (Str.ofString ("im" ++ "port.loaded._sre"))), (.str (Str.ofString ("im" ++ "port.loaded._sre")) (183 : Nat)), (.bool true)⟩, ⟨(PySem.PyData.keyHash P (Str.ofString "class._frozen_importlib.BuiltinImporter")), (.str (Str.ofString "class._frozen_importlib.BuiltinImporter") (185 : Nat)), (.ref (14 : Nat))⟩, ⟨(PySem.PyData.keyHash P (Str.ofString ("watched.im" ++ "port"))), (.str (Str.ofString ("watched.im" ++ "port")) (206 : Nat)), (.ref (18 : Nat))⟩, ⟨(PySem.PyData.keyHash P (Str.ofString "class._frozen_importlib.ModuleSpec")), (.str (Str.ofString "class._frozen_importlib.ModuleSpec") (216 : Nat)), (.ref (22 : Nat))⟩, ⟨(PySem.PyData.keyHash P (Str.ofString "sys.modules.booked-epoch")), (.str (Str.ofString "sys.modules.booked-epoch") (245 : Nat)), (.int 3 (0 : Nat))⟩, ⟨(PySem.PyData.keyHash P (Str.ofString ("im" ++ "port.later-laid._sre"))), (.str (Str.ofString ("im" ++ "port.later-laid._sre")) (270 : Nat)), (.bool true)⟩, ⟨(PySem.PyData.keyHash P (Str.ofString "watched.library")), (.str (Str.ofString "watched.library") (272 : Nat)), (.ref (27 : Nat))⟩, ⟨(PySem.PyData.keyHash P (Str.ofString "watched.library-objects")), (.str (Str.ofString "watched.library-objects") (0 : Nat)), (.str (Str.ofString "\x0c") (0 : Nat))⟩, ⟨(PySem.PyData.keyHash P (Str.ofString "watched.library-deep._sre")), (.str (Str.ofString "watched.library-deep._sre") (273 : Nat)), (.str (Str.ofString "\x04\x00\x00\x0b\x04\x00\x00\x0b\x04\x00\x00\x03\x04\x00\x00\x0b\x08\x04dict\x02") (0 : Nat))⟩] (9 : Nat)), #[]⟩
noncomputable def ob3 (P : Params) : Obj := ⟨(.type "dict"), none, (.dict #[⟨(PySem.PyData.keyHash P (Str.ofString "__name__")), (.str (Str.ofString "__name__") (165 : Nat)), (.str (Str.ofString "__main__") (164 : Nat))⟩, ⟨(PySem.PyData.keyHash P (Str.ofString "__doc__")), (.str (Str.ofString "__doc__") (166 : Nat)), .none⟩, ⟨(PySem.PyData.keyHash P (Str.ofString "__package__")), (.str (Str.ofString "__package__") (167 : Nat)), .none⟩, ⟨(PySem.PyData.keyHash P (Str.ofString "__loader__")), (.str (Str.ofString "__loader__") (168 : Nat)), (.builtin "__main__.__loader__#opaque")⟩, ⟨(PySem.PyData.keyHash P (Str.ofString "__spec__")), (.str (Str.ofString "__spec__") (169 : Nat)), .none⟩, ⟨(PySem.PyData.keyHash P (Str.ofString "__annotations__")), (.str (Str.ofString "__annotations__") (170 : Nat)), (.ref (6 : Nat))⟩, ⟨(PySem.PyData.keyHash P (Str.ofString "__builtins__")), (.str (Str.ofString "__builtins__") (171 : Nat)), (.ref (4 : Nat))⟩, ⟨(PySem.PyData.keyHash P (Str.ofString "__file__")), (.str (Str.ofString "__file__") (173 : Nat)), (.str (Str.ofString "/claim/cut.py") (172 : Nat))⟩, ⟨(PySem.PyData.keyHash P (Str.ofString "__cached__")), (.str (Str.ofString "__cached__") (174 : Nat)), .none⟩, ⟨(PySem.PyData.keyHash P (Str.ofString "_sre")), (.str (Str.ofString "_sre") (275 : Nat)), (.ref (12 : Nat))⟩] (10 : Nat)), #[]⟩
noncomputable def ob4 (P : Params) : Obj := ⟨(.type "module"), (some (0 : Nat)), .plain, #[]⟩
noncomputable def ob5 (P : Params) : Obj := ⟨(.type "module"), (some (3 : Nat)), .plain, #[]⟩
noncomputable def ob6 (P : Params) : Obj := ⟨(.type "dict"), none, (.dict #[] (0 : Nat)), #[]⟩
noncomputable def ob7 (P : Params) : Obj := ⟨(.type "tuple"), none, (.seq #[] (0 : Nat)), #[]⟩
noncomputable def ob8 (P : Params) : Obj := ⟨.none, none, (.fields #[]), #[]⟩
noncomputable def ob9 (P : Params) : Obj := ⟨(.type "code"), none, (.fields #[(.str (Str.ofString "<module>") (176 : Nat)), (.str (Str.ofString "<module>") (177 : Nat)), (.str (Str.ofString "/claim/cut.py") (178 : Nat)), (.int 1 (0 : Nat)), (.int 0 (0 : Nat)), (.int 0 (0 : Nat)), (.int 0 (0 : Nat)), (.int 0 (0 : Nat)), (.ref (7 : Nat)), (.bool false), (.int 175 (0 : Nat)), (.ref (8 : Nat)), .none, .none, .none, .none, (.int 179 (0 : Nat)), (.int 1 (0 : Nat)), (.str (Str.ofString "/claim/cut.py") (180 : Nat))]), #[]⟩
noncomputable def ob10 (P : Params) : Obj := ⟨(.type "frame"), none, .plain, #[(some (.ref (9 : Nat))), (some (.ref (3 : Nat))), (some (.ref (3 : Nat))), none, (some (.str (Str.ofString "__main__") (164 : Nat))), none, (some (.ref (0 : Nat)))]⟩
noncomputable def ob11 (P : Params) : Obj := ⟨(.type "dict"), none, (.dict #[⟨(PySem.PyData.keyHash P (Str.ofString "__name__")), (.str (Str.ofString "__name__") (247 : Nat)), (.str (Str.ofString "_sre") (246 : Nat))⟩, ⟨(PySem.PyData.keyHash P (Str.ofString "__doc__")), (.str (Str.ofString "__doc__") (248 : Nat)), .none⟩, ⟨(PySem.PyData.keyHash P (Str.ofString "__package__")), (.str (Str.ofString "__package__") (250 : Nat)), (.str (Str.ofString "") (249 : Nat))⟩, ⟨(PySem.PyData.keyHash P (Str.ofString "__loader__")), (.str (Str.ofString "__loader__") (251 : Nat)), (.builtin "off-the-table:_sre.__loader__:shared#opaque")⟩, ⟨(PySem.PyData.keyHash P (Str.ofString "__spec__")), (.str (Str.ofString "__spec__") (252 : Nat)), (.builtin "off-the-table:_sre.__spec__:shared#opaque")⟩, ⟨(PySem.PyData.keyHash P (Str.ofString "compile")), (.str (Str.ofString "compile") (253 : Nat)), (.builtin "_sre.compile")⟩, ⟨(PySem.PyData.keyHash P (Str.ofString "template")), (.str (Str.ofString "template") (254 : Nat)), (.builtin "off-the-table:_sre.template:shared#opaque")⟩, ⟨(PySem.PyData.keyHash P (Str.ofString "getcodesize")), (.str (Str.ofString "getcodesize") (255 : Nat)), (.builtin "off-the-table:_sre.getcodesize:shared#opaque")⟩, ⟨(PySem.PyData.keyHash P (Str.ofString "ascii_iscased")), (.str (Str.ofString "ascii_iscased") (256 : Nat)), (.builtin "off-the-table:_sre.ascii_iscased:shared#opaque")⟩, ⟨(PySem.PyData.keyHash P (Str.ofString "unicode_iscased")), (.str (Str.ofString "unicode_iscased") (257 : Nat)), (.builtin "off-the-table:_sre.unicode_iscased:shared#opaque")⟩, ⟨(PySem.PyData.keyHash P (Str.ofString "ascii_tolower")), (.str (Str.ofString "ascii_tolower") (258 : Nat)), (.builtin "off-the-table:_sre.ascii_tolower:shared#opaque")⟩, ⟨(PySem.PyData.keyHash P (Str.ofString "unicode_tolower")), (.str (Str.ofString "unicode_tolower") (259 : Nat)), (.builtin "off-the-table:_sre.unicode_tolower:shared#opaque")⟩, ⟨(PySem.PyData.keyHash P (Str.ofString "MAGIC")), (.str (Str.ofString "MAGIC") (261 : Nat)), (.int 20230612 (260 : Nat))⟩, ⟨(PySem.PyData.keyHash P (Str.ofString "CODESIZE")), (.str (Str.ofString "CODESIZE") (263 : Nat)), (.int 4 (262 : Nat))⟩, ⟨(PySem.PyData.keyHash P (Str.ofString "MAXREPEAT")), (.str (Str.ofString "MAXREPEAT") (265 : Nat)), (.int 4294967295 (264 : Nat))⟩, ⟨(PySem.PyData.keyHash P (Str.ofString "MAXGROUPS")), (.str (Str.ofString "MAXGROUPS") (267 : Nat)), (.int 1073741823 (266 : Nat))⟩, ⟨(PySem.PyData.keyHash P (Str.ofString "copyright")), (.str (Str.ofString "copyright") (269 : Nat)), (.str (Str.ofString " SRE 2.2.2 Copyright (c) 1997-2002 by Secret Labs AB ") (268 : Nat))⟩] (17 : Nat)), #[]⟩
noncomputable def ob12 (P : Params) : Obj := ⟨(.type "module"), (some (11 : Nat)), .plain, #[]⟩
noncomputable def ob13 (P : Params) : Obj := ⟨(.type "dict"), none, (.dict #[⟨(PySem.PyData.keyHash P (Str.ofString "__module__")), (.str (Str.ofString "__module__") (189 : Nat)), (.str (Str.ofString "_frozen_importlib") (186 : Nat))⟩, ⟨(PySem.PyData.keyHash P (Str.ofString "__firstlineno__")), (.str (Str.ofString "__firstlineno__") (190 : Nat)), (.int 971 (187 : Nat))⟩, ⟨(PySem.PyData.keyHash P (Str.ofString "__doc__")), (.str (Str.ofString "__doc__") (191 : Nat)), (.builtin "_frozen_importlib.BuiltinImporter.__doc__:str#opaque")⟩, ⟨(PySem.PyData.keyHash P (Str.ofString "_ORIGIN")), (.str (Str.ofString "_ORIGIN") (192 : Nat)), (.str (Str.ofString "built-in") (188 : Nat))⟩, ⟨(PySem.PyData.keyHash P (Str.ofString "find_spec")), (.str (Str.ofString "find_spec") (193 : Nat)), (.builtin "_frozen_importlib.BuiltinImporter.find_spec#opaque")⟩, ⟨(PySem.PyData.keyHash P (Str.ofString "create_module")), (.str (Str.ofString "create_module") (194 : Nat)), (.builtin "_frozen_importlib.BuiltinImporter.create_module#opaque")⟩, ⟨(PySem.PyData.keyHash P (Str.ofString "exec_module")), (.str (Str.ofString "exec_module") (195 : Nat)), (.builtin "_frozen_importlib.BuiltinImporter.exec_module#opaque")⟩, ⟨(PySem.PyData.keyHash P (Str.ofString "get_code")), (.str (Str.ofString "get_code") (196 : Nat)), (.builtin "_frozen_importlib.BuiltinImporter.get_code#opaque")⟩, ⟨(PySem.PyData.keyHash P (Str.ofString "get_source")), (.str (Str.ofString "get_source") (197 : Nat)), (.builtin "_frozen_importlib.BuiltinImporter.get_source#opaque")⟩, ⟨(PySem.PyData.keyHash P (Str.ofString "is_package")), (.str (Str.ofString "is_package") (198 : Nat)), (.builtin "_frozen_importlib.BuiltinImporter.is_package#opaque")⟩, ⟨(PySem.PyData.keyHash P (Str.ofString "load_module")), (.str (Str.ofString "load_module") (199 : Nat)), (.builtin "_frozen_importlib.BuiltinImporter.load_module#opaque")⟩, ⟨(PySem.PyData.keyHash P (Str.ofString "__static_attributes__")), (.str (Str.ofString "__static_attributes__") (200 : Nat)), (.ref (15 : Nat))⟩, ⟨(PySem.PyData.keyHash P (Str.ofString "__dict__")), (.str (Str.ofString "__dict__") (202 : Nat)), (.ref (16 : Nat))⟩, ⟨(PySem.PyData.keyHash P (Str.ofString "__weakref__")), (.str (Str.ofString "__weakref__") (204 : Nat)), (.ref (17 : Nat))⟩] (14 : Nat)), #[]⟩
noncomputable def ob14 (P : Params) : Obj := ⟨(.type "type"), none, (.cls ⟨(Str.ofString "BuiltinImporter"), [(.type "object")], [(.ref (14 : Nat)), (.type "object")], (13 : Nat), (Str.ofString "BuiltinImporter"), true, [], [], false, none, false⟩), #[]⟩
noncomputable def ob15 (P : Params) : Obj := ⟨(.type "getset_descriptor"), none, (.fields #[(.str (Str.ofString "__dict__") (201 : Nat)), (.ref (14 : Nat)), (.builtin "function.__dict__"), (.builtin "function.__dict__#set")]), #[]⟩
noncomputable def ob16 (P : Params) : Obj := ⟨(.type "getset_descriptor"), none, (.fields #[(.str (Str.ofString "__weakref__") (203 : Nat)), (.ref (14 : Nat)), (.builtin "ExceptionGroup.__weakref__"), .none]), #[]⟩
noncomputable def ob18 (P : Params) : Obj := ⟨(.type "list"), none, (.seq #[] (0 : Nat)), #[]⟩
noncomputable def ob19 (P : Params) : Obj := ⟨(.type "dict"), none, (.dict #[⟨(PySem.PyData.keyHash P (Str.ofString "name")), (.str (Str.ofString "name") (208 : Nat)), (.str (Str.ofString "_sre") (207 : Nat))⟩, ⟨(PySem.PyData.keyHash P (Str.ofString "loader")), (.str (Str.ofString "loader") (209 : Nat)), (.ref (14 : Nat))⟩, ⟨(PySem.PyData.keyHash P (Str.ofString "origin")), (.str (Str.ofString "origin") (210 : Nat)), (.str (Str.ofString "built-in") (184 : Nat))⟩, ⟨(PySem.PyData.keyHash P (Str.ofString "loader_state")), (.str (Str.ofString "loader_state") (211 : Nat)), .none⟩, ⟨(PySem.PyData.keyHash P (Str.ofString "submodule_search_locations")), (.str (Str.ofString "submodule_search_locations") (212 : Nat)), .none⟩, ⟨(PySem.PyData.keyHash P (Str.ofString "_uninitialized_submodules")), (.str (Str.ofString "_uninitialized_submodules") (213 : Nat)), (.ref (19 : Nat))⟩, ⟨(PySem.PyData.keyHash P (Str.ofString "_set_fileattr")), (.str (Str.ofString "_set_fileattr") (214 : Nat)), (.bool false)⟩, ⟨(PySem.PyData.keyHash P (Str.ofString "_cached")), (.str (Str.ofString "_cached") (215 : Nat)), .none⟩, ⟨(PySem.PyData.keyHash P (Str.ofString "_initializing")), (.str (Str.ofString "_initializing") (243 : Nat)), (.bool false)⟩] (9 : Nat)), #[]⟩
noncomputable def ob20 (P : Params) : Obj := ⟨(.type "dict"), none, (.dict #[⟨(PySem.PyData.keyHash P (Str.ofString "__module__")), (.str (Str.ofString "__module__") (227 : Nat)), (.str (Str.ofString "_frozen_importlib") (217 : Nat))⟩, ⟨(PySem.PyData.keyHash P (Str.ofString "__firstlineno__")), (.str (Str.ofString "__firstlineno__") (228 : Nat)), (.int 562 (218 : Nat))⟩, ⟨(PySem.PyData.keyHash P (Str.ofString "__doc__")), (.str (Str.ofString "__doc__") (229 : Nat)), (.builtin "_frozen_importlib.ModuleSpec.__doc__:str#opaque")⟩, ⟨(PySem.PyData.keyHash P (Str.ofString "__init__")), (.str (Str.ofString "__init__") (230 : Nat)), (.builtin "_frozen_importlib.ModuleSpec.__init__#opaque")⟩, ⟨(PySem.PyData.keyHash P (Str.ofString "__repr__")), (.str (Str.ofString "__repr__") (231 : Nat)), (.builtin "_frozen_importlib.ModuleSpec.__repr__#opaque")⟩, ⟨(PySem.PyData.keyHash P (Str.ofString "__eq__")), (.str (Str.ofString "__eq__") (232 : Nat)), (.builtin "_frozen_importlib.ModuleSpec.__eq__#opaque")⟩, ⟨(PySem.PyData.keyHash P (Str.ofString "cached")), (.str (Str.ofString "cached") (233 : Nat)), (.builtin "_frozen_importlib.ModuleSpec.cached#opaque")⟩, ⟨(PySem.PyData.keyHash P (Str.ofString "parent")), (.str (Str.ofString "parent") (234 : Nat)), (.builtin "_frozen_importlib.ModuleSpec.parent#opaque")⟩, ⟨(PySem.PyData.keyHash P (Str.ofString "has_location")), (.str (Str.ofString "has_location") (235 : Nat)), (.builtin "_frozen_importlib.ModuleSpec.has_location#opaque")⟩, ⟨(PySem.PyData.keyHash P (Str.ofString "__static_attributes__")), (.str (Str.ofString "__static_attributes__") (236 : Nat)), (.ref (23 : Nat))⟩, ⟨(PySem.PyData.keyHash P (Str.ofString "__dict__")), (.str (Str.ofString "__dict__") (238 : Nat)), (.ref (24 : Nat))⟩, ⟨(PySem.PyData.keyHash P (Str.ofString "__weakref__")), (.str (Str.ofString "__weakref__") (240 : Nat)), (.ref (25 : Nat))⟩, ⟨(PySem.PyData.keyHash P (Str.ofString "__hash__")), (.str (Str.ofString "__hash__") (241 : Nat)), .none⟩] (13 : Nat)), #[]⟩
noncomputable def ob21 (P : Params) : Obj := ⟨(.type "type"), none, (.cls ⟨(Str.ofString "ModuleSpec"), [(.type "object")], [(.ref (22 : Nat)), (.type "object")], (21 : Nat), (Str.ofString "ModuleSpec"), true, [], [], false, none, false⟩), #[]⟩
noncomputable def ob22 (P : Params) : Obj := ⟨(.type "tuple"), none, (.seq #[(.str (Str.ofString "_cached") (219 : Nat)), (.str (Str.ofString "_set_fileattr") (220 : Nat)), (.str (Str.ofString "_uninitialized_submodules") (221 : Nat)), (.str (Str.ofString "loader") (222 : Nat)), (.str (Str.ofString "loader_state") (223 : Nat)), (.str (Str.ofString "name") (224 : Nat)), (.str (Str.ofString "origin") (225 : Nat)), (.str (Str.ofString "submodule_search_locations") (226 : Nat))] (0 : Nat)), #[]⟩
noncomputable def ob23 (P : Params) : Obj := ⟨(.type "getset_descriptor"), none, (.fields #[(.str (Str.ofString "__dict__") (237 : Nat)), (.ref (22 : Nat)), (.builtin "function.__dict__"), (.builtin "function.__dict__#set")]), #[]⟩
noncomputable def ob24 (P : Params) : Obj := ⟨(.type "getset_descriptor"), none, (.fields #[(.str (Str.ofString "__weakref__") (239 : Nat)), (.ref (22 : Nat)), (.builtin "ExceptionGroup.__weakref__"), .none]), #[]⟩
noncomputable def ob25 (P : Params) : Obj := ⟨(.ref (22 : Nat)), (some (20 : Nat)), .plain, #[]⟩
noncomputable def ob26 (P : Params) : Obj := ⟨.none, none, (.seq #[(.int 11 (0 : Nat)), (.str ⟨(List.toArray ((6 : Nat) :: (247 : Nat) :: (8 : Nat) :: (95 : Nat) :: (95 : Nat) :: (110 : Nat) :: (97 : Nat) :: (109 : Nat) :: (101 : Nat) :: (95 : Nat) :: (95 : Nat) :: (6 : Nat) :: (246 : Nat) :: (4 : Nat) :: (95 : Nat) :: (115 : Nat) :: (114 : Nat) :: (101 : Nat) :: (6 : Nat) :: (248 : Nat) :: (7 : Nat) :: (95 : Nat) :: (95 : Nat) :: (100 : Nat) :: (111 : Nat) :: (99 : Nat) :: (95 : Nat) :: (95 : Nat) :: (0 : Nat) :: (6 : Nat) :: (250 : Nat) :: (11 : Nat) :: (95 : Nat) :: (95 : Nat) :: (112 : Nat) :: (97 : Nat) :: (99 : Nat) :: (107 : Nat) :: (97 : Nat) :: (103 : Nat) :: (101 : Nat) :: (95 : Nat) :: (95 : Nat) :: (6 : Nat) :: (249 : Nat) :: (0 : Nat) :: (6 : Nat) :: (251 : Nat) :: (10 : Nat) :: (95 : Nat) :: (95 : Nat) :: (108 : Nat) :: (111 : Nat) :: (97 : Nat) :: (100 : Nat) :: (101 : Nat) :: (114 : Nat) :: (95 : Nat) :: (95 : Nat) :: (4 : Nat) :: (0 : Nat) :: (0 : Nat) :: (14 : Nat) :: (6 : Nat) :: (252 : Nat) :: (8 : Nat) :: (95 : Nat) :: (95 : Nat) :: (115 : Nat) :: (112 : Nat) :: (101 : Nat) :: (99 : Nat) :: (95 : Nat) :: (95 : Nat) :: (4 : Nat) :: (0 : Nat) :: (0 : Nat) :: (26 : Nat) :: (6 : Nat) :: (253 : Nat) :: (7 : Nat) :: (99 : Nat) :: (111 : Nat) :: (109 : Nat) :: (112 : Nat) :: (105 : Nat) :: (108 : Nat) :: (101 : Nat) :: (9 : Nat) :: (12 : Nat) :: (95 : Nat) :: (115 : Nat) :: (114 : Nat) :: (101 : Nat) :: (46 : Nat) :: (99 : Nat) :: (111 : Nat) :: (109 : Nat) :: (112 : Nat) :: (105 : Nat) :: (108 : Nat) :: (101 : Nat) :: (6 : Nat) :: (254 : Nat) :: (8 : Nat) :: (116 : Nat) :: (101 : Nat) :: (109 : Nat) :: (112 : Nat) :: (108 : Nat) :: (97 : Nat) :: (116 : Nat) :: (101 : Nat) :: (9 : Nat) :: (13 : Nat) :: (95 : Nat) :: (115 : Nat) :: (114 : Nat) :: (101 : Nat) :: (46 : Nat) :: (116 : Nat) :: (101 : Nat) :: (109 : Nat) :: (112 : Nat) :: (108 : Nat) :: (97 : Nat) :: (116 : Nat) :: (101 : Nat) :: (6 : Nat) :: (255 : Nat) :: (11 : Nat) :: (103 : Nat) :: (101 : Nat) :: (116 : Nat) :: (99 : Nat) :: (111 : Nat) :: (100 : Nat) :: (101 : Nat) :: (115 : Nat) :: (105 : Nat) :: (122 : Nat) :: (101 : Nat) :: (9 : Nat) :: (16 : Nat) :: (95 : Nat) :: (115 : Nat) :: (114 : Nat) :: (101 : Nat) :: (46 : Nat) :: (103 : Nat) :: (101 : Nat) :: (116 : Nat) :: (99 : Nat) :: (111 : Nat) :: (100 : Nat) :: (101 : Nat) :: (115 : Nat) :: (105 : Nat) :: (122 : Nat) :: (101 : Nat) :: (6 : Nat) :: (256 : Nat) :: (13 : Nat) :: (97 : Nat) :: (115 : Nat) :: (99 : Nat) :: (105 : Nat) :: (105 : Nat) :: (95 : Nat) :: (105 : Nat) :: (115 : Nat) :: (99 : Nat) :: (97 : Nat) :: (115 : Nat) :: (101 : Nat) :: (100 : Nat) :: (9 : Nat) :: (18 : Nat) :: (95 : Nat) :: (115 : Nat) :: (114 : Nat) :: (101 : Nat) :: (46 : Nat) :: (97 : Nat) :: (115 : Nat) :: (99 : Nat) :: (105 : Nat) :: (105 : Nat) :: (95 : Nat) :: (105 : Nat) :: (115 : Nat) :: (99 : Nat) :: (97 : Nat) :: (115 : Nat) :: (101 : Nat) :: (100 : Nat) :: (6 : Nat) :: (257 : Nat) :: (15 : Nat) :: (117 : Nat) :: (110 : Nat) :: (105 : Nat) :: (99 : Nat) :: (111 : Nat) :: (100 : Nat) :: (101 : Nat) :: (95 : Nat) :: (105 : Nat) :: (115 : Nat) :: (99 : Nat) :: (97 : Nat) :: (115 : Nat) :: (101 : Nat) :: (100 : Nat) :: (9 : Nat) :: (20 : Nat) :: (95 : Nat) :: (115 : Nat) :: (114 : Nat) :: (101 : Nat) :: (46 : Nat) :: (117 : Nat) :: (110 : Nat) :: (105 : Nat) :: (99 : Nat) :: (111 : Nat) :: (100 : Nat) :: (101 : Nat) :: (95 : Nat) :: (105 : Nat) :: (115 : Nat) :: (99 : Nat) :: (97 : Nat) :: (115 : Nat) :: (101 : Nat) :: (100 : Nat) :: (6 : Nat) :: (258 : Nat) :: (13 : Nat) :: (97 : Nat) :: (115 : Nat) :: (99 : Nat) :: (105 : Nat) :: (105 : Nat) :: (95 : Nat) :: (116 : Nat) :: (111 : Nat) :: (108 : Nat) :: (111 : Nat) :: (119 : Nat) :: (101 : Nat) :: (114 : Nat) :: (9 : Nat) :: (18 : Nat) :: (95 : Nat) :: (115 : Nat) :: (114 : Nat) :: (101 : Nat) :: (46 : Nat) :: (97 : Nat) :: (115 : Nat) :: (99 : Nat) :: (105 : Nat) :: (105 : Nat) :: (95 : Nat) :: (116 : Nat) :: (111 : Nat) :: (108 : Nat) :: (111 : Nat) :: (119 : Nat) :: (101 : Nat) :: (114 : Nat) :: (6 : Nat) :: (259 : Nat) :: (15 : Nat) :: (117 : Nat) :: (110 : Nat) :: (105 : Nat) :: (99 : Nat) :: (111 : Nat) :: (100 : Nat) :: (101 : Nat) :: (95 : Nat) :: (116 : Nat) :: (111 : Nat) :: (108 : Nat) :: (111 : Nat) :: (119 : Nat) :: (101 : Nat) :: (114 : Nat) :: (9 : Nat) :: (20 : Nat) :: (95 : Nat) :: (115 : Nat) :: (114 : Nat) :: (101 : Nat) :: (46 : Nat) :: (117 : Nat) :: (110 : Nat) :: (105 : Nat) :: (99 : Nat) :: (111 : Nat) :: (100 : Nat) :: (101 : Nat) :: (95 : Nat) :: (116 : Nat) :: (111 : Nat) :: (108 : Nat) :: (111 : Nat) :: (119 : Nat) :: (101 : Nat) :: (114 : Nat) :: (6 : Nat) :: (261 : Nat) :: (5 : Nat) :: (77 : Nat) :: (65 : Nat) :: (71 : Nat) :: (73 : Nat) :: (67 : Nat) :: (4 : Nat) :: (260 : Nat) :: (0 : Nat) :: (20230612 : Nat) :: (6 : Nat) :: (263 : Nat) :: (8 : Nat) :: (67 : Nat) :: (79 : Nat) :: (68 : Nat) :: (69 : Nat) :: (83 : Nat) :: (73 : Nat) :: (90 : Nat) :: (69 : Nat) :: (4 : Nat) :: (262 : Nat) :: (0 : Nat) :: (4 : Nat) :: (6 : Nat) :: (265 : Nat) :: (9 : Nat) :: (77 : Nat) :: (65 : Nat) :: (88 : Nat) :: (82 : Nat) :: (69 : Nat) :: (80 : Nat) :: (69 : Nat) :: (65 : Nat) :: (84 : Nat) :: (4 : Nat) :: (264 : Nat) :: (0 : Nat) :: (4294967295 : Nat) :: (6 : Nat) :: (267 : Nat) :: (9 : Nat) :: (77 : Nat) :: (65 : Nat) :: (88 : Nat) :: (71 : Nat) :: (82 : Nat) :: (79 : Nat) :: (85 : Nat) :: (80 : Nat) :: (83 : Nat) :: (4 : Nat) :: (266 : Nat) :: (0 : Nat) :: (1073741823 : Nat) :: (6 : Nat) :: (269 : Nat) :: (9 : Nat) :: (99 : Nat) :: (111 : Nat) :: (112 : Nat) :: (121 : Nat) :: (114 : Nat) :: (105 : Nat) :: (103 : Nat) :: (104 : Nat) :: (116 : Nat) :: (6 : Nat) :: (268 : Nat) :: (53 : Nat) :: (32 : Nat) :: (83 : Nat) :: (82 : Nat) :: (69 : Nat) :: (32 : Nat) :: (50 : Nat) :: (46 : Nat) :: (50 : Nat) :: (46 : Nat) :: (50 : Nat) :: (32 : Nat) :: (67 : Nat) :: (111 : Nat) :: (112 : Nat) :: (121 : Nat) :: (114 : Nat) :: (105 : Nat) :: (103 : Nat) :: (104 : Nat) :: (116 : Nat) :: (32 : Nat) :: (40 : Nat) :: (99 : Nat) :: (41 : Nat) :: (32 : Nat) :: (49 : Nat) :: (57 : Nat) :: (57 : Nat) :: (55 : Nat) :: (45 : Nat) :: (50 : Nat) :: (48 : Nat) :: (48 : Nat) :: (50 : Nat) :: (32 : Nat) :: (98 : Nat) :: (121 : Nat) :: (32 : Nat) :: (83 : Nat) :: (101 : Nat) :: (99 : Nat) :: (114 : Nat) :: (101 : Nat) :: (116 : Nat) :: (32 : Nat) :: (76 : Nat) :: (97 : Nat) :: (98 : Nat) :: (115 : Nat) :: (32 : Nat) :: (65 : Nat) :: (66 : Nat) :: (32 : Nat) :: []))⟩ (0 : Nat)), (.bool true), (.bool false), (.str (Str.ofString "_sre") (271 : Nat))] (0 : Nat)), #[]⟩
noncomputable def ob27 (P : Params) : Obj := ⟨(.type "code"), none, (.fields #[(.str (Str.ofString "<module>") (277 : Nat)), (.str (Str.ofString "<module>") (278 : Nat)), (.str (Str.ofString "/claim/cut.py") (279 : Nat)), (.int 1 (0 : Nat)), (.int 0 (0 : Nat)), (.int 0 (0 : Nat)), (.int 0 (0 : Nat)), (.int 0 (0 : Nat)), (.ref (28 : Nat)), (.bool false), (.int 276 (0 : Nat)), (.ref (29 : Nat)), .none, .none, .none, .none, (.int 280 (0 : Nat)), (.int 1 (0 : Nat)), (.str (Str.ofString "/claim/cut.py") (281 : Nat))]), #[]⟩
noncomputable def ob28 (P : Params) : Obj := ⟨(.type "frame"), none, .plain, #[(some (.ref (30 : Nat))), (some (.ref (3 : Nat))), (some (.ref (3 : Nat))), none, (some (.str (Str.ofString "__main__") (164 : Nat))), none, (some (.ref (0 : Nat)))]⟩
noncomputable def ob29 (P : Params) : Obj := ⟨.none, none, (.dict #[⟨(PySem.PyData.keyHash P (Str.ofString ("im" ++ "port.loaded._sre"))), (.str (Str.ofString ("im" ++ "port.loaded._sre")) (183 : Nat)), (.bool true)⟩, ⟨(PySem.PyData.keyHash P (Str.ofString "class._frozen_importlib.BuiltinImporter")), (.str (Str.ofString "class._frozen_importlib.BuiltinImporter") (185 : Nat)), (.ref (14 : Nat))⟩, ⟨(PySem.PyData.keyHash P (Str.ofString ("watched.im" ++ "port"))), (.str (Str.ofString ("watched.im" ++ "port")) (206 : Nat)), (.ref (18 : Nat))⟩, ⟨(PySem.PyData.keyHash P (Str.ofString "class._frozen_importlib.ModuleSpec")), (.str (Str.ofString "class._frozen_importlib.ModuleSpec") (216 : Nat)), (.ref (22 : Nat))⟩, ⟨(PySem.PyData.keyHash P (Str.ofString "sys.modules.booked-epoch")), (.str (Str.ofString "sys.modules.booked-epoch") (245 : Nat)), (.int 3 (0 : Nat))⟩, ⟨(PySem.PyData.keyHash P (Str.ofString ("im" ++ "port.later-laid._sre"))), (.str (Str.ofString ("im" ++ "port.later-laid._sre")) (270 : Nat)), (.bool true)⟩, ⟨(PySem.PyData.keyHash P (Str.ofString "watched.library")), (.str (Str.ofString "watched.library") (272 : Nat)), (.ref (27 : Nat))⟩, ⟨(PySem.PyData.keyHash P (Str.ofString "watched.library-objects")), (.str (Str.ofString "watched.library-objects") (0 : Nat)), (.str (Str.ofString "\x0c") (0 : Nat))⟩, ⟨(PySem.PyData.keyHash P (Str.ofString "watched.library-deep._sre")), (.str (Str.ofString "watched.library-deep._sre") (273 : Nat)), (.str (Str.ofString "\x04\x00\x00\x0b\x04\x00\x00\x0b\x04\x00\x00\x03\x04\x00\x00\x0b\x08\x04dict\x02") (0 : Nat))⟩, ⟨(PySem.PyData.keyHash P (Str.ofString "type.__subclasses__.Exception.0")), (.str (Str.ofString "type.__subclasses__.Exception.0") (307 : Nat)), (.int 48 (0 : Nat))⟩, ⟨(PySem.PyData.keyHash P (Str.ofString "type.__subclasses__.Exception.n")), (.str (Str.ofString "type.__subclasses__.Exception.n") (308 : Nat)), (.int 1 (0 : Nat))⟩] (11 : Nat)), #[]⟩
noncomputable def ob30 (P : Params) : Obj := ⟨(.type "dict"), none, (.dict #[⟨(PySem.PyData.keyHash P (Str.ofString "__name__")), (.str (Str.ofString "__name__") (165 : Nat)), (.str (Str.ofString "cpy313.ftplib") (289 : Nat))⟩, ⟨(PySem.PyData.keyHash P (Str.ofString "__doc__")), (.str (Str.ofString "__doc__") (166 : Nat)), .none⟩, ⟨(PySem.PyData.keyHash P (Str.ofString "__package__")), (.str (Str.ofString "__package__") (167 : Nat)), .none⟩, ⟨(PySem.PyData.keyHash P (Str.ofString "__loader__")), (.str (Str.ofString "__loader__") (168 : Nat)), (.builtin "__main__.__loader__#opaque")⟩, ⟨(PySem.PyData.keyHash P (Str.ofString "__spec__")), (.str (Str.ofString "__spec__") (169 : Nat)), .none⟩, ⟨(PySem.PyData.keyHash P (Str.ofString "__annotations__")), (.str (Str.ofString "__annotations__") (170 : Nat)), (.ref (6 : Nat))⟩, ⟨(PySem.PyData.keyHash P (Str.ofString "__builtins__")), (.str (Str.ofString "__builtins__") (171 : Nat)), (.ref (4 : Nat))⟩, ⟨(PySem.PyData.keyHash P (Str.ofString "__file__")), (.str (Str.ofString "__file__") (173 : Nat)), (.str (Str.ofString "/claim/cut.py") (172 : Nat))⟩, ⟨(PySem.PyData.keyHash P (Str.ofString "__cached__")), (.str (Str.ofString "__cached__") (174 : Nat)), .none⟩, ⟨(PySem.PyData.keyHash P (Str.ofString "_sre")), (.str (Str.ofString "_sre") (275 : Nat)), (.ref (12 : Nat))⟩, ⟨(PySem.PyData.keyHash P (Str.ofString "_wall")), (.str (Str.ofString "_wall") (288 : Nat)), (.ref (38 : Nat))⟩, ⟨(PySem.PyData.keyHash P (Str.ofString "Error")), (.str (Str.ofString "Error") (310 : Nat)), (.ref (48 : Nat))⟩] (12 : Nat)), #[]⟩
noncomputable def ob31 (P : Params) : Obj := ⟨.none, none, (.fields #[(.int 2 (0 : Nat)), (.int 0 (0 : Nat)), (.ref (37 : Nat)), (.int 6 (0 : Nat)), (.int 0 (0 : Nat)), (.ref (44 : Nat))]), #[]⟩
noncomputable def ob32 (P : Params) : Obj := ⟨(.type "tuple"), none, (.seq #[(.str (Str.ofString "k") (285 : Nat))] (0 : Nat)), #[]⟩
noncomputable def ob33 (P : Params) : Obj := ⟨.none, none, (.func ⟨(Str.ofString "_wall"), (Str.ofString "_wall"), args1, (.stmts body1), scope1, (0 : Nat), [], .none, .none, .none, .none, none, .none, .none, (0 : Nat)⟩), #[]⟩
noncomputable def ob34 (P : Params) : Obj := ⟨(.type "code"), none, (.fields #[(.str (Str.ofString "_wall") (282 : Nat)), (.str (Str.ofString "_wall") (283 : Nat)), (.str (Str.ofString "/claim/cut.py") (284 : Nat)), (.int 2 (0 : Nat)), (.int 1 (0 : Nat)), (.int 0 (0 : Nat)), (.int 0 (0 : Nat)), (.int 3 (0 : Nat)), (.ref (32 : Nat)), (.bool true), (.int 276 (0 : Nat)), (.ref (33 : Nat)), .none, (.ref (34 : Nat)), (.ref (35 : Nat)), (.ref (36 : Nat)), (.int 286 (0 : Nat)), (.int 2 (0 : Nat)), (.str (Str.ofString "/claim/cut.py") (287 : Nat))]), #[]⟩
noncomputable def ob35 (P : Params) : Obj := ⟨(.type "function"), none, (.func ⟨(Str.ofString "_wall"), (Str.ofString "_wall"), args1, (.stmts body1), scope1, (3 : Nat), [], .none, .none, .none, (.str (Str.ofString "__main__") (164 : Nat)), none, (.ref (37 : Nat)), .none, (0 : Nat)⟩), #[]⟩
noncomputable def ob36 (P : Params) : Obj := ⟨(.type "tuple"), none, (.seq #[(.type "Exception")] (0 : Nat)), #[]⟩
noncomputable def ob37 (P : Params) : Obj := ⟨(.type "builtin_function_or_method"), none, (.fields #[(.builtin "type.__prepare__"), (.type "type")]), #[]⟩
noncomputable def ob38 (P : Params) : Obj := ⟨(.type "dict"), none, (.dict #[⟨(PySem.PyData.keyHash P (Str.ofString "__module__")), (.str (Str.ofString "__module__") (298 : Nat)), (.str (Str.ofString "cpy313.ftplib") (289 : Nat))⟩, ⟨(PySem.PyData.keyHash P (Str.ofString "__qualname__")), (.str (Str.ofString "__qualname__") (300 : Nat)), (.str (Str.ofString "Error") (299 : Nat))⟩, ⟨(PySem.PyData.keyHash P (Str.ofString "__firstlineno__")), (.str (Str.ofString "__firstlineno__") (302 : Nat)), (.int 6 (301 : Nat))⟩, ⟨(PySem.PyData.keyHash P (Str.ofString "__static_attributes__")), (.str (Str.ofString "__static_attributes__") (303 : Nat)), (.ref (46 : Nat))⟩] (4 : Nat)), #[]⟩
noncomputable def ob39 (P : Params) : Obj := ⟨(.type "code"), none, (.fields #[(.str (Str.ofString "Error") (293 : Nat)), (.str (Str.ofString "Error") (294 : Nat)), (.str (Str.ofString "/claim/cut.py") (295 : Nat)), (.int 6 (0 : Nat)), (.int 0 (0 : Nat)), (.int 0 (0 : Nat)), (.int 0 (0 : Nat)), (.int 0 (0 : Nat)), (.ref (42 : Nat)), (.bool false), (.int 276 (0 : Nat)), (.ref (43 : Nat)), .none, .none, .none, .none, (.int 296 (0 : Nat)), (.int 6 (0 : Nat)), (.str (Str.ofString "/claim/cut.py") (297 : Nat))]), #[]⟩
noncomputable def ob40 (P : Params) : Obj := ⟨(.type "frame"), none, .plain, #[(some (.ref (44 : Nat))), (some (.ref (3 : Nat))), (some (.ref (41 : Nat))), none, (some (.str (Str.ofString "cpy313.ftplib") (289 : Nat))), none, (some (.ref (0 : Nat)))]⟩
noncomputable def ob41 (P : Params) : Obj := ⟨(.type "dict"), none, (.dict #[⟨(PySem.PyData.keyHash P (Str.ofString "__module__")), (.str (Str.ofString "__module__") (298 : Nat)), (.str (Str.ofString "cpy313.ftplib") (289 : Nat))⟩, ⟨(PySem.PyData.keyHash P (Str.ofString "__firstlineno__")), (.str (Str.ofString "__firstlineno__") (302 : Nat)), (.int 6 (301 : Nat))⟩, ⟨(PySem.PyData.keyHash P (Str.ofString "__static_attributes__")), (.str (Str.ofString "__static_attributes__") (303 : Nat)), (.ref (46 : Nat))⟩, ⟨(PySem.PyData.keyHash P (Str.ofString "__weakref__")), (.str (Str.ofString "__weakref__") (305 : Nat)), (.ref (49 : Nat))⟩, ⟨(PySem.PyData.keyHash P (Str.ofString "__doc__")), (.str (Str.ofString "__doc__") (306 : Nat)), .none⟩] (3 : Nat)), #[]⟩
noncomputable def ob42 (P : Params) : Obj := ⟨(.type "type"), none, (.cls ⟨(Str.ofString "Error"), [(.type "Exception")], [(.ref (48 : Nat)), (.type "Exception"), (.type "BaseException"), (.type "object")], (47 : Nat), (Str.ofString "Error"), true, [], [], false, none, false⟩), #[(some (.ref (39 : Nat))), none, (some (.str (Str.ofString "Error") (291 : Nat))), (some (.str (Str.ofString "Error") (299 : Nat))), (some (.builtin "Exception.__new__")), (some (.bool true))]⟩
noncomputable def ob43 (P : Params) : Obj := ⟨(.type "getset_descriptor"), none, (.fields #[(.str (Str.ofString "__weakref__") (304 : Nat)), (.ref (48 : Nat)), (.builtin "ExceptionGroup.__weakref__"), .none]), #[]⟩
noncomputable def ob44 (P : Params) : Obj := ⟨(.type "super"), none, (.fields #[(.ref (48 : Nat)), (.ref (48 : Nat)), (.ref (48 : Nat))]), #[]⟩
noncomputable def ob45 (P : Params) : Obj := ⟨(.type "builtin_function_or_method"), none, (.fields #[(.builtin "object.__init_subclass__"), (.ref (48 : Nat))]), #[]⟩
noncomputable def ob46 (P : Params) : Obj := ⟨(.type "dict"), none, (.dict #[⟨(PySem.PyData.keyHash P (Str.ofString "__name__")), (.str (Str.ofString "__name__") (165 : Nat)), (.str (Str.ofString "cpy313.ftplib") (289 : Nat))⟩, ⟨(PySem.PyData.keyHash P (Str.ofString "__doc__")), (.str (Str.ofString "__doc__") (166 : Nat)), .none⟩, ⟨(PySem.PyData.keyHash P (Str.ofString "__package__")), (.str (Str.ofString "__package__") (167 : Nat)), .none⟩, ⟨(PySem.PyData.keyHash P (Str.ofString "__loader__")), (.str (Str.ofString "__loader__") (168 : Nat)), (.builtin "__main__.__loader__#opaque")⟩, ⟨(PySem.PyData.keyHash P (Str.ofString "__spec__")), (.str (Str.ofString "__spec__") (169 : Nat)), .none⟩, ⟨(PySem.PyData.keyHash P (Str.ofString "__annotations__")), (.str (Str.ofString "__annotations__") (170 : Nat)), (.ref (6 : Nat))⟩, ⟨(PySem.PyData.keyHash P (Str.ofString "__builtins__")), (.str (Str.ofString "__builtins__") (171 : Nat)), (.ref (4 : Nat))⟩, ⟨(PySem.PyData.keyHash P (Str.ofString "__file__")), (.str (Str.ofString "__file__") (173 : Nat)), (.str (Str.ofString "/claim/cut.py") (172 : Nat))⟩, ⟨(PySem.PyData.keyHash P (Str.ofString "__cached__")), (.str (Str.ofString "__cached__") (174 : Nat)), .none⟩, ⟨(PySem.PyData.keyHash P (Str.ofString "_sre")), (.str (Str.ofString "_sre") (275 : Nat)), (.ref (12 : Nat))⟩, ⟨(PySem.PyData.keyHash P (Str.ofString "_wall")), (.str (Str.ofString "_wall") (288 : Nat)), (.ref (38 : Nat))⟩, ⟨(PySem.PyData.keyHash P (Str.ofString "Error")), (.str (Str.ofString "Error") (310 : Nat)), (.ref (48 : Nat))⟩, ⟨(PySem.PyData.keyHash P (Str.ofString "error_reply")), (.str (Str.ofString "error_reply") (326 : Nat)), (.ref (61 : Nat))⟩, ⟨(PySem.PyData.keyHash P (Str.ofString "error_proto")), (.str (Str.ofString "error_proto") (342 : Nat)), (.ref (73 : Nat))⟩] (14 : Nat)), #[]⟩
noncomputable def ob47 (P : Params) : Obj := ⟨.none, none, (.fields #[(.int 2 (0 : Nat)), (.int 0 (0 : Nat)), (.ref (37 : Nat)), (.int 6 (0 : Nat)), (.int 0 (0 : Nat)), (.ref (44 : Nat)), (.int 8 (0 : Nat)), (.int 0 (0 : Nat)), (.ref (57 : Nat)), (.int 10 (0 : Nat)), (.int 0 (0 : Nat)), (.ref (69 : Nat))]), #[]⟩
noncomputable def ob48 (P : Params) : Obj := ⟨(.type "type"), none, (.cls ⟨(Str.ofString "Error"), [(.type "Exception")], [(.ref (48 : Nat)), (.type "Exception"), (.type "BaseException"), (.type "object")], (47 : Nat), (Str.ofString "Error"), true, [], [(.ref (61 : Nat)), (.ref (73 : Nat))], false, none, false⟩), #[(some (.ref (39 : Nat))), none, (some (.str (Str.ofString "Error") (291 : Nat))), (some (.str (Str.ofString "Error") (299 : Nat))), (some (.builtin "Exception.__new__")), (some (.bool true))]⟩
noncomputable def ob49 (P : Params) : Obj := ⟨(.type "tuple"), none, (.seq #[(.ref (48 : Nat))] (0 : Nat)), #[]⟩
noncomputable def ob50 (P : Params) : Obj := ⟨(.type "dict"), none, (.dict #[⟨(PySem.PyData.keyHash P (Str.ofString "__module__")), (.str (Str.ofString "__module__") (318 : Nat)), (.str (Str.ofString "cpy313.ftplib") (289 : Nat))⟩, ⟨(PySem.PyData.keyHash P (Str.ofString "__qualname__")), (.str (Str.ofString "__qualname__") (320 : Nat)), (.str (Str.ofString "error_reply") (319 : Nat))⟩, ⟨(PySem.PyData.keyHash P (Str.ofString "__firstlineno__")), (.str (Str.ofString "__firstlineno__") (322 : Nat)), (.int 8 (321 : Nat))⟩, ⟨(PySem.PyData.keyHash P (Str.ofString "__static_attributes__")), (.str (Str.ofString "__static_attributes__") (323 : Nat)), (.ref (59 : Nat))⟩] (4 : Nat)), #[]⟩
noncomputable def ob51 (P : Params) : Obj := ⟨(.type "code"), none, (.fields #[(.str (Str.ofString "error_reply") (313 : Nat)), (.str (Str.ofString "error_reply") (314 : Nat)), (.str (Str.ofString "/claim/cut.py") (315 : Nat)), (.int 8 (0 : Nat)), (.int 0 (0 : Nat)), (.int 0 (0 : Nat)), (.int 0 (0 : Nat)), (.int 0 (0 : Nat)), (.ref (55 : Nat)), (.bool false), (.int 276 (0 : Nat)), (.ref (56 : Nat)), .none, .none, .none, .none, (.int 316 (0 : Nat)), (.int 8 (0 : Nat)), (.str (Str.ofString "/claim/cut.py") (317 : Nat))]), #[]⟩
noncomputable def ob52 (P : Params) : Obj := ⟨(.type "frame"), none, .plain, #[(some (.ref (57 : Nat))), (some (.ref (3 : Nat))), (some (.ref (54 : Nat))), none, (some (.str (Str.ofString "cpy313.ftplib") (289 : Nat))), none, (some (.ref (0 : Nat)))]⟩
noncomputable def ob53 (P : Params) : Obj := ⟨(.type "dict"), none, (.dict #[⟨(PySem.PyData.keyHash P (Str.ofString "__module__")), (.str (Str.ofString "__module__") (318 : Nat)), (.str (Str.ofString "cpy313.ftplib") (289 : Nat))⟩, ⟨(PySem.PyData.keyHash P (Str.ofString "__firstlineno__")), (.str (Str.ofString "__firstlineno__") (322 : Nat)), (.int 8 (321 : Nat))⟩, ⟨(PySem.PyData.keyHash P (Str.ofString "__static_attributes__")), (.str (Str.ofString "__static_attributes__") (323 : Nat)), (.ref (59 : Nat))⟩, ⟨(PySem.PyData.keyHash P (Str.ofString "__doc__")), (.str (Str.ofString "__doc__") (324 : Nat)), .none⟩] (2 : Nat)), #[]⟩
noncomputable def ob54 (P : Params) : Obj := ⟨(.type "type"), none, (.cls ⟨(Str.ofString "error_reply"), [(.ref (48 : Nat))], [(.ref (61 : Nat)), (.ref (48 : Nat)), (.type "Exception"), (.type "BaseException"), (.type "object")], (60 : Nat), (Str.ofString "error_reply"), true, [], [], false, none, false⟩), #[(some (.ref (52 : Nat))), none, (some (.str (Str.ofString "error_reply") (311 : Nat))), (some (.str (Str.ofString "error_reply") (319 : Nat))), (some (.builtin "Exception.__new__")), (some (.bool true))]⟩
noncomputable def ob55 (P : Params) : Obj := ⟨(.type "super"), none, (.fields #[(.ref (61 : Nat)), (.ref (61 : Nat)), (.ref (61 : Nat))]), #[]⟩
noncomputable def ob56 (P : Params) : Obj := ⟨(.type "builtin_function_or_method"), none, (.fields #[(.builtin "object.__init_subclass__"), (.ref (61 : Nat))]), #[]⟩
noncomputable def ob57 (P : Params) : Obj := ⟨(.type "dict"), none, (.dict #[⟨(PySem.PyData.keyHash P (Str.ofString "__module__")), (.str (Str.ofString "__module__") (334 : Nat)), (.str (Str.ofString "cpy313.ftplib") (289 : Nat))⟩, ⟨(PySem.PyData.keyHash P (Str.ofString "__qualname__")), (.str (Str.ofString "__qualname__") (336 : Nat)), (.str (Str.ofString "error_proto") (335 : Nat))⟩, ⟨(PySem.PyData.keyHash P (Str.ofString "__firstlineno__")), (.str (Str.ofString "__firstlineno__") (338 : Nat)), (.int 10 (337 : Nat))⟩, ⟨(PySem.PyData.keyHash P (Str.ofString "__static_attributes__")), (.str (Str.ofString "__static_attributes__") (339 : Nat)), (.ref (71 : Nat))⟩] (4 : Nat)), #[]⟩
noncomputable def ob58 (P : Params) : Obj := ⟨(.type "code"), none, (.fields #[(.str (Str.ofString "error_proto") (329 : Nat)), (.str (Str.ofString "error_proto") (330 : Nat)), (.str (Str.ofString "/claim/cut.py") (331 : Nat)), (.int 10 (0 : Nat)), (.int 0 (0 : Nat)), (.int 0 (0 : Nat)), (.int 0 (0 : Nat)), (.int 0 (0 : Nat)), (.ref (67 : Nat)), (.bool false), (.int 276 (0 : Nat)), (.ref (68 : Nat)), .none, .none, .none, .none, (.int 332 (0 : Nat)), (.int 10 (0 : Nat)), (.str (Str.ofString "/claim/cut.py") (333 : Nat))]), #[]⟩
noncomputable def ob59 (P : Params) : Obj := ⟨(.type "frame"), none, .plain, #[(some (.ref (69 : Nat))), (some (.ref (3 : Nat))), (some (.ref (66 : Nat))), none, (some (.str (Str.ofString "cpy313.ftplib") (289 : Nat))), none, (some (.ref (0 : Nat)))]⟩
noncomputable def ob60 (P : Params) : Obj := ⟨(.type "dict"), none, (.dict #[⟨(PySem.PyData.keyHash P (Str.ofString "__module__")), (.str (Str.ofString "__module__") (334 : Nat)), (.str (Str.ofString "cpy313.ftplib") (289 : Nat))⟩, ⟨(PySem.PyData.keyHash P (Str.ofString "__firstlineno__")), (.str (Str.ofString "__firstlineno__") (338 : Nat)), (.int 10 (337 : Nat))⟩, ⟨(PySem.PyData.keyHash P (Str.ofString "__static_attributes__")), (.str (Str.ofString "__static_attributes__") (339 : Nat)), (.ref (71 : Nat))⟩, ⟨(PySem.PyData.keyHash P (Str.ofString "__doc__")), (.str (Str.ofString "__doc__") (340 : Nat)), .none⟩] (2 : Nat)), #[]⟩
noncomputable def ob61 (P : Params) : Obj := ⟨(.type "type"), none, (.cls ⟨(Str.ofString "error_proto"), [(.ref (48 : Nat))], [(.ref (73 : Nat)), (.ref (48 : Nat)), (.type "Exception"), (.type "BaseException"), (.type "object")], (72 : Nat), (Str.ofString "error_proto"), true, [], [], false, none, false⟩), #[(some (.ref (64 : Nat))), none, (some (.str (Str.ofString "error_proto") (327 : Nat))), (some (.str (Str.ofString "error_proto") (335 : Nat))), (some (.builtin "Exception.__new__")), (some (.bool true))]⟩
noncomputable def ob62 (P : Params) : Obj := ⟨(.type "super"), none, (.fields #[(.ref (73 : Nat)), (.ref (73 : Nat)), (.ref (73 : Nat))]), #[]⟩
noncomputable def ob63 (P : Params) : Obj := ⟨(.type "builtin_function_or_method"), none, (.fields #[(.builtin "object.__init_subclass__"), (.ref (73 : Nat))]), #[]⟩
noncomputable def ob64 (P : Params) : Obj := ⟨(.type "dict"), none, (.dict #[⟨(PySem.PyData.keyHash P (Str.ofString "__name__")), (.str (Str.ofString "__name__") (165 : Nat)), (.str (Str.ofString "re") (439 : Nat))⟩, ⟨(PySem.PyData.keyHash P (Str.ofString "__doc__")), (.str (Str.ofString "__doc__") (166 : Nat)), .none⟩, ⟨(PySem.PyData.keyHash P (Str.ofString "__package__")), (.str (Str.ofString "__package__") (167 : Nat)), .none⟩, ⟨(PySem.PyData.keyHash P (Str.ofString "__loader__")), (.str (Str.ofString "__loader__") (168 : Nat)), (.builtin "__main__.__loader__#opaque")⟩, ⟨(PySem.PyData.keyHash P (Str.ofString "__spec__")), (.str (Str.ofString "__spec__") (169 : Nat)), .none⟩, ⟨(PySem.PyData.keyHash P (Str.ofString "__annotations__")), (.str (Str.ofString "__annotations__") (170 : Nat)), (.ref (6 : Nat))⟩, ⟨(PySem.PyData.keyHash P (Str.ofString "__builtins__")), (.str (Str.ofString "__builtins__") (171 : Nat)), (.ref (4 : Nat))⟩, ⟨(PySem.PyData.keyHash P (Str.ofString "__file__")), (.str (Str.ofString "__file__") (173 : Nat)), (.str (Str.ofString "/claim/cut.py") (172 : Nat))⟩, ⟨(PySem.PyData.keyHash P (Str.ofString "__cached__")), (.str (Str.ofString "__cached__") (174 : Nat)), .none⟩, ⟨(PySem.PyData.keyHash P (Str.ofString "_sre")), (.str (Str.ofString "_sre") (275 : Nat)), (.ref (12 : Nat))⟩, ⟨(PySem.PyData.keyHash P (Str.ofString "_wall")), (.str (Str.ofString "_wall") (288 : Nat)), (.ref (38 : Nat))⟩, ⟨(PySem.PyData.keyHash P (Str.ofString "Error")), (.str (Str.ofString "Error") (310 : Nat)), (.ref (48 : Nat))⟩, ⟨(PySem.PyData.keyHash P (Str.ofString "error_reply")), (.str (Str.ofString "error_reply") (326 : Nat)), (.ref (61 : Nat))⟩, ⟨(PySem.PyData.keyHash P (Str.ofString "error_proto")), (.str (Str.ofString "error_proto") (342 : Nat)), (.ref (73 : Nat))⟩, ⟨(PySem.PyData.keyHash P (Str.ofString "parse229")), (.str (Str.ofString "parse229") (355 : Nat)), (.ref (82 : Nat))⟩, ⟨(PySem.PyData.keyHash P (Str.ofString "_buffer")), (.str (Str.ofString "_buffer") (365 : Nat)), (.ref (89 : Nat))⟩, ⟨(PySem.PyData.keyHash P (Str.ofString "_truth")), (.str (Str.ofString "_truth") (373 : Nat)), (.ref (96 : Nat))⟩, ⟨(PySem.PyData.keyHash P (Str.ofString "_B64")), (.str (Str.ofString "_B64") (375 : Nat)), (.bytes (List.toArray (65 :: 66 :: 67 :: 68 :: 69 :: 70 :: 71 :: 72 :: 73 :: 74 :: 75 :: 76 :: 77 :: 78 :: 79 :: 80 :: 81 :: 82 :: 83 :: 84 :: 85 :: 86 :: 87 :: 88 :: 89 :: 90 :: 97 :: 98 :: 99 :: 100 :: 101 :: 102 :: 103 :: 104 :: 105 :: 106 :: 107 :: 108 :: 109 :: 110 :: 111 :: 112 :: 113 :: 114 :: 115 :: 116 :: 117 :: 118 :: 119 :: 120 :: 121 :: 122 :: 48 :: 49 :: 50 :: 51 :: 52 :: 53 :: 54 :: 55 :: 56 :: 57 :: 43 :: 47 :: [])) (374 : Nat))⟩, ⟨(PySem.PyData.keyHash P (Str.ofString "b2a_base64")), (.str (Str.ofString "b2a_base64") (389 : Nat)), (.ref (104 : Nat))⟩, ⟨(PySem.PyData.keyHash P (Str.ofString "b64encode")), (.str (Str.ofString "b64encode") (400 : Nat)), (.ref (112 : Nat))⟩, ⟨(PySem.PyData.keyHash P (Str.ofString "_twin_re_1")), (.str (Str.ofString "_twin_re_1") (438 : Nat)), (.ref (117 : Nat))⟩] (21 : Nat)), #[]⟩
noncomputable def ob65 (P : Params) : Obj := ⟨.none, none, (.fields #[(.int 2 (0 : Nat)), (.int 0 (0 : Nat)), (.ref (37 : Nat)), (.int 6 (0 : Nat)), (.int 0 (0 : Nat)), (.ref (44 : Nat)), (.int 8 (0 : Nat)), (.int 0 (0 : Nat)), (.ref (57 : Nat)), (.int 10 (0 : Nat)), (.int 0 (0 : Nat)), (.ref (69 : Nat)), (.int 12 (0 : Nat)), (.int 0 (0 : Nat)), (.ref (81 : Nat)), (.int 30 (0 : Nat)), (.int 0 (0 : Nat)), (.ref (88 : Nat)), (.int 37 (0 : Nat)), (.int 0 (0 : Nat)), (.ref (95 : Nat)), (.int 43 (0 : Nat)), (.int 0 (0 : Nat)), (.ref (103 : Nat)), (.int 66 (0 : Nat)), (.int 0 (0 : Nat)), (.ref (111 : Nat))]), #[]⟩
noncomputable def ob66 (P : Params) : Obj := ⟨(.type "tuple"), none, (.seq #[(.str (Str.ofString "resp") (346 : Nat)), (.str (Str.ofString "peer") (347 : Nat)), (.str (Str.ofString "left") (348 : Nat)), (.str (Str.ofString "right") (349 : Nat)), (.str (Str.ofString "parts") (350 : Nat)), (.str (Str.ofString "host") (351 : Nat)), (.str (Str.ofString "port") (352 : Nat))] (0 : Nat)), #[]⟩
noncomputable def ob67 (P : Params) : Obj := ⟨.none, none, (.func ⟨(Str.ofString "parse229"), (Str.ofString "parse229"), args6, (.stmts body6), scope6, (0 : Nat), [], .none, .none, .none, .none, none, .none, .none, (0 : Nat)⟩), #[]⟩
noncomputable def ob68 (P : Params) : Obj := ⟨(.type "code"), none, (.fields #[(.str (Str.ofString "parse229") (343 : Nat)), (.str (Str.ofString "parse229") (344 : Nat)), (.str (Str.ofString "/claim/cut.py") (345 : Nat)), (.int 12 (0 : Nat)), (.int 2 (0 : Nat)), (.int 0 (0 : Nat)), (.int 0 (0 : Nat)), (.int 3 (0 : Nat)), (.ref (76 : Nat)), (.bool true), (.int 276 (0 : Nat)), (.ref (77 : Nat)), .none, (.ref (78 : Nat)), (.ref (79 : Nat)), (.ref (80 : Nat)), (.int 353 (0 : Nat)), (.int 12 (0 : Nat)), (.str (Str.ofString "/claim/cut.py") (354 : Nat))]), #[]⟩
noncomputable def ob69 (P : Params) : Obj := ⟨(.type "function"), none, (.func ⟨(Str.ofString "parse229"), (Str.ofString "parse229"), args6, (.stmts body6), scope6, (3 : Nat), [], .none, .none, .none, (.str (Str.ofString "cpy313.ftplib") (289 : Nat)), none, (.ref (81 : Nat)), .none, (0 : Nat)⟩), #[]⟩
noncomputable def ob70 (P : Params) : Obj := ⟨(.type "tuple"), none, (.seq #[(.str (Str.ofString "data") (361 : Nat)), (.str (Str.ofString "t") (362 : Nat))] (0 : Nat)), #[]⟩
noncomputable def ob71 (P : Params) : Obj := ⟨.none, none, (.func ⟨(Str.ofString "_buffer"), (Str.ofString "_buffer"), args8, (.stmts body8), scope8, (0 : Nat), [], .none, .none, .none, .none, none, .none, .none, (0 : Nat)⟩), #[]⟩
noncomputable def ob72 (P : Params) : Obj := ⟨(.type "code"), none, (.fields #[(.str (Str.ofString "_buffer") (358 : Nat)), (.str (Str.ofString "_buffer") (359 : Nat)), (.str (Str.ofString "/claim/cut.py") (360 : Nat)), (.int 30 (0 : Nat)), (.int 1 (0 : Nat)), (.int 0 (0 : Nat)), (.int 0 (0 : Nat)), (.int 3 (0 : Nat)), (.ref (83 : Nat)), (.bool true), (.int 276 (0 : Nat)), (.ref (84 : Nat)), .none, (.ref (85 : Nat)), (.ref (86 : Nat)), (.ref (87 : Nat)), (.int 363 (0 : Nat)), (.int 30 (0 : Nat)), (.str (Str.ofString "/claim/cut.py") (364 : Nat))]), #[]⟩
noncomputable def ob73 (P : Params) : Obj := ⟨(.type "function"), none, (.func ⟨(Str.ofString "_buffer"), (Str.ofString "_buffer"), args8, (.stmts body8), scope8, (3 : Nat), [], .none, .none, .none, (.str (Str.ofString "binascii") (356 : Nat)), none, (.ref (88 : Nat)), .none, (0 : Nat)⟩), #[]⟩
noncomputable def ob74 (P : Params) : Obj := ⟨(.type "tuple"), none, (.seq #[(.str (Str.ofString "x") (369 : Nat)), (.str (Str.ofString "t") (370 : Nat))] (0 : Nat)), #[]⟩
noncomputable def ob75 (P : Params) : Obj := ⟨.none, none, (.func ⟨(Str.ofString "_truth"), (Str.ofString "_truth"), args9, (.stmts body9), scope9, (0 : Nat), [], .none, .none, .none, .none, none, .none, .none, (0 : Nat)⟩), #[]⟩
noncomputable def ob76 (P : Params) : Obj := ⟨(.type "code"), none, (.fields #[(.str (Str.ofString "_truth") (366 : Nat)), (.str (Str.ofString "_truth") (367 : Nat)), (.str (Str.ofString "/claim/cut.py") (368 : Nat)), (.int 37 (0 : Nat)), (.int 1 (0 : Nat)), (.int 0 (0 : Nat)), (.int 0 (0 : Nat)), (.int 3 (0 : Nat)), (.ref (90 : Nat)), (.bool true), (.int 276 (0 : Nat)), (.ref (91 : Nat)), .none, (.ref (92 : Nat)), (.ref (93 : Nat)), (.ref (94 : Nat)), (.int 371 (0 : Nat)), (.int 37 (0 : Nat)), (.str (Str.ofString "/claim/cut.py") (372 : Nat))]), #[]⟩
noncomputable def ob77 (P : Params) : Obj := ⟨(.type "function"), none, (.func ⟨(Str.ofString "_truth"), (Str.ofString "_truth"), args9, (.stmts body9), scope9, (3 : Nat), [], .none, .none, .none, (.str (Str.ofString "binascii") (356 : Nat)), none, (.ref (95 : Nat)), .none, (0 : Nat)⟩), #[]⟩
noncomputable def ob78 (P : Params) : Obj := ⟨(.type "dict"), none, (.dict #[⟨(PySem.PyData.keyHash P (Str.ofString "newline")), (.str (Str.ofString "newline") (376 : Nat)), (.bool true)⟩] (1 : Nat)), #[]⟩
noncomputable def ob79 (P : Params) : Obj := ⟨(.type "tuple"), none, (.seq #[(.str (Str.ofString "data") (380 : Nat)), (.str (Str.ofString "newline") (381 : Nat)), (.str (Str.ofString "bin_data") (382 : Nat)), (.str (Str.ofString "out") (383 : Nat)), (.str (Str.ofString "leftbits") (384 : Nat)), (.str (Str.ofString "leftchar") (385 : Nat)), (.str (Str.ofString "b") (386 : Nat))] (0 : Nat)), #[]⟩
noncomputable def ob80 (P : Params) : Obj := ⟨.none, none, (.func ⟨(Str.ofString "b2a_base64"), (Str.ofString "b2a_base64"), args11, (.stmts body11), scope11, (0 : Nat), [], .none, .none, .none, .none, none, .none, .none, (0 : Nat)⟩), #[]⟩
noncomputable def ob81 (P : Params) : Obj := ⟨(.type "code"), none, (.fields #[(.str (Str.ofString "b2a_base64") (377 : Nat)), (.str (Str.ofString "b2a_base64") (378 : Nat)), (.str (Str.ofString "/claim/cut.py") (379 : Nat)), (.int 43 (0 : Nat)), (.int 1 (0 : Nat)), (.int 1 (0 : Nat)), (.int 1 (0 : Nat)), (.int 3 (0 : Nat)), (.ref (98 : Nat)), (.bool true), (.int 276 (0 : Nat)), (.ref (99 : Nat)), .none, (.ref (100 : Nat)), (.ref (101 : Nat)), (.ref (102 : Nat)), (.int 387 (0 : Nat)), (.int 43 (0 : Nat)), (.str (Str.ofString "/claim/cut.py") (388 : Nat))]), #[]⟩
noncomputable def ob82 (P : Params) : Obj := ⟨(.type "function"), none, (.func ⟨(Str.ofString "b2a_base64"), (Str.ofString "b2a_base64"), args11, (.stmts body11), scope11, (3 : Nat), [], .none, (.ref (97 : Nat)), .none, (.str (Str.ofString "binascii") (356 : Nat)), none, (.ref (103 : Nat)), .none, (0 : Nat)⟩), #[]⟩
noncomputable def ob83 (P : Params) : Obj := ⟨(.type "tuple"), none, (.seq #[.none] (0 : Nat)), #[]⟩
noncomputable def ob84 (P : Params) : Obj := ⟨(.type "tuple"), none, (.seq #[(.str (Str.ofString "s") (395 : Nat)), (.str (Str.ofString "altchars") (396 : Nat)), (.str (Str.ofString "encoded") (397 : Nat))] (0 : Nat)), #[]⟩
noncomputable def ob85 (P : Params) : Obj := ⟨.none, none, (.func ⟨(Str.ofString "b64encode"), (Str.ofString "b64encode"), args13, (.stmts body13), scope13, (0 : Nat), [], .none, .none, .none, .none, none, .none, .none, (0 : Nat)⟩), #[]⟩
noncomputable def ob86 (P : Params) : Obj := ⟨(.type "code"), none, (.fields #[(.str (Str.ofString "b64encode") (392 : Nat)), (.str (Str.ofString "b64encode") (393 : Nat)), (.str (Str.ofString "/claim/cut.py") (394 : Nat)), (.int 66 (0 : Nat)), (.int 2 (0 : Nat)), (.int 0 (0 : Nat)), (.int 0 (0 : Nat)), (.int 3 (0 : Nat)), (.ref (106 : Nat)), (.bool true), (.int 276 (0 : Nat)), (.ref (107 : Nat)), .none, (.ref (108 : Nat)), (.ref (109 : Nat)), (.ref (110 : Nat)), (.int 398 (0 : Nat)), (.int 66 (0 : Nat)), (.str (Str.ofString "/claim/cut.py") (399 : Nat))]), #[]⟩
noncomputable def ob87 (P : Params) : Obj := ⟨(.type "function"), none, (.func ⟨(Str.ofString "b64encode"), (Str.ofString "b64encode"), args13, (.stmts body13), scope13, (3 : Nat), [], (.ref (105 : Nat)), .none, .none, (.str (Str.ofString "cpy313.base64") (390 : Nat)), none, (.ref (111 : Nat)), .none, (0 : Nat)⟩), #[]⟩
noncomputable def ob88 (P : Params) : Obj := ⟨(.type "list"), none, (.seq #[(.int 14 (404 : Nat)), (.int 14 (405 : Nat)), (.int 4 (406 : Nat)), (.int 1 (407 : Nat)), (.int 1 (408 : Nat)), (.int 9 (409 : Nat)), (.int 0 (410 : Nat)), (.int 64 (411 : Nat)), (.int 0 (412 : Nat)), (.int 1342177280 (413 : Nat)), (.int 0 (414 : Nat)), (.int 0 (415 : Nat)), (.int 0 (416 : Nat)), (.int 0 (417 : Nat)), (.int 0 (418 : Nat)), (.int 17 (419 : Nat)), (.int 0 (420 : Nat)), (.int 13 (421 : Nat)), (.int 11 (422 : Nat)), (.int 9 (423 : Nat)), (.int 0 (424 : Nat)), (.int 64 (425 : Nat)), (.int 0 (426 : Nat)), (.int 1342177280 (427 : Nat)), (.int 0 (428 : Nat)), (.int 0 (429 : Nat)), (.int 0 (430 : Nat)), (.int 0 (431 : Nat)), (.int 0 (432 : Nat)), (.int 17 (433 : Nat)), (.int 1 (434 : Nat)), (.int 1 (435 : Nat))] (0 : Nat)), #[]⟩
noncomputable def ob89 (P : Params) : Obj := ⟨(.type "tuple"), none, (.seq #[.none, .none] (0 : Nat)), #[]⟩
noncomputable def ob90 (P : Params) : Obj := ⟨(.type "tuple"), none, (.seq #[(.int 14 (0 : Nat)), (.int 14 (0 : Nat)), (.int 4 (0 : Nat)), (.int 1 (0 : Nat)), (.int 1 (0 : Nat)), (.int 9 (0 : Nat)), (.int 0 (0 : Nat)), (.int 64 (0 : Nat)), (.int 0 (0 : Nat)), (.int 1342177280 (0 : Nat)), (.int 0 (0 : Nat)), (.int 0 (0 : Nat)), (.int 0 (0 : Nat)), (.int 0 (0 : Nat)), (.int 0 (0 : Nat)), (.int 17 (0 : Nat)), (.int 0 (0 : Nat)), (.int 13 (0 : Nat)), (.int 11 (0 : Nat)), (.int 9 (0 : Nat)), (.int 0 (0 : Nat)), (.int 64 (0 : Nat)), (.int 0 (0 : Nat)), (.int 1342177280 (0 : Nat)), (.int 0 (0 : Nat)), (.int 0 (0 : Nat)), (.int 0 (0 : Nat)), (.int 0 (0 : Nat)), (.int 0 (0 : Nat)), (.int 17 (0 : Nat)), (.int 1 (0 : Nat)), (.int 1 (0 : Nat))] (0 : Nat)), #[]⟩
noncomputable def ob91 (P : Params) : Obj := ⟨(.type "re.Pattern"), none, (.fields #[(.str (Str.ofString "([&~|])") (402 : Nat)), (.int 32 (437 : Nat)), (.int 1 (0 : Nat)), .none, .none, (.ref (116 : Nat)), (.int 0 (0 : Nat))]), #[]⟩
noncomputable def ob92 (P : Params) : Obj := ⟨(.type "dict"), none, (.dict #[⟨(PySem.PyData.keyHash P (Str.ofString "__name__")), (.str (Str.ofString "__name__") (165 : Nat)), (.str (Str.ofString "re") (439 : Nat))⟩, ⟨(PySem.PyData.keyHash P (Str.ofString "__doc__")), (.str (Str.ofString "__doc__") (166 : Nat)), .none⟩, ⟨(PySem.PyData.keyHash P (Str.ofString "__package__")), (.str (Str.ofString "__package__") (167 : Nat)), .none⟩, ⟨(PySem.PyData.keyHash P (Str.ofString "__loader__")), (.str (Str.ofString "__loader__") (168 : Nat)), (.builtin "__main__.__loader__#opaque")⟩, ⟨(PySem.PyData.keyHash P (Str.ofString "__spec__")), (.str (Str.ofString "__spec__") (169 : Nat)), .none⟩, ⟨(PySem.PyData.keyHash P (Str.ofString "__annotations__")), (.str (Str.ofString "__annotations__") (170 : Nat)), (.ref (6 : Nat))⟩, ⟨(PySem.PyData.keyHash P (Str.ofString "__builtins__")), (.str (Str.ofString "__builtins__") (171 : Nat)), (.ref (4 : Nat))⟩, ⟨(PySem.PyData.keyHash P (Str.ofString "__file__")), (.str (Str.ofString "__file__") (173 : Nat)), (.str (Str.ofString "/claim/cut.py") (172 : Nat))⟩, ⟨(PySem.PyData.keyHash P (Str.ofString "__cached__")), (.str (Str.ofString "__cached__") (174 : Nat)), .none⟩, ⟨(PySem.PyData.keyHash P (Str.ofString "_sre")), (.str (Str.ofString "_sre") (275 : Nat)), (.ref (12 : Nat))⟩, ⟨(PySem.PyData.keyHash P (Str.ofString "_wall")), (.str (Str.ofString "_wall") (288 : Nat)), (.ref (38 : Nat))⟩, ⟨(PySem.PyData.keyHash P (Str.ofString "Error")), (.str (Str.ofString "Error") (310 : Nat)), (.ref (48 : Nat))⟩, ⟨(PySem.PyData.keyHash P (Str.ofString "error_reply")), (.str (Str.ofString "error_reply") (326 : Nat)), (.ref (61 : Nat))⟩, ⟨(PySem.PyData.keyHash P (Str.ofString "error_proto")), (.str (Str.ofString "error_proto") (342 : Nat)), (.ref (73 : Nat))⟩, ⟨(PySem.PyData.keyHash P (Str.ofString "parse229")), (.str (Str.ofString "parse229") (355 : Nat)), (.ref (82 : Nat))⟩, ⟨(PySem.PyData.keyHash P (Str.ofString "_buffer")), (.str (Str.ofString "_buffer") (365 : Nat)), (.ref (89 : Nat))⟩, ⟨(PySem.PyData.keyHash P (Str.ofString "_truth")), (.str (Str.ofString "_truth") (373 : Nat)), (.ref (96 : Nat))⟩, ⟨(PySem.PyData.keyHash P (Str.ofString "_B64")), (.str (Str.ofString "_B64") (375 : Nat)), (.bytes (List.toArray (65 :: 66 :: 67 :: 68 :: 69 :: 70 :: 71 :: 72 :: 73 :: 74 :: 75 :: 76 :: 77 :: 78 :: 79 :: 80 :: 81 :: 82 :: 83 :: 84 :: 85 :: 86 :: 87 :: 88 :: 89 :: 90 :: 97 :: 98 :: 99 :: 100 :: 101 :: 102 :: 103 :: 104 :: 105 :: 106 :: 107 :: 108 :: 109 :: 110 :: 111 :: 112 :: 113 :: 114 :: 115 :: 116 :: 117 :: 118 :: 119 :: 120 :: 121 :: 122 :: 48 :: 49 :: 50 :: 51 :: 52 :: 53 :: 54 :: 55 :: 56 :: 57 :: 43 :: 47 :: [])) (374 : Nat))⟩, ⟨(PySem.PyData.keyHash P (Str.ofString "b2a_base64")), (.str (Str.ofString "b2a_base64") (389 : Nat)), (.ref (104 : Nat))⟩, ⟨(PySem.PyData.keyHash P (Str.ofString "b64encode")), (.str (Str.ofString "b64encode") (400 : Nat)), (.ref (112 : Nat))⟩, ⟨(PySem.PyData.keyHash P (Str.ofString "_twin_re_1")), (.str (Str.ofString "_twin_re_1") (438 : Nat)), (.ref (117 : Nat))⟩, ⟨(PySem.PyData.keyHash P (Str.ofString "_special_chars_map")), (.str (Str.ofString "_special_chars_map") (586 : Nat)), (.ref (119 : Nat))⟩] (22 : Nat)), #[]⟩
noncomputable def ob93 (P : Params) : Obj := ⟨(.type "bytes_iterator"), none, (.fields #[.none, (.int 24 (0 : Nat))]), #[]⟩
noncomputable def ob94 (P : Params) : Obj := ⟨(.type "dict"), none, (.dict #[⟨40, (.int 40 (442 : Nat)), (.str (Str.ofString "\\(") (446 : Nat))⟩, ⟨41, (.int 41 (448 : Nat)), (.str (Str.ofString "\\)") (452 : Nat))⟩, ⟨91, (.int 91 (454 : Nat)), (.str (Str.ofString "\\[") (458 : Nat))⟩, ⟨93, (.int 93 (460 : Nat)), (.str (Str.ofString "\\]") (464 : Nat))⟩, ⟨123, (.int 123 (466 : Nat)), (.str (Str.ofString "\\{") (470 : Nat))⟩, ⟨125, (.int 125 (472 : Nat)), (.str (Str.ofString "\\}") (476 : Nat))⟩, ⟨63, (.int 63 (478 : Nat)), (.str (Str.ofString "\\?") (482 : Nat))⟩, ⟨42, (.int 42 (484 : Nat)), (.str (Str.ofString "\\*") (488 : Nat))⟩, ⟨43, (.int 43 (490 : Nat)), (.str (Str.ofString "\\+") (494 : Nat))⟩, ⟨45, (.int 45 (496 : Nat)), (.str (Str.ofString "\\-") (500 : Nat))⟩, ⟨124, (.int 124 (502 : Nat)), (.str (Str.ofString "\\|") (506 : Nat))⟩, ⟨94, (.int 94 (508 : Nat)), (.str (Str.ofString "\\^") (512 : Nat))⟩, ⟨36, (.int 36 (514 : Nat)), (.str (Str.ofString "\\$") (518 : Nat))⟩, ⟨92, (.int 92 (520 : Nat)), (.str (Str.ofString "\\\\") (524 : Nat))⟩, ⟨46, (.int 46 (526 : Nat)), (.str (Str.ofString "\\.") (530 : Nat))⟩, ⟨38, (.int 38 (532 : Nat)), (.str (Str.ofString "\\&") (536 : Nat))⟩, ⟨126, (.int 126 (538 : Nat)), (.str (Str.ofString "\\~") (542 : Nat))⟩, ⟨35, (.int 35 (544 : Nat)), (.str (Str.ofString "\\#") (548 : Nat))⟩, ⟨32, (.int 32 (550 : Nat)), (.str (Str.ofString "\\ ") (554 : Nat))⟩, ⟨9, (.int 9 (556 : Nat)), (.str (Str.ofString "\\\x09") (560 : Nat))⟩, ⟨10, (.int 10 (562 : Nat)), (.str (Str.ofString "\\\x0a") (566 : Nat))⟩, ⟨13, (.int 13 (568 : Nat)), (.str (Str.ofString "\\\x0d") (572 : Nat))⟩, ⟨11, (.int 11 (574 : Nat)), (.str (Str.ofString "\\\x0b") (578 : Nat))⟩, ⟨12, (.int 12 (580 : Nat)), (.str (Str.ofString "\\\x0c") (584 : Nat))⟩] (24 : Nat)), #[]⟩
noncomputable def ob95 (P : Params) : Obj := ⟨(.type "dict"), none, (.dict #[] (2 : Nat)), #[]⟩
noncomputable def ob96 (P : Params) : Obj := ⟨(.type "StopIteration"), none, (.fields #[(.ref (121 : Nat)), .none, .none, .none, (.bool false), .none]), #[]⟩
noncomputable def ob97 (P : Params) : Obj := ⟨(.type "dict"), none, (.dict #[⟨(PySem.PyData.keyHash P (Str.ofString "__name__")), (.str (Str.ofString "__name__") (165 : Nat)), (.str (Str.ofString "law_kl0068_01") (615 : Nat))⟩, ⟨(PySem.PyData.keyHash P (Str.ofString "__doc__")), (.str (Str.ofString "__doc__") (166 : Nat)), .none⟩, ⟨(PySem.PyData.keyHash P (Str.ofString "__package__")), (.str (Str.ofString "__package__") (167 : Nat)), .none⟩, ⟨(PySem.PyData.keyHash P (Str.ofString "__loader__")), (.str (Str.ofString "__loader__") (168 : Nat)), (.builtin "__main__.__loader__#opaque")⟩, ⟨(PySem.PyData.keyHash P (Str.ofString "__spec__")), (.str (Str.ofString "__spec__") (169 : Nat)), .none⟩, ⟨(PySem.PyData.keyHash P (Str.ofString "__annotations__")), (.str (Str.ofString "__annotations__") (170 : Nat)), (.ref (6 : Nat))⟩, ⟨(PySem.PyData.keyHash P (Str.ofString "__builtins__")), (.str (Str.ofString "__builtins__") (171 : Nat)), (.ref (4 : Nat))⟩, ⟨(PySem.PyData.keyHash P (Str.ofString "__file__")), (.str (Str.ofString "__file__") (173 : Nat)), (.str (Str.ofString "/claim/cut.py") (172 : Nat))⟩, ⟨(PySem.PyData.keyHash P (Str.ofString "__cached__")), (.str (Str.ofString "__cached__") (174 : Nat)), .none⟩, ⟨(PySem.PyData.keyHash P (Str.ofString "_sre")), (.str (Str.ofString "_sre") (275 : Nat)), (.ref (12 : Nat))⟩, ⟨(PySem.PyData.keyHash P (Str.ofString "_wall")), (.str (Str.ofString "_wall") (288 : Nat)), (.ref (38 : Nat))⟩, ⟨(PySem.PyData.keyHash P (Str.ofString "Error")), (.str (Str.ofString "Error") (310 : Nat)), (.ref (48 : Nat))⟩, ⟨(PySem.PyData.keyHash P (Str.ofString "error_reply")), (.str (Str.ofString "error_reply") (326 : Nat)), (.ref (61 : Nat))⟩, ⟨(PySem.PyData.keyHash P (Str.ofString "error_proto")), (.str (Str.ofString "error_proto") (342 : Nat)), (.ref (73 : Nat))⟩, ⟨(PySem.PyData.keyHash P (Str.ofString "parse229")), (.str (Str.ofString "parse229") (355 : Nat)), (.ref (82 : Nat))⟩, ⟨(PySem.PyData.keyHash P (Str.ofString "_buffer")), (.str (Str.ofString "_buffer") (365 : Nat)), (.ref (89 : Nat))⟩, ⟨(PySem.PyData.keyHash P (Str.ofString "_truth")), (.str (Str.ofString "_truth") (373 : Nat)), (.ref (96 : Nat))⟩, ⟨(PySem.PyData.keyHash P (Str.ofString "_B64")), (.str (Str.ofString "_B64") (375 : Nat)), (.bytes (List.toArray (65 :: 66 :: 67 :: 68 :: 69 :: 70 :: 71 :: 72 :: 73 :: 74 :: 75 :: 76 :: 77 :: 78 :: 79 :: 80 :: 81 :: 82 :: 83 :: 84 :: 85 :: 86 :: 87 :: 88 :: 89 :: 90 :: 97 :: 98 :: 99 :: 100 :: 101 :: 102 :: 103 :: 104 :: 105 :: 106 :: 107 :: 108 :: 109 :: 110 :: 111 :: 112 :: 113 :: 114 :: 115 :: 116 :: 117 :: 118 :: 119 :: 120 :: 121 :: 122 :: 48 :: 49 :: 50 :: 51 :: 52 :: 53 :: 54 :: 55 :: 56 :: 57 :: 43 :: 47 :: [])) (374 : Nat))⟩, ⟨(PySem.PyData.keyHash P (Str.ofString "b2a_base64")), (.str (Str.ofString "b2a_base64") (389 : Nat)), (.ref (104 : Nat))⟩, ⟨(PySem.PyData.keyHash P (Str.ofString "b64encode")), (.str (Str.ofString "b64encode") (400 : Nat)), (.ref (112 : Nat))⟩, ⟨(PySem.PyData.keyHash P (Str.ofString "_twin_re_1")), (.str (Str.ofString "_twin_re_1") (438 : Nat)), (.ref (117 : Nat))⟩, ⟨(PySem.PyData.keyHash P (Str.ofString "_special_chars_map")), (.str (Str.ofString "_special_chars_map") (586 : Nat)), (.ref (119 : Nat))⟩, ⟨(PySem.PyData.keyHash P (Str.ofString "escape")), (.str (Str.ofString "escape") (593 : Nat)), (.ref (129 : Nat))⟩, ⟨(PySem.PyData.keyHash P (Str.ofString "_translate")), (.str (Str.ofString "_translate") (614 : Nat)), (.ref (136 : Nat))⟩, ⟨(PySem.PyData.keyHash P (Str.ofString "_law_pairs")), (.str (Str.ofString "_law_pairs") (627 : Nat)), (.ref (143 : Nat))⟩, ⟨(PySem.PyData.keyHash P (Str.ofString "_law_takes")), (.str (Str.ofString "_law_takes") (633 : Nat)), (.ref (148 : Nat))⟩, ⟨(PySem.PyData.keyHash P (Str.ofString "_law_kept")), (.str (Str.ofString "_law_kept") (648 : Nat)), (.ref (155 : Nat))⟩, ⟨(PySem.PyData.keyHash P (Str.ofString "_law_told")), (.str (Str.ofString "_law_told") (654 : Nat)), (.ref (160 : Nat))⟩, ⟨(PySem.PyData.keyHash P (Str.ofString "_law_due")), (.str (Str.ofString "_law_due") (665 : Nat)), (.ref (167 : Nat))⟩, ⟨(PySem.PyData.keyHash P (Str.ofString "law")), (.str (Str.ofString "law") (673 : Nat)), (.ref (174 : Nat))⟩] (30 : Nat)), #[]⟩
noncomputable def ob98 (P : Params) : Obj := ⟨.none, none, (.fields (List.toArray ((.int 2 (0 : Nat)) :: (.int 0 (0 : Nat)) :: (.ref (37 : Nat)) :: (.int 6 (0 : Nat)) :: (.int 0 (0 : Nat)) :: (.ref (44 : Nat)) :: (.int 8 (0 : Nat)) :: (.int 0 (0 : Nat)) :: (.ref (57 : Nat)) :: (.int 10 (0 : Nat)) :: (.int 0 (0 : Nat)) :: (.ref (69 : Nat)) :: (.int 12 (0 : Nat)) :: (.int 0 (0 : Nat)) :: (.ref (81 : Nat)) :: (.int 30 (0 : Nat)) :: (.int 0 (0 : Nat)) :: (.ref (88 : Nat)) :: (.int 37 (0 : Nat)) :: (.int 0 (0 : Nat)) :: (.ref (95 : Nat)) :: (.int 43 (0 : Nat)) :: (.int 0 (0 : Nat)) :: (.ref (103 : Nat)) :: (.int 66 (0 : Nat)) :: (.int 0 (0 : Nat)) :: (.ref (111 : Nat)) :: (.int 75 (0 : Nat)) :: (.int 0 (0 : Nat)) :: (.ref (128 : Nat)) :: (.int 82 (0 : Nat)) :: (.int 0 (0 : Nat)) :: (.ref (135 : Nat)) :: (.int 145 (0 : Nat)) :: (.int 0 (0 : Nat)) :: (.ref (142 : Nat)) :: (.int 151 (0 : Nat)) :: (.int 0 (0 : Nat)) :: (.ref (147 : Nat)) :: (.int 159 (0 : Nat)) :: (.int 0 (0 : Nat)) :: (.ref (154 : Nat)) :: (.int 168 (0 : Nat)) :: (.int 0 (0 : Nat)) :: (.ref (159 : Nat)) :: (.int 177 (0 : Nat)) :: (.int 0 (0 : Nat)) :: (.ref (166 : Nat)) :: (.int 183 (0 : Nat)) :: (.int 0 (0 : Nat)) :: (.ref (173 : Nat)) :: []))), #[]⟩
noncomputable def ob99 (P : Params) : Obj := ⟨(.type "tuple"), none, (.seq #[(.str (Str.ofString "pattern") (590 : Nat))] (0 : Nat)), #[]⟩
noncomputable def ob100 (P : Params) : Obj := ⟨.none, none, (.func ⟨(Str.ofString "escape"), (Str.ofString "escape"), args17, (.stmts body17), scope17, (0 : Nat), [], .none, .none, .none, .none, none, .none, .none, (0 : Nat)⟩), #[]⟩
noncomputable def ob101 (P : Params) : Obj := ⟨(.type "code"), none, (.fields #[(.str (Str.ofString "escape") (587 : Nat)), (.str (Str.ofString "escape") (588 : Nat)), (.str (Str.ofString "/claim/cut.py") (589 : Nat)), (.int 75 (0 : Nat)), (.int 1 (0 : Nat)), (.int 0 (0 : Nat)), (.int 0 (0 : Nat)), (.int 3 (0 : Nat)), (.ref (123 : Nat)), (.bool true), (.int 276 (0 : Nat)), (.ref (124 : Nat)), .none, (.ref (125 : Nat)), (.ref (126 : Nat)), (.ref (127 : Nat)), (.int 591 (0 : Nat)), (.int 75 (0 : Nat)), (.str (Str.ofString "/claim/cut.py") (592 : Nat))]), #[]⟩
noncomputable def ob102 (P : Params) : Obj := ⟨(.type "function"), none, (.func ⟨(Str.ofString "escape"), (Str.ofString "escape"), args17, (.stmts body17), scope17, (3 : Nat), [], .none, .none, .none, (.str (Str.ofString "re") (439 : Nat)), none, (.ref (128 : Nat)), .none, (0 : Nat)⟩), #[]⟩
noncomputable def ob103 (P : Params) : Obj := ⟨(.type "tuple"), none, (.seq #[(.str (Str.ofString "pat") (599 : Nat)), (.str (Str.ofString "STAR") (600 : Nat)), (.str (Str.ofString "QUESTION_MARK") (601 : Nat)), (.str (Str.ofString "res") (602 : Nat)), (.str (Str.ofString "add") (603 : Nat)), (.str (Str.ofString "i") (604 : Nat)), (.str (Str.ofString "n") (605 : Nat)), (.str (Str.ofString "c") (606 : Nat)), (.str (Str.ofString "j") (607 : Nat)), (.str (Str.ofString "stuff") (608 : Nat)), (.str (Str.ofString "chunks") (609 : Nat)), (.str (Str.ofString "k") (610 : Nat)), (.str (Str.ofString "chunk") (611 : Nat))] (0 : Nat)), #[]⟩
noncomputable def ob104 (P : Params) : Obj := ⟨.none, none, (.func ⟨(Str.ofString "_translate"), (Str.ofString "_translate"), args19, (.stmts body19), scope19, (0 : Nat), [], .none, .none, .none, .none, none, .none, .none, (0 : Nat)⟩), #[]⟩
noncomputable def ob105 (P : Params) : Obj := ⟨(.type "code"), none, (.fields #[(.str (Str.ofString "_translate") (596 : Nat)), (.str (Str.ofString "_translate") (597 : Nat)), (.str (Str.ofString "/claim/cut.py") (598 : Nat)), (.int 82 (0 : Nat)), (.int 3 (0 : Nat)), (.int 0 (0 : Nat)), (.int 0 (0 : Nat)), (.int 3 (0 : Nat)), (.ref (130 : Nat)), (.bool true), (.int 276 (0 : Nat)), (.ref (131 : Nat)), .none, (.ref (132 : Nat)), (.ref (133 : Nat)), (.ref (134 : Nat)), (.int 612 (0 : Nat)), (.int 82 (0 : Nat)), (.str (Str.ofString "/claim/cut.py") (613 : Nat))]), #[]⟩
noncomputable def ob106 (P : Params) : Obj := ⟨(.type "function"), none, (.func ⟨(Str.ofString "_translate"), (Str.ofString "_translate"), args19, (.stmts body19), scope19, (3 : Nat), [], .none, .none, .none, (.str (Str.ofString "cpy313.fnmatch") (594 : Nat)), none, (.ref (135 : Nat)), .none, (0 : Nat)⟩), #[]⟩
noncomputable def ob107 (P : Params) : Obj := ⟨(.type "tuple"), none, (.seq #[(.str (Str.ofString "script") (620 : Nat)), (.str (Str.ofString "pairs") (621 : Nat)), (.str (Str.ofString "n") (622 : Nat)), (.str (Str.ofString "r") (623 : Nat)), (.str (Str.ofString "s") (624 : Nat))] (0 : Nat)), #[]⟩
noncomputable def ob108 (P : Params) : Obj := ⟨.none, none, (.func ⟨(Str.ofString "_law_pairs"), (Str.ofString "_law_pairs"), args21, (.stmts body21), scope21, (0 : Nat), [], .none, .none, .none, .none, none, .none, .none, (0 : Nat)⟩), #[]⟩
noncomputable def ob109 (P : Params) : Obj := ⟨(.type "code"), none, (.fields #[(.str (Str.ofString "_law_pairs") (617 : Nat)), (.str (Str.ofString "_law_pairs") (618 : Nat)), (.str (Str.ofString "/claim/cut.py") (619 : Nat)), (.int 145 (0 : Nat)), (.int 1 (0 : Nat)), (.int 0 (0 : Nat)), (.int 0 (0 : Nat)), (.int 3 (0 : Nat)), (.ref (137 : Nat)), (.bool true), (.int 276 (0 : Nat)), (.ref (138 : Nat)), .none, (.ref (139 : Nat)), (.ref (140 : Nat)), (.ref (141 : Nat)), (.int 625 (0 : Nat)), (.int 145 (0 : Nat)), (.str (Str.ofString "/claim/cut.py") (626 : Nat))]), #[]⟩
noncomputable def ob110 (P : Params) : Obj := ⟨(.type "function"), none, (.func ⟨(Str.ofString "_law_pairs"), (Str.ofString "_law_pairs"), args21, (.stmts body21), scope21, (3 : Nat), [], .none, .none, .none, (.str (Str.ofString "law_kl0068_01") (615 : Nat)), none, (.ref (142 : Nat)), .none, (0 : Nat)⟩), #[]⟩
noncomputable def ob111 (P : Params) : Obj := ⟨.none, none, (.func ⟨(Str.ofString "_law_takes"), (Str.ofString "_law_takes"), args22, (.stmts body22), scope22, (0 : Nat), [], .none, .none, .none, .none, none, .none, .none, (0 : Nat)⟩), #[]⟩
noncomputable def ob112 (P : Params) : Obj := ⟨(.type "code"), none, (.fields #[(.str (Str.ofString "_law_takes") (628 : Nat)), (.str (Str.ofString "_law_takes") (629 : Nat)), (.str (Str.ofString "/claim/cut.py") (630 : Nat)), (.int 151 (0 : Nat)), (.int 2 (0 : Nat)), (.int 0 (0 : Nat)), (.int 0 (0 : Nat)), (.int 3 (0 : Nat)), (.ref (144 : Nat)), (.bool true), (.int 276 (0 : Nat)), (.ref (145 : Nat)), .none, .none, .none, (.ref (146 : Nat)), (.int 631 (0 : Nat)), (.int 151 (0 : Nat)), (.str (Str.ofString "/claim/cut.py") (632 : Nat))]), #[]⟩
noncomputable def ob113 (P : Params) : Obj := ⟨(.type "function"), none, (.func ⟨(Str.ofString "_law_takes"), (Str.ofString "_law_takes"), args22, (.stmts body22), scope22, (3 : Nat), [], .none, .none, .none, (.str (Str.ofString "law_kl0068_01") (615 : Nat)), none, (.ref (147 : Nat)), .none, (0 : Nat)⟩), #[]⟩
noncomputable def ob114 (P : Params) : Obj := ⟨(.type "tuple"), none, (.seq #[(.str (Str.ofString "ports") (637 : Nat)), (.str (Str.ofString "one") (638 : Nat)), (.str (Str.ofString "two") (639 : Nat)), (.str (Str.ofString "kept") (640 : Nat)), (.str (Str.ofString "k") (641 : Nat)), (.str (Str.ofString "mark") (642 : Nat)), (.str (Str.ofString "host") (643 : Nat)), (.str (Str.ofString "port") (644 : Nat)), (.str (Str.ofString "signs") (645 : Nat))] (0 : Nat)), #[]⟩
noncomputable def ob115 (P : Params) : Obj := ⟨.none, none, (.func ⟨(Str.ofString "_law_kept"), (Str.ofString "_law_kept"), args23, (.stmts body23), scope23, (0 : Nat), [], .none, .none, .none, .none, none, .none, .none, (0 : Nat)⟩), #[]⟩
noncomputable def ob116 (P : Params) : Obj := ⟨(.type "code"), none, (.fields #[(.str (Str.ofString "_law_kept") (634 : Nat)), (.str (Str.ofString "_law_kept") (635 : Nat)), (.str (Str.ofString "/claim/cut.py") (636 : Nat)), (.int 159 (0 : Nat)), (.int 3 (0 : Nat)), (.int 0 (0 : Nat)), (.int 0 (0 : Nat)), (.int 3 (0 : Nat)), (.ref (149 : Nat)), (.bool true), (.int 276 (0 : Nat)), (.ref (150 : Nat)), .none, (.ref (151 : Nat)), (.ref (152 : Nat)), (.ref (153 : Nat)), (.int 646 (0 : Nat)), (.int 159 (0 : Nat)), (.str (Str.ofString "/claim/cut.py") (647 : Nat))]), #[]⟩
noncomputable def ob117 (P : Params) : Obj := ⟨(.type "function"), none, (.func ⟨(Str.ofString "_law_kept"), (Str.ofString "_law_kept"), args23, (.stmts body23), scope23, (3 : Nat), [], .none, .none, .none, (.str (Str.ofString "law_kl0068_01") (615 : Nat)), none, (.ref (154 : Nat)), .none, (0 : Nat)⟩), #[]⟩
noncomputable def ob118 (P : Params) : Obj := ⟨.none, none, (.func ⟨(Str.ofString "_law_told"), (Str.ofString "_law_told"), args24, (.stmts body24), scope24, (0 : Nat), [], .none, .none, .none, .none, none, .none, .none, (0 : Nat)⟩), #[]⟩
noncomputable def ob119 (P : Params) : Obj := ⟨(.type "code"), none, (.fields #[(.str (Str.ofString "_law_told") (649 : Nat)), (.str (Str.ofString "_law_told") (650 : Nat)), (.str (Str.ofString "/claim/cut.py") (651 : Nat)), (.int 168 (0 : Nat)), (.int 1 (0 : Nat)), (.int 0 (0 : Nat)), (.int 0 (0 : Nat)), (.int 3 (0 : Nat)), (.ref (156 : Nat)), (.bool true), (.int 276 (0 : Nat)), (.ref (157 : Nat)), .none, .none, .none, (.ref (158 : Nat)), (.int 652 (0 : Nat)), (.int 168 (0 : Nat)), (.str (Str.ofString "/claim/cut.py") (653 : Nat))]), #[]⟩
noncomputable def ob120 (P : Params) : Obj := ⟨(.type "function"), none, (.func ⟨(Str.ofString "_law_told"), (Str.ofString "_law_told"), args24, (.stmts body24), scope24, (3 : Nat), [], .none, .none, .none, (.str (Str.ofString "law_kl0068_01") (615 : Nat)), none, (.ref (159 : Nat)), .none, (0 : Nat)⟩), #[]⟩
noncomputable def ob121 (P : Params) : Obj := ⟨(.type "tuple"), none, (.seq #[(.str (Str.ofString "pairs") (658 : Nat)), (.str (Str.ofString "due") (659 : Nat)), (.str (Str.ofString "r") (660 : Nat)), (.str (Str.ofString "s") (661 : Nat)), (.str (Str.ofString "port") (662 : Nat))] (0 : Nat)), #[]⟩
noncomputable def ob122 (P : Params) : Obj := ⟨.none, none, (.func ⟨(Str.ofString "_law_due"), (Str.ofString "_law_due"), args25, (.stmts body25), scope25, (0 : Nat), [], .none, .none, .none, .none, none, .none, .none, (0 : Nat)⟩), #[]⟩
noncomputable def ob123 (P : Params) : Obj := ⟨(.type "code"), none, (.fields #[(.str (Str.ofString "_law_due") (655 : Nat)), (.str (Str.ofString "_law_due") (656 : Nat)), (.str (Str.ofString "/claim/cut.py") (657 : Nat)), (.int 177 (0 : Nat)), (.int 1 (0 : Nat)), (.int 0 (0 : Nat)), (.int 0 (0 : Nat)), (.int 3 (0 : Nat)), (.ref (161 : Nat)), (.bool true), (.int 276 (0 : Nat)), (.ref (162 : Nat)), .none, (.ref (163 : Nat)), (.ref (164 : Nat)), (.ref (165 : Nat)), (.int 663 (0 : Nat)), (.int 177 (0 : Nat)), (.str (Str.ofString "/claim/cut.py") (664 : Nat))]), #[]⟩
noncomputable def ob124 (P : Params) : Obj := ⟨(.type "function"), none, (.func ⟨(Str.ofString "_law_due"), (Str.ofString "_law_due"), args25, (.stmts body25), scope25, (3 : Nat), [], .none, .none, .none, (.str (Str.ofString "law_kl0068_01") (615 : Nat)), none, (.ref (166 : Nat)), .none, (0 : Nat)⟩), #[]⟩
noncomputable def ob125 (P : Params) : Obj := ⟨(.type "tuple"), none, (.seq #[(.str (Str.ofString "script") (669 : Nat)), (.str (Str.ofString "pairs") (670 : Nat))] (0 : Nat)), #[]⟩
noncomputable def ob126 (P : Params) : Obj := ⟨.none, none, (.func ⟨(Str.ofString "law"), (Str.ofString "law"), args26, (.stmts body26), scope26, (0 : Nat), [], .none, .none, .none, .none, none, .none, .none, (0 : Nat)⟩), #[]⟩
noncomputable def ob127 (P : Params) : Obj := ⟨(.type "code"), none, (.fields #[(.str (Str.ofString "law") (666 : Nat)), (.str (Str.ofString "law") (667 : Nat)), (.str (Str.ofString "/claim/cut.py") (668 : Nat)), (.int 183 (0 : Nat)), (.int 1 (0 : Nat)), (.int 0 (0 : Nat)), (.int 0 (0 : Nat)), (.int 3 (0 : Nat)), (.ref (168 : Nat)), (.bool true), (.int 276 (0 : Nat)), (.ref (169 : Nat)), .none, (.ref (170 : Nat)), (.ref (171 : Nat)), (.ref (172 : Nat)), (.int 671 (0 : Nat)), (.int 183 (0 : Nat)), (.str (Str.ofString "/claim/cut.py") (672 : Nat))]), #[]⟩
noncomputable def ob128 (P : Params) : Obj := ⟨(.type "function"), none, (.func ⟨(Str.ofString "law"), (Str.ofString "law"), args26, (.stmts body26), scope26, (3 : Nat), [], .none, .none, .none, (.str (Str.ofString "law_kl0068_01") (615 : Nat)), none, (.ref (173 : Nat)), .none, (0 : Nat)⟩), #[]⟩
noncomputable def hp0 (P : Params) (o : Obj) : Heap := Heap.mk (List.toArray (ob0 P :: ob1 P :: ob2 P :: ob3 P :: ob4 P :: ob5 P :: ob6 P :: ob7 P :: ob8 P :: ob9 P :: ob10 P :: ob11 P :: ob12 P :: ob13 P :: ob14 P :: ob7 P :: ob15 P :: ob16 P :: o :: ob18 P :: ob19 P :: ob20 P :: ob21 P :: ob22 P :: ob23 P :: ob24 P :: ob25 P :: ob26 P :: [])) ⟨[], [], [], (0 : Nat), [], [], false, #[], [], (0 : Nat), false, false, false, 0, [2000, 10, 10], false, (0 : Nat), true, [], [], (0 : Nat), false⟩
noncomputable def hpA (P : Params) (o : Obj) : Heap := Heap.mk (List.toArray (ob0 P :: ob1 P :: ob2 P :: ob3 P :: ob4 P :: ob5 P :: ob6 P :: ob7 P :: ob8 P :: ob9 P :: ob10 P :: ob11 P :: ob12 P :: ob13 P :: ob14 P :: ob7 P :: ob15 P :: ob16 P :: o :: ob18 P :: ob19 P :: ob20 P :: ob21 P :: ob22 P :: ob23 P :: ob24 P :: ob25 P :: ob26 P :: ob7 P :: ob8 P :: ob27 P :: ob28 P :: [])) ⟨[], [], [], (0 : Nat), [], [], false, #[], [], (0 : Nat), false, false, false, 0, [2000, 10, 10], false, (0 : Nat), true, [], [], (0 : Nat), false⟩
noncomputable def hpC (P : Params) (o : Obj) : Heap := Heap.mk (List.toArray (ob0 P :: ob1 P :: ob29 P :: ob30 P :: ob4 P :: ob5 P :: ob6 P :: ob7 P :: ob8 P :: ob9 P :: ob10 P :: ob11 P :: ob12 P :: ob13 P :: ob14 P :: ob7 P :: ob15 P :: ob16 P :: o :: ob18 P :: ob19 P :: ob20 P :: ob21 P :: ob22 P :: ob23 P :: ob24 P :: ob25 P :: ob26 P :: ob7 P :: ob31 P :: ob27 P :: ob28 P :: ob7 P :: ob8 P :: ob32 P :: ob7 P :: ob33 P :: ob34 P :: ob35 P :: ob36 P :: ob37 P :: ob38 P :: ob7 P :: ob8 P :: ob39 P :: ob40 P :: ob7 P :: ob41 P :: ob42 P :: ob43 P :: ob44 P :: ob45 P :: [])) ⟨[], [], [], (0 : Nat), [], [], false, #[], [], (0 : Nat), false, false, false, 0, [2000, 10, 10], false, (0 : Nat), true, [], [], (0 : Nat), false⟩
noncomputable def hpD (P : Params) (o : Obj) : Heap := Heap.mk (List.toArray (ob0 P :: ob1 P :: ob29 P :: ob46 P :: ob4 P :: ob5 P :: ob6 P :: ob7 P :: ob8 P :: ob9 P :: ob10 P :: ob11 P :: ob12 P :: ob13 P :: ob14 P :: ob7 P :: ob15 P :: ob16 P :: o :: ob18 P :: ob19 P :: ob20 P :: ob21 P :: ob22 P :: ob23 P :: ob24 P :: ob25 P :: ob26 P :: ob7 P :: ob47 P :: ob27 P :: ob28 P :: ob7 P :: ob8 P :: ob32 P :: ob7 P :: ob33 P :: ob34 P :: ob35 P :: ob36 P :: ob37 P :: ob38 P :: ob7 P :: ob8 P :: ob39 P :: ob40 P :: ob7 P :: ob41 P :: ob48 P :: ob43 P :: ob44 P :: ob45 P :: ob49 P :: ob37 P :: ob50 P :: ob7 P :: ob8 P :: ob51 P :: ob52 P :: ob7 P :: ob53 P :: ob54 P :: ob55 P :: ob56 P :: ob49 P :: ob37 P :: ob57 P :: ob7 P :: ob8 P :: ob58 P :: ob59 P :: ob7 P :: ob60 P :: ob61 P :: ob62 P :: ob63 P :: [])) ⟨[], [], [], (0 : Nat), [], [], false, #[], [], (0 : Nat), false, false, false, 0, [2000, 10, 10], false, (0 : Nat), true, [], [], (0 : Nat), false⟩
noncomputable def hpX (P : Params) (o : Obj) : Heap := Heap.mk (List.toArray (ob0 P :: ob1 P :: ob29 P :: ob64 P :: ob4 P :: ob5 P :: ob6 P :: ob7 P :: ob8 P :: ob9 P :: ob10 P :: ob11 P :: ob12 P :: ob13 P :: ob14 P :: ob7 P :: ob15 P :: ob16 P :: o :: ob18 P :: ob19 P :: ob20 P :: ob21 P :: ob22 P :: ob23 P :: ob24 P :: ob25 P :: ob26 P :: ob7 P :: ob65 P :: ob27 P :: ob28 P :: ob7 P :: ob8 P :: ob32 P :: ob7 P :: ob33 P :: ob34 P :: ob35 P :: ob36 P :: ob37 P :: ob38 P :: ob7 P :: ob8 P :: ob39 P :: ob40 P :: ob7 P :: ob41 P :: ob48 P :: ob43 P :: ob44 P :: ob45 P :: ob49 P :: ob37 P :: ob50 P :: ob7 P :: ob8 P :: ob51 P :: ob52 P :: ob7 P :: ob53 P :: ob54 P :: ob55 P :: ob56 P :: ob49 P :: ob37 P :: ob57 P :: ob7 P :: ob8 P :: ob58 P :: ob59 P :: ob7 P :: ob60 P :: ob61 P :: ob62 P :: ob63 P :: ob7 P :: ob8 P :: ob66 P :: ob7 P :: ob67 P :: ob68 P :: ob69 P :: ob7 P :: ob8 P :: ob70 P :: ob7 P :: ob71 P :: ob72 P :: ob73 P :: ob7 P :: ob8 P :: ob74 P :: ob7 P :: ob75 P :: ob76 P :: ob77 P :: ob78 P :: ob7 P :: ob8 P :: ob79 P :: ob7 P :: ob80 P :: ob81 P :: ob82 P :: ob83 P :: ob7 P :: ob8 P :: ob84 P :: ob7 P :: ob85 P :: ob86 P :: ob87 P :: ob88 P :: ob6 P :: ob89 P :: ob90 P :: ob91 P :: [])) ⟨[], [], [], (0 : Nat), [], [], false, #[], [], (0 : Nat), false, false, false, 0, [2000, 10, 10], false, (0 : Nat), true, [], [], (0 : Nat), false⟩
noncomputable def hpY (P : Params) (o : Obj) : Heap := Heap.mk (List.toArray (ob0 P :: ob1 P :: ob29 P :: ob92 P :: ob4 P :: ob5 P :: ob6 P :: ob7 P :: ob8 P :: ob9 P :: ob10 P :: ob11 P :: ob12 P :: ob13 P :: ob14 P :: ob7 P :: ob15 P :: ob16 P :: o :: ob18 P :: ob19 P :: ob20 P :: ob21 P :: ob22 P :: ob23 P :: ob24 P :: ob25 P :: ob26 P :: ob7 P :: ob65 P :: ob27 P :: ob28 P :: ob7 P :: ob8 P :: ob32 P :: ob7 P :: ob33 P :: ob34 P :: ob35 P :: ob36 P :: ob37 P :: ob38 P :: ob7 P :: ob8 P :: ob39 P :: ob40 P :: ob7 P :: ob41 P :: ob48 P :: ob43 P :: ob44 P :: ob45 P :: ob49 P :: ob37 P :: ob50 P :: ob7 P :: ob8 P :: ob51 P :: ob52 P :: ob7 P :: ob53 P :: ob54 P :: ob55 P :: ob56 P :: ob49 P :: ob37 P :: ob57 P :: ob7 P :: ob8 P :: ob58 P :: ob59 P :: ob7 P :: ob60 P :: ob61 P :: ob62 P :: ob63 P :: ob7 P :: ob8 P :: ob66 P :: ob7 P :: ob67 P :: ob68 P :: ob69 P :: ob7 P :: ob8 P :: ob70 P :: ob7 P :: ob71 P :: ob72 P :: ob73 P :: ob7 P :: ob8 P :: ob74 P :: ob7 P :: ob75 P :: ob76 P :: ob77 P :: ob78 P :: ob7 P :: ob8 P :: ob79 P :: ob7 P :: ob80 P :: ob81 P :: ob82 P :: ob83 P :: ob7 P :: ob8 P :: ob84 P :: ob7 P :: ob85 P :: ob86 P :: ob87 P :: ob88 P :: ob6 P :: ob89 P :: ob90 P :: ob91 P :: ob93 P :: ob94 P :: ob95 P :: ob7 P :: ob96 P :: [])) ⟨[], [], [], (0 : Nat), [], [], false, #[], [], (0 : Nat), false, false, false, 0, [2000, 10, 10], false, (0 : Nat), true, [], [], (0 : Nat), false⟩
noncomputable def hpF (P : Params) (o : Obj) : Heap := Heap.mk (List.toArray (ob0 P :: ob1 P :: ob29 P :: ob97 P :: ob4 P :: ob5 P :: ob6 P :: ob7 P :: ob8 P :: ob9 P :: ob10 P :: ob11 P :: ob12 P :: ob13 P :: ob14 P :: ob7 P :: ob15 P :: ob16 P :: o :: ob18 P :: ob19 P :: ob20 P :: ob21 P :: ob22 P :: ob23 P :: ob24 P :: ob25 P :: ob26 P :: ob7 P :: ob98 P :: ob27 P :: ob28 P :: ob7 P :: ob8 P :: ob32 P :: ob7 P :: ob33 P :: ob34 P :: ob35 P :: ob36 P :: ob37 P :: ob38 P :: ob7 P :: ob8 P :: ob39 P :: ob40 P :: ob7 P :: ob41 P :: ob48 P :: ob43 P :: ob44 P :: ob45 P :: ob49 P :: ob37 P :: ob50 P :: ob7 P :: ob8 P :: ob51 P :: ob52 P :: ob7 P :: ob53 P :: ob54 P :: ob55 P :: ob56 P :: ob49 P :: ob37 P :: ob57 P :: ob7 P :: ob8 P :: ob58 P :: ob59 P :: ob7 P :: ob60 P :: ob61 P :: ob62 P :: ob63 P :: ob7 P :: ob8 P :: ob66 P :: ob7 P :: ob67 P :: ob68 P :: ob69 P :: ob7 P :: ob8 P :: ob70 P :: ob7 P :: ob71 P :: ob72 P :: ob73 P :: ob7 P :: ob8 P :: ob74 P :: ob7 P :: ob75 P :: ob76 P :: ob77 P :: ob78 P :: ob7 P :: ob8 P :: ob79 P :: ob7 P :: ob80 P :: ob81 P :: ob82 P :: ob83 P :: ob7 P :: ob8 P :: ob84 P :: ob7 P :: ob85 P :: ob86 P :: ob87 P :: ob88 P :: ob6 P :: ob89 P :: ob90 P :: ob91 P :: ob93 P :: ob94 P :: ob95 P :: ob7 P :: ob96 P :: ob7 P :: ob8 P :: ob99 P :: ob7 P :: ob100 P :: ob101 P :: ob102 P :: ob7 P :: ob8 P :: ob103 P :: ob7 P :: ob104 P :: ob105 P :: ob106 P :: ob7 P :: ob8 P :: ob107 P :: ob7 P :: ob108 P :: ob109 P :: ob110 P :: ob7 P :: ob8 P :: ob111 P :: ob112 P :: ob113 P :: ob7 P :: ob8 P :: ob114 P :: ob7 P :: ob115 P :: ob116 P :: ob117 P :: ob7 P :: ob8 P :: ob118 P :: ob119 P :: ob120 P :: ob7 P :: ob8 P :: ob121 P :: ob7 P :: ob122 P :: ob123 P :: ob124 P :: ob7 P :: ob8 P :: ob125 P :: ob7 P :: ob126 P :: ob127 P :: ob128 P :: [])) ⟨[], [], [], (0 : Nat), [], [], false, #[], [], (0 : Nat), false, false, false, 0, [2000, 10, 10], false, (0 : Nat), true, [], [], (0 : Nat), false⟩
abbrev dr : Drawn := ⟨0, 0, 0, 0⟩
abbrev gn : Array GenState := Array.mk []
noncomputable abbrev st0 (P : Params) (o : Obj) (os : OsState) : Shared := ⟨hp0 P o, gn, dr, 276, os⟩
noncomputable abbrev stA (P : Params) (o : Obj) (os : OsState) : Shared := ⟨hpA P o, gn, dr, 282, os⟩
noncomputable abbrev stC (P : Params) (o : Obj) (os : OsState) : Shared := ⟨hpC P o, gn, dr, 311, os⟩
noncomputable abbrev stD (P : Params) (o : Obj) (os : OsState) : Shared := ⟨hpD P o, gn, dr, 343, os⟩
noncomputable abbrev stX (P : Params) (o : Obj) (os : OsState) : Shared := ⟨hpX P o, gn, dr, 441, os⟩
noncomputable abbrev stY (P : Params) (o : Obj) (os : OsState) : Shared := ⟨hpY P o, gn, dr, 587, os⟩
noncomputable abbrev stF (P : Params) (o : Obj) (os : OsState) : Shared := ⟨hpF P o, gn, dr, 674, os⟩
abbrev pw : Program := PySem.Challenge.pw_kl0068_01
abbrev an : Option Value := some (.ref 6)
noncomputable def ev : Env := { scope := PySem.Challenge.pw_kl0068_01.main.scope, locals := mainNs, globals := mainNs, cells := [], code := .ref 30, frame := some 31 }
abbrev ps0 : Pos := ⟨0, 0, 0, 0⟩
abbrev psC : Pos := ⟨6, 0, 7, 8⟩
abbrev psD : Pos := ⟨10, 0, 11, 8⟩
abbrev psX : Pos := ⟨73, 0, 73, 8⟩
abbrev psY : Pos := ⟨74, 0, 74, 18⟩
abbrev psF : Pos := ⟨183, 0, 185, 46⟩
noncomputable abbrev bE : List Stmt := behindTheImports pw
noncomputable abbrev cE : Code := .body bE ev
noncomputable def g1 : List Stmt := bE.take 3
noncomputable def g2 : List Stmt := (bE.drop 3).take 2
noncomputable def g3 : List Stmt := (bE.drop 5).take 10
noncomputable def g4 : List Stmt := (bE.drop 15).take 1
noncomputable def g5 : List Stmt := bE.drop 16
theorem cut5 : bE = g1 ++ (g2 ++ (g3 ++ (g4 ++ (g5 ++ [])))) := by kernel_rfl
/-- one object of the opening's (its long texts need no look) -/
noncomputable def oW (w : World) : Obj := match fencedOpening treeTable pw w 5064 with
  | some s => (s.heap.objs[18]?).getD ⟨.none, none, .plain, #[]⟩
  | none => ⟨.none, none, .plain, #[]⟩
theorem top_open (w : World) : (fencedOpening treeTable pw w 5064).map (fun s => (s.heap, s.gens, s.drawn, s.toks)) = some (hp0 w.params (oW w), gn, dr, 276) := by kernel_rfl
theorem top_size (w : World) (o : Obj) : ((hp0 w.params o).isNs mainGlobals && gn.size == 0, (hp0 w.params o).objs.size, (hp0 w.params o).nsMap mainGlobals "__annotations__") = (true, 28, an) := by kernel_rfl
theorem top_pre (w : World) (o : Obj) (os : OsState) : topGo treeTable pw w 28 an 12 (st0 w.params o os) (topStub pw) = some (stA w.params o os, ⟨denote treeTable cE, cE, ps0, [topFrame ps0]⟩) := by kernel_rfl
theorem top_block (w : World) (o : Obj) (os : OsState) : segRun treeTable pw w 28 an 1 1 (stA w.params o os) (blockOf bE ev cE ps0 [topFrame ps0]) = some (.next, stA w.params o os, cE, ps0) := by kernel_rfl
theorem top_g1 (w : World) (o : Obj) (os : OsState) : segRun treeTable pw w 28 an 1 300 (stA w.params o os) (piecesOf g1 ev cE ps0 [topFrame ps0]) = some (.next, stC w.params o os, cE, psC) := by kernel_rfl
theorem top_g2 (w : World) (o : Obj) (os : OsState) : segRun treeTable pw w 28 an 1 500 (stC w.params o os) (piecesOf g2 ev cE psC [topFrame ps0]) = some (.next, stD w.params o os, cE, psD) := by kernel_rfl
theorem top_g3 (w : World) (o : Obj) (os : OsState) : segRun treeTable pw w 28 an 1 400 (stD w.params o os) (piecesOf g3 ev cE psD [topFrame ps0]) = some (.next, stX w.params o os, cE, psX) := by kernel_rfl
/-- the longest statement: it asks two of the world's answers -/
abbrev Long (w : World) (o : Obj) (os : OsState) : Prop := segRun treeTable pw w 28 an 1 1300 (stX w.params o os) (piecesOf g4 ev cE psX [topFrame ps0]) = some (.next, stY w.params o os, cE, psY)
theorem long_ff (w : World) (o : Obj) (os : OsState) : Long ((w.withFollow "special-get-raises" false).withFollow "comprehension-iter-twice" false) o os := by kernel_rfl
theorem long_tf (w : World) (o : Obj) (os : OsState) : Long ((w.withFollow "special-get-raises" true).withFollow "comprehension-iter-twice" false) o os := by kernel_rfl
theorem long_ft (w : World) (o : Obj) (os : OsState) : Long ((w.withFollow "special-get-raises" false).withFollow "comprehension-iter-twice" true) o os := by kernel_rfl
theorem long_tt (w : World) (o : Obj) (os : OsState) : Long ((w.withFollow "special-get-raises" true).withFollow "comprehension-iter-twice" true) o os := by kernel_rfl
theorem top_g4 (o : Obj) (os : OsState) : ∀ w, Long w o os := byRow2 "comprehension-iter-twice" (P := fun w => Long w o os) (byRow2 "special-get-raises" (P := fun w => Long (w.withFollow "comprehension-iter-twice" false) o os) (fun w => long_ff w o os) (fun w => long_tf w o os)) (byRow2 "special-get-raises" (P := fun w => Long (w.withFollow "comprehension-iter-twice" true) o os) (fun w => long_ft w o os) (fun w => long_tt w o os))
theorem top_g5 (w : World) (o : Obj) (os : OsState) : segRun treeTable pw w 28 an 1 398 (stY w.params o os) (piecesOf g5 ev cE psY [topFrame ps0]) = some (.next, stF w.params o os, cE, psF) := by kernel_rfl
theorem top_fin (w : World) (o : Obj) (os : OsState) : topRun treeTable pw w 28 an 2 (stF w.params o os) (restOf [] ev cE psF [topFrame ps0]) = some (stF w.params o os) := by kernel_rfl
theorem look_a (w : World) (o : Obj) (os : OsState) : (staticsOk (importedModules pw.main.body) (hp0 w.params o) (hpF w.params o) && namesBound pw (hpF w.params o) && gensDone (stF w.params o os) && laidKept (hp0 w.params o) (hpF w.params o)) = true := by kernel_rfl
theorem look_b (w : World) (o : Obj) (os : OsState) : openSeen vw lo (importedModules pw.main.body) xt true (stF w.params o os) = openGood vw lo := by kernel_rfl
theorem look_c (w : World) (o : Obj) (os : OsState) : Hook.obs hk (stF w.params o os) = Hook.val hk w := by kernel_rfl
theorem top_run (w : World) (o : Obj) (os : OsState) : topRun treeTable pw w 28 an (12 + (1 + (300 + (500 + (400 + (1300 + (398 + 2))))))) (st0 w.params o os) (topStub pw) = some (stF w.params o os) := by
  have h5 := piece_app (top_g5 w o os) (top_fin w o os)
  have h4 := piece_app (top_g4 o os w) h5
  have h3 := piece_app (top_g3 w o os) h4
  have h2 := piece_app (top_g2 w o os) h3
  have h1 := piece_app (top_g1 w o os) h2
  rw [← cut5] at h1
  exact go_top (top_pre w o os) (piece_block (top_block w o os) h1)
/-- the head's equation for one world, from the opening's end, the run and the looks at its end -/
theorem left_of {p q : Program} {loose : List Str} {Xt : Shared → Bool} {α : Type} {Yf : Shared → α} {y : α} {N M m k₀ k₁ : Nat} {g0 : Bool} {w : World} {H₀ H₁ : Heap} {gs₀ gs₁ : Array GenState} {d₀ d₁ : Drawn} {ann : Option Value}
    (ho : (fencedOpening treeTable p w N).map (fun s => (s.heap, s.gens, s.drawn, s.toks)) = some (H₀, gs₀, d₀, k₀))
    (hs : (H₀.isNs mainGlobals && gs₀.size == 0, H₀.objs.size, H₀.nsMap mainGlobals "__annotations__") = (true, m, ann))
    (hr : ∀ os, topRun treeTable p w m ann M ⟨H₀, gs₀, d₀, k₀, os⟩ (topStub p) = some ⟨H₁, gs₁, d₁, k₁, os⟩) (le : M ≤ N)
    (ha : ∀ os, (staticsOk (importedModules p.main.body) H₀ H₁ && namesBound p H₁ && gensDone ⟨H₁, gs₁, d₁, k₁, os⟩ && laidKept H₀ H₁) = true)
    (hb : ∀ os, openSeen q loose (importedModules p.main.body) Xt g0 ⟨H₁, gs₁, d₁, k₁, os⟩ = openGood q loose) (hc : ∀ os, Yf ⟨H₁, gs₁, d₁, k₁, os⟩ = y) :
    (openEnds treeTable p w N).map (fun s => (openSeen q loose (importedModules p.main.body) Xt g0 s, Yf s)) = some (openGood q loose, y) := by
  cases e : fencedOpening treeTable p w N with
  | none => rw [e] at ho; cases ho
  | some s₀ =>
    obtain ⟨h, gs, d, k, os⟩ := s₀
    rw [e, Option.map_some, Option.some.injEq] at ho
    simp only [Prod.mk.injEq] at ho hs
    obtain ⟨rfl, rfl, rfl, rfl⟩ := ho
    obtain ⟨s1, s2, s3⟩ := hs
    have r := topRun_mono (N - M) _ _ _ _ (hr os)
    rw [Nat.add_sub_cancel' le] at r
    have a := ha os
    unfold openEnds topFrom
    rw [e, Option.bind_some]
    simp only [s1, s2, s3, r, Option.bind_some, a, Option.map_some, hb os, hc os]
theorem left_all (w : World) : Left w := left_of (top_open w) (top_size w (oW w)) (fun os => top_run w (oW w) os) (by decide) (fun os => look_a w (oW w) os) (fun os => look_b w (oW w) os) (fun os => look_c w (oW w) os)
end Mine
end
section
open PySem PySem.W PySem.Spec PySem.Calls PyProof.Rows
set_option maxRecDepth 100000
namespace Mine
abbrev tupOf (vs : Array Value) (n : Nat) : Obj := { cls := .type "tuple", data := .seq vs n }
/-- what a call of the def at f gives, in any frame of the text's -/
abbrev Ask (w : World) (n : Nat) (f : Addr) (news : List (Addr × Obj)) (vs : List Value) (Fin : Heap → Addr → (Str → Option Value) → (Value → Heap → Nat → Prop) → Prop) (kw : List (Str × Value) := []) : Prop :=
  ∀ (p : Program) (loose : List Str) (mean : ExcName → Option Value) (mg mb : Str → Option Value) (dp un : Nat) (gd : Option (List Code)) (cn : Str) (cs : Scope) (a : Addr) (ccd : Value) (cl : List (Str × Addr)) (outer : List Env) (A₀ : Around) (base h₀ : Heap) (L : Addr) (m : Str → Option Value) (s : Shared) (Q E : Value → Shared → Prop),
    Below A₀ base outer h₀ → Fr h₀ L s.heap m → (kk w.params).In h₀ → News h₀ L s.heap news → Top p loose mean mg mb h₀ → cs.kind = .function → dp + n < recursionLimit → un + 16 * n < cLine →
    Fin h₀ L m (fun v h' tk' => Q v { s with heap := h', toks := tk' }) →
      wpAny (model PySem.Challenge.rw_kl0068_01.row.prog w) (ktrTop dp un gd cn cs L a ccd cl outer) (call (.ref f) vs kw) Q E s
theorem ask_use {w : World} {n : Nat} {f : Addr} {news : List (Addr × Obj)} {vs : List Value} {Fin : Heap → Addr → (Str → Option Value) → (Value → Heap → Nat → Prop) → Prop} {kw : List (Str × Value)} (C : Ask w n f news vs Fin kw)
    {p : Program} {loose : List Str} {mean : ExcName → Option Value} {mg mb : Str → Option Value} {dp un : Nat} {gd : Option (List Code)} {cn : Str} {cs : Scope} {a : Addr} {ccd : Value} {cl : List (Str × Addr)} {outer : List Env} {A₀ : Around} {base h₀ : Heap} {L : Addr} {m : Str → Option Value} {s : Shared} {Q E : Value → Shared → Prop}
    (B : Below A₀ base outer h₀) (F : Fr h₀ L s.heap m) (X : (kk w.params).In h₀) (N : News h₀ L s.heap news) (T : Top p loose mean mg mb h₀) (hk : cs.kind = .function) (hd : dp + n < recursionLimit) (hu : un + 16 * n < cLine)
    (ret : Fin h₀ L m (fun v h' tk' => Q v { s with heap := h', toks := tk' })) :
    wpAny (model PySem.Challenge.rw_kl0068_01.row.prog w) (ktrTop dp un gd cn cs L a ccd cl outer) (call (.ref f) vs kw) Q E s := C _ _ _ _ _ _ _ _ _ _ _ _ _ _ _ _ _ _ _ _ _ _ B F X N T hk hd hu ret
theorem news_dup {h₀ h : Heap} {L : Addr} {news : List (Addr × Obj)} {q : Addr × Obj} (N : News h₀ L h news) (hq : q ∈ news) : News h₀ L h (q :: news) := by
  intro p hp
  rcases List.mem_cons.mp hp with rfl | hp
  · exact N _ hq
  · exact N p hp
section
variable {prog : Program} {w : World} {A A₀ : Around} {E : Value → Shared → Prop} {s : Shared} {K : Frag} {C L : Addr} {h₀ base : Heap} {m mg mb : Str → Option Value} {hid news : List (Addr × Obj)} {p : Program} {loose : List Str} {mean : ExcName → Option Value} {Q : Value → Shared → Prop}
/-- a def is entered with a part of the ledger alone; the rest stands as it stood -/
theorem keep_def {env : Env} {outer : List Env} {R : Result → Shared → Prop} {name qual : Str} {params : Arguments} {body : List Stmt} {scope : Scope} {dV kV doc pm cdv ct oc : Value} {an od : Option Addr} {osl : Array (Option Value)} {f : Addr} {args : Args} {binds : List (Str × Value)}
    (Nf : News h₀ L s.heap news) (B : Below A₀ base outer h₀) (F : Fr h₀ L s.heap m) (X₀ : K.In h₀) (N : News h₀ L s.heap hid) (T : Top p loose mean mg mb h₀) (hA : A.frames = some (env :: outer)) (hf : env.frame = some L) (hke : env.scope.kind = .function)
    (ho : K.lookup f = some ⟨oc, od, .func (fnOf name qual params body scope dV kV doc pm an cdv ct), osl⟩) (hcd : codeIn K cdv qual = true) (hroom : A.depth < recursionLimit)
    (hbind : BindsTo s (fnOf name qual params body scope dV kV doc pm an cdv ct) args binds) (hloc : ∀ y ∈ binds, scope.names.lookup y.1 = some .local)
    (h : ∀ g L' h₁, Fr h₀ L g m → Fr g L' h₁ (fun y => binds.reverse.lookup y) → News g L' h₁ hid → Below A base (env :: outer) g → K.In g → Top p loose mean mg mb g → (∀ q ∈ news, q.1 ∉ hid.map (·.1) → g.get? q.1 = some q.2) →
      wpAny (model prog w) (A.deeper (envOf qual scope L' f cdv)) (execs body (envOf qual scope L' f cdv))
        (fun fl s' => LeaveK h₀ L m g R (match fl with | .ret v => v | _ => .none) s')
        (fun e s' => wpAny (model prog w) (A.deeper (envOf qual scope L' f cdv)) (leaving (envOf qual scope L' f cdv) e) (fun _ s'' => R (.error e) s'') (fun e' s'' => R (.error e') s'') s')
        { s with heap := h₁, toks := s.toks + binds.length })
    (hco : scope.isCoroutine = false) (hgen : scope.isGenerator = false) (hk : scope.kind = .function)
    (hcell : ∀ x ∈ scope.names, x.2 ≠ .cell) : codeAny (model prog w) A (.call (.ref f) args) R s := by
  obtain ⟨FG, BG, st, lv⟩ := groundX (R := R) B F N hA hf hke
  refine codeAny_call_def (fd := fnOf name qual params body scope dV kV doc pm an cdv ct) (body := body) (binds := binds) hroom ((X₀.keeps F.keep) _ _ ho) rfl (T.nolimit.keeps F.keep) (codeRec_of (X₀.keeps F.keep) hcd) rfl hbind hcell hloc (fun h₁ hns hk₁ => ?_) hco hgen hk
  exact wpAny_mono (h _ s.heap.objs.size h₁ FG ⟨hns, fun b o e => hk₁ b o (of_hideAll _ e), Nat.le_of_eq (hideAll_size _ _)⟩
    (fun p hp => ⟨hk₁ _ _ (N p hp).1, Nat.ne_of_lt (Heap.lt_size (N p hp).1), hideAll_none _ (List.mem_map_of_mem hp)⟩) BG (X₀.keeps st) (T.keeps st) fun q hq hn => hideAll_get _ (Nf q hq).1 hn) (fun fl s' hl => lv _ _ hl) fun _ _ y => y
/-- the same, for a def whose locals are captured -/
theorem keep_defC {env : Env} {outer : List Env} {R : Result → Shared → Prop} {name qual : Str} {params : Arguments} {body : List Stmt} {scope : Scope} {dV kV doc pm cdv ct oc : Value} {an od : Option Addr} {osl : Array (Option Value)} {f : Addr} {args : Args} {binds : List (Str × Value)}
    (Nf : News h₀ L s.heap news) (B : Below A₀ base outer h₀) (F : Fr h₀ L s.heap m) (X₀ : K.In h₀) (N : News h₀ L s.heap hid) (T : Top p loose mean mg mb h₀) (hA : A.frames = some (env :: outer)) (hf : env.frame = some L) (hke : env.scope.kind = .function)
    (ho : K.lookup f = some ⟨oc, od, .func (fnOf name qual params body scope dV kV doc pm an cdv ct), osl⟩) (hcd : codeIn K cdv qual = true) (hroom : A.depth < recursionLimit)
    (hbind : BindsTo s (fnOf name qual params body scope dV kV doc pm an cdv ct) args binds) (hkind : (binds.all fun y => scope.names.lookup y.1 == some .local || scope.names.lookup y.1 == some .cell) = true)
    (hnd : ((cellsFrom 0 scope.names []).map (·.1)).Nodup)
    (h : ∀ g L' h₁ tk cells, Fr h₀ L g m → Fr g L' h₁ (bindL (envOfC qual scope L' f cdv).kindOf binds fun _ => none) → News g L' h₁ (cells ++ hid) →
      CellsAre (bindC (envOfC qual scope L' f cdv).kindOf binds fun _ => none) (cellsFrom (L' + 1) scope.names []) cells → Below A base (env :: outer) g → K.In g → Top p loose mean mg mb g → (∀ p ∈ hid, p.1 < L') → (∀ q ∈ news, q.1 ∉ hid.map (·.1) → g.get? q.1 = some q.2) →
      wpAny (model prog w) (A.deeper (envOfC qual scope L' f cdv)) (execs body (envOfC qual scope L' f cdv))
        (fun fl s' => LeaveK h₀ L m g R (match fl with | .ret v => v | _ => .none) s')
        (fun e s' => wpAny (model prog w) (A.deeper (envOfC qual scope L' f cdv)) (leaving (envOfC qual scope L' f cdv) e) (fun _ s'' => R (.error e) s'') (fun e' s'' => R (.error e') s'') s')
        { s with heap := h₁, toks := tk })
    (hco : scope.isCoroutine = false) (hgen : scope.isGenerator = false) (hk : scope.kind = .function) : codeAny (model prog w) A (.call (.ref f) args) R s := by
  obtain ⟨FG, BG, st, lv⟩ := groundX (R := R) B F N hA hf hke
  refine codeAny_call_function (fd := fnOf name qual params body scope dV kV doc pm an cdv ct) hroom ((X₀.keeps F.keep) _ _ ho) rfl hco hgen rfl (codeRec_of (X₀.keeps F.keep) hcd) (hbind _ _ _ _ ?_)
  refine wpAny_newFunctionEnv_cells hk (kindsX hkind _) fun env' he s' x => ?_
  subst he
  have below := x.toInCall.keep
  refine ⟨(T.nolimit.keeps F.keep).keeps below, codeAny_func ?_⟩
  obtain ⟨h₁, tk, rfl, _⟩ := x.done
  have hk₁ := x.toInCall.keep
  obtain ⟨cells, NC, Y⟩ := Cl.news (h₀ := s.heap) (Nat.le_refl _) fun n c hm => ⟨x.cell n c (lookup_of_mem_nodup (cellsFrom_names scope.names 0 (s.heap.objs.size + 1) [] [] rfl ▸ hnd) hm), x.above n c hm⟩
  have hid' : News (hideAll s.heap (hid.map (·.1))) s.heap.objs.size h₁ (cells ++ hid) := by
    intro q hq
    rcases List.mem_append.mp hq with hq | hq
    · refine ⟨(NC q hq).1, (NC q hq).2.1, ?_⟩
      cases e : (hideAll s.heap (hid.map (·.1))).get? q.1 with
      | none => rfl
      | some o =>
        have := of_hideAll _ e
        rw [(NC q hq).2.2] at this
        cases this
    · exact ⟨hk₁ _ _ (N q hq).1, Nat.ne_of_lt (Heap.lt_size (N q hq).1), hideAll_none _ (List.mem_map_of_mem hq)⟩
  exact wpAny_mono (h _ s.heap.objs.size h₁ tk cells FG ⟨x.toInCall.ns, fun b o e => hk₁ b o (of_hideAll _ e), Nat.le_of_eq (hideAll_size _ _)⟩ hid' Y BG (X₀.keeps st) (T.keeps st) (fun q hq => Heap.lt_size (N q hq).1) fun q hq hn => hideAll_get _ (Nf q hq).1 hn) (fun fl s' hl => lv _ _ hl) fun _ _ y => y
theorem keep_back {g h h' : Heap} {L' : Addr} {m' : Str → Option Value} {new' : List (Addr × Obj)} (hg : ∀ q ∈ news, q.1 ∉ hid.map (·.1) → g.get? q.1 = some q.2) (N : News h₀ L h news) (Nh : News h₀ L h hid) (F' : Fr g L' h' m') (N' : News h₀ L h' new') (hs : ∀ p ∈ hid, p ∈ new') : News h₀ L h' news := by
  intro q hq
  by_cases c : q.1 ∈ hid.map (·.1)
  · obtain ⟨r, hr, e⟩ := List.mem_map.mp c
    have h1 := (Nh r hr).1
    rw [e, (N q hq).1] at h1
    have : q = r := Prod.ext e.symm (Option.some.inj h1)
    exact N' _ (hs _ (this ▸ hr))
  · exact ⟨F'.keep _ _ (hg q hq c), (N q hq).2⟩
def AllNe (d : Addr) : List (Addr × Obj) → Prop
  | [] => True
  | p :: r => @Ne Nat d p.1 ∧ AllNe d r
theorem allNe_of {d : Addr} : ∀ {l : List (Addr × Obj)}, (∀ p ∈ l, d ≠ p.1) → AllNe d l
  | [], _ => trivial
  | p :: _, h => ⟨h p (.head _), allNe_of fun q hq => h q (.tail _ hq)⟩
theorem ne_back {g h' : Heap} {L' D : Addr} {o : Obj} {newg : List (Addr × Obj)} (hg : ∀ q ∈ news, q.1 ∉ hid.map (·.1) → g.get? q.1 = some q.2) (Ng : News g L' h' newg) (hD : (D, o) ∈ newg) (hn : D ∉ hid.map (·.1)) : AllNe D news := by
  refine allNe_of fun q hq e => ?_
  have := (Ng _ hD).2.2
  rw [show (D, o).1 = q.1 from e, hg q hq (e ▸ hn)] at this
  cases this
theorem news_cons {h : Heap} {q : Addr × Obj} {new' : List (Addr × Obj)} (N' : News h₀ L h new') (hq : q ∈ new') (N : News h₀ L h news) : News h₀ L h (q :: news) := by
  intro r hr
  rcases List.mem_cons.mp hr with rfl | hr
  · exact N' _ hq
  · exact N _ hr
theorem allLt_back {h : Heap} {D : Addr} (N : News h₀ L h news) (hD : h.objs.size ≤ D) : AllLt D news := allLt_of fun p hp => Nat.lt_of_lt_of_le (Heap.lt_size (N p hp).1) hD
end
end Mine
end
section
open PySem PySem.W PyProof.Rows PySem.Builtin PySem.Builtin.Str
set_option maxRecDepth 100000
set_option maxHeartbeats 4000000
namespace Mine
/-- the places of a sign in a text -/
def occL (x : Str) (d : Nat) (limit : Nat) : List Nat → Nat → List Nat
  | [], _ => []
  | i :: r, n => if n < limit ∧ x.cps[i]? = some d then i :: occL x d limit r (n + 1) else occL x d limit r n
theorem subAt_one (x : Str) (d i : Nat) : subAt x ⟨#[d]⟩ i = true ↔ x.cps[i]? = some d := by
  rw [StrLaws.subAt_eq]
  show ((x.cps.toList.drop i).take 1 == [d]) = true ↔ _
  rw [← Array.getElem?_toList, beq_iff_eq, List.take_one, List.head?_drop]
  cases x.cps.toList[i]? with
  | none => simp
  | some a => simp
theorem occ_run (x : Str) (d limit : Nat) : ∀ (k lo : Nat) (st : Array Nat × Nat), st.2 ≤ lo → lo + k = x.length + 1 →
    (forIn (List.range' lo k) st (StrLaws.occBody x ⟨#[d]⟩ x.length limit)).run.fst.toList = st.1.toList ++ occL x d limit (List.range' lo k) st.1.size
  | 0, lo, st, h, _ => by simp [occL]
  | k + 1, lo, st, h, e => by
    rw [List.range'_succ, List.forIn_cons]
    unfold StrLaws.occBody occL
    by_cases c : st.1.size < limit ∧ x.cps[lo]? = some d
    · have hlt : lo < x.length := by
        have := c.2
        rw [Array.getElem?_eq_some_iff] at this
        exact this.1
      have c' : ((st.fst.size < limit ∧ st.snd ≤ lo) ∧ lo + (⟨#[d]⟩ : Str).length ≤ x.length) ∧ subAt x ⟨#[d]⟩ lo = true := ⟨⟨⟨c.1, h⟩, hlt⟩, (subAt_one x d lo).mpr c.2⟩
      rw [if_pos c', if_pos c]
      show (forIn (List.range' (lo + 1) k) (st.1.push lo, lo + 1) (StrLaws.occBody x ⟨#[d]⟩ x.length limit)).run.fst.toList = _
      rw [occ_run x d limit k (lo + 1) (st.1.push lo, lo + 1) (Nat.le_refl _) (by omega)]
      simp
    · have c' : ¬ (((st.fst.size < limit ∧ st.snd ≤ lo) ∧ lo + (⟨#[d]⟩ : Str).length ≤ x.length) ∧ subAt x ⟨#[d]⟩ lo = true) := fun q => c ⟨q.1.1.1, (subAt_one x d lo).mp q.2⟩
      rw [if_neg c', if_neg c]
      show (forIn (List.range' (lo + 1) k) _ (StrLaws.occBody x ⟨#[d]⟩ x.length limit)).run.fst.toList = _
      rw [occ_run x d limit k (lo + 1) (st.1, st.2) (by omega) (by omega)]
theorem occ_is (x : Str) (d lo limit : Nat) (h : lo ≤ x.length) : occurrences x ⟨#[d]⟩ lo x.length limit = occL x d limit (List.range' lo (x.length + 1 - lo)) 0 := by
  rw [StrLaws.occ_eq, occ_run x d limit _ lo (#[], lo) (Nat.le_refl _) (by omega)]
  rfl

def respOf (m c0 c1 c2 c3 : Nat) : Str := ⟨#[50,50,57,32,111,107,32,40,m,m,m,c0,c1,c2,c3,m,41]⟩
def bodyOf (m c0 c1 c2 c3 : Nat) : Str := ⟨#[m,m,m,c0,c1,c2,c3,m]⟩
structure RespOk (m c0 c1 c2 c3 : Nat) : Prop where
  hm : m = 124 ∨ m = 33
  h0 : 48 ≤ c0 ∧ c0 ≤ 57
  h1 : 48 ≤ c1 ∧ c1 ≤ 57
  h2 : 48 ≤ c2 ∧ c2 ≤ 57
  h3 : 48 ≤ c3 ∧ c3 ≤ 57
section
variable {m c0 c1 c2 c3 : Nat}
theorem resp_head : Txt.slice (respOf m c0 c1 c2 c3) none (some 3) = Str.ofString "229" := rfl
theorem resp_find : Txt.find (respOf m c0 c1 c2 c3) (Str.ofString "(") = 7 := by
  unfold Txt.find
  rw [show Str.ofString "(" = ⟨#[40]⟩ from by decide +kernel, occ_is _ _ _ _ (Nat.zero_le _)]
  rfl
theorem resp_find2 (h : RespOk m c0 c1 c2 c3) : Txt.find3 (respOf m c0 c1 c2 c3) (Str.ofString ")") 8 = 16 := by
  obtain ⟨hm, h0, h1, h2, h3⟩ := h
  unfold Txt.find3
  rw [show Str.ofString ")" = ⟨#[41]⟩ from by decide +kernel, show fromIndex (respOf m c0 c1 c2 c3).length 8 = 8 from rfl, occ_is _ _ _ _ (by show 8 ≤ 17; decide)]
  show (match occL (respOf m c0 c1 c2 c3) 41 1 [8,9,10,11,12,13,14,15,16,17] 0 with | k :: _ => (k : Int) | [] => -1) = 16
  have e0 : m ≠ 41 := by omega
  have e1 : c0 ≠ 41 := by omega
  have e2 : c1 ≠ 41 := by omega
  have e3 : c2 ≠ 41 := by omega
  have e4 : c3 ≠ 41 := by omega
  simp [occL, respOf, e0, e1, e2, e3, e4]
theorem resp_item8 : Txt.item (respOf m c0 c1 c2 c3) 8 = ⟨#[m]⟩ := rfl
theorem resp_item15 : Txt.item (respOf m c0 c1 c2 c3) 15 = ⟨#[m]⟩ := rfl
theorem resp_body : Txt.slice (respOf m c0 c1 c2 c3) (some 8) (some 16) = bodyOf m c0 c1 c2 c3 := rfl
theorem resp_split (h : RespOk m c0 c1 c2 c3) : Txt.split (bodyOf m c0 c1 c2 c3) ⟨#[m]⟩ = [⟨#[]⟩, ⟨#[]⟩, ⟨#[]⟩, ⟨#[c0, c1, c2, c3]⟩, ⟨#[]⟩] := by
  obtain ⟨hm, h0, h1, h2, h3⟩ := h
  unfold Txt.split
  have k1 : Str.strKind (bodyOf m c0 c1 c2 c3) = 1 := by
    unfold Str.strKind bodyOf
    rw [if_pos]
    simp
    omega
  have k2 : Str.strKind ⟨#[m]⟩ = 1 := by
    unfold Str.strKind
    rw [if_pos]
    simp
    omega
  rw [k1, k2, occ_is _ _ _ _ (Nat.zero_le _)]
  have e1 : c0 ≠ m := by omega
  have e2 : c1 ≠ m := by omega
  have e3 : c2 ≠ m := by omega
  have e4 : c3 ≠ m := by omega
  have o : occL (bodyOf m c0 c1 c2 c3) m ((bodyOf m c0 c1 c2 c3).length + 1) (List.range' 0 ((bodyOf m c0 c1 c2 c3).length + 1 - 0)) 0 = [0, 1, 2, 7] := by
    show occL (bodyOf m c0 c1 c2 c3) m 9 [0,1,2,3,4,5,6,7,8] 0 = _
    simp [occL, bodyOf, e1, e2, e3, e4]
  rw [o]
  rfl
end
end Mine
end
section
open PySem PySem.W PyProof.Rows
set_option maxRecDepth 100000
set_option maxHeartbeats 4000000
namespace Mine
theorem and_low (a b : Nat) (h : b < 256) : (a * 256) &&& b = 0 := by
  apply Nat.eq_of_testBit_eq
  intro i
  rw [Nat.testBit_and, Nat.zero_testBit, show a * 256 = 2 ^ 8 * a from by omega, Nat.testBit_two_pow_mul]
  by_cases c : 8 ≤ i
  · rw [Nat.testBit_lt_two_pow (i := i) (x := b) (Nat.lt_of_lt_of_le h (Nat.pow_le_pow_right (n := 2) (by decide) c))]
    simp
  · simp [c]
theorem or_low {a b : Int} (ha : 0 ≤ a) (hb : 0 ≤ b ∧ b < 256) : Builtin.bitOr (a * 256) b = a * 256 + b := by
  rw [bitOr_and]
  have : Builtin.bitAnd (a * 256) b = 0 := by
    unfold Builtin.bitAnd
    have h1 : (0 : Int) ≤ a * 256 := by omega
    have e1 : (a * 256).toNat = a.toNat * 256 := by omega
    simp only [h1, hb.1, decide_true, if_true, e1, Bool.and_self]
    first
      | (rw [and_low _ _ (by omega)]; rfl)
      | simp [and_low a.toNat b.toNat (by omega)]
  omega
def b64L : List Int := [65, 66, 67, 68, 69, 70, 71, 72, 73, 74, 75, 76, 77, 78, 79, 80, 81, 82, 83, 84, 85, 86, 87, 88, 89, 90, 97, 98, 99, 100, 101, 102, 103, 104, 105, 106, 107, 108, 109, 110, 111, 112, 113, 114, 115, 116, 117, 118, 119, 120, 121, 122, 48, 49, 50, 51, 52, 53, 54, 55, 56, 57, 43, 47]
/-- the sign of a place below 64 -/
def sgn (i : Int) : Int := b64L.getD i.toNat 0
theorem sgn_nat : ∀ i : Nat, i < 64 → 43 ≤ b64L.getD i 0 ∧ b64L.getD i 0 < 128 := by decide +kernel
theorem sgn_in {i : Int} (h0 : 0 ≤ i) (h1 : i < 64) : 43 ≤ sgn i ∧ sgn i < 128 := sgn_nat i.toNat (by omega)
theorem sgn_at : ∀ i : Nat, i < 64 → b64L.idxOf (b64L.getD i 0) = i := by decide +kernel
theorem sgn_inj_nat (i : Nat) (hi : i < 64) (j : Nat) (hj : j < 64) (e : b64L.getD i 0 = b64L.getD j 0) : i = j := by
  rw [← sgn_at i hi, ← sgn_at j hj, e]
theorem sgn_inj {i j : Int} (h0 : 0 ≤ i) (h1 : i < 64) (h2 : 0 ≤ j) (h3 : j < 64) (e : sgn i = sgn j) : i = j := by
  have := sgn_inj_nat i.toNat (by omega) j.toNat (by omega) e
  omega
section
variable {prog : Program} {w : World} {A : Around} {E : Value → Shared → Prop} {s : Shared} {a b : Int} {t u : Tok} {Q : Value → Shared → Prop}
theorem lsh8 (h0 : 0 ≤ a) (h1 : a < 65536) (h : Q (.int (a * 256) s.toks) { s with toks := s.toks + 1 }) : wpAny (model prog w) A (binaryOp .LShift (.int a t) (.int 8 u)) Q E s :=
  lshift_int_small (by decide) (by decide) (by omega) h
theorem orl (h0 : 0 ≤ a) (h1 : 0 ≤ b ∧ b < 256) (h : Q (.int (a * 256 + b) s.toks) { s with toks := s.toks + 1 }) : wpAny (model prog w) A (binaryOp .BitOr (.int (a * 256) t) (.int b u)) Q E s :=
  or_int (by rw [or_low h0 h1]; exact h)
theorem and16 (h0 : 0 ≤ a) (h1 : a < 65536) (h : Q (.int a s.toks) { s with toks := s.toks + 1 }) : wpAny (model prog w) A (binaryOp .BitAnd (.int a t) (.int 65535 u)) Q E s :=
  and_int (by rw [bitAnd_m16, Int.emod_eq_of_lt h0 h1]; exact h)
theorem and6 (h : Q (.int (a % 64) s.toks) { s with toks := s.toks + 1 }) : wpAny (model prog w) A (binaryOp .BitAnd (.int a t) (.int 63 u)) Q E s :=
  and_int (by rw [bitAnd_m6]; exact h)
theorem rsh {n : Int} (k : Int) (hn : (2 : Int) ^ n.toNat = k) (h0 : 0 ≤ n) (ha : 0 ≤ a) (hk : 0 ≤ k) (h : Q (.int (a / k) s.toks) { s with toks := s.toks + 1 }) : wpAny (model prog w) A (binaryOp .RShift (.int a t) (.int n u)) Q E s :=
  rshift_int h0 (by rw [hn, Int.fdiv_eq_ediv_of_nonneg _ hk]; exact h)
theorem b64_item {B : Array UInt8} {value slice : PySem.Expr} (hk : KBw.bInts B = b64L) (h0 : 0 ≤ a) (h1 : a < 64)
    (h : ∀ t' k, 43 ≤ sgn a ∧ sgn a < 128 → Q (.int (sgn a) t') { s with toks := k })
    (hs : subscripted slice false (.bytes B t) (.int a u) = operate [.bytes B t, .int a u] (getItem (.bytes B t) (.int a u)) := by with_unfolding_all rfl)
    (ht : ∀ r, letTemporaryGo value (.bytes B t) r = pure () := by intro _; with_unfolding_all rfl) : wpAny (model prog w) A (subscriptTail value slice (.bytes B t) (.int a u)) Q E s :=
  KBw.item_K hk (by decide) h0 h1 (fun t' k _ _ => h t' k (sgn_in h0 h1)) hs ht
end
end Mine
end
section
open PySem PySem.W PySem.Spec PySem.Calls PyProof.Rows
set_option maxRecDepth 100000
set_option maxHeartbeats 1000000
namespace Mine
section
variable {prog : Program} {w : World} {A : Around} {E : Value → Shared → Prop} {s : Shared} {h₀ : Heap} {L : Addr} {m : Str → Option Value} {news : List (Addr × Obj)} {x y z : Str} {t u : Tok} {Q : Value → Shared → Prop} {value slice : PySem.Expr}
theorem slice_ns {j : Int} {uj : Tok} (hF : Fr h₀ L s.heap m) (hN : News h₀ L s.heap news) (e : Txt.slice x none (some j) = y) (hsz : x.length ≤ sizeLine) (h : ∀ h' t' k, Fr h₀ L h' m → News h₀ L h' news → Q (.str y t') { s with heap := h', toks := k })
    (hs : subscripted slice false (.str x t) (.ref s.heap.objs.size) = operate [.ref s.heap.objs.size, .str x t] (getItem (.str x t) (.ref s.heap.objs.size)) := by with_unfolding_all rfl)
    (ht : ∀ r, letTemporaryGo value (.str x t) r = pure () := by intro _; with_unfolding_all rfl) :
    wpAny (model prog w) A (subscriptTail value slice (.str x t) (.ref s.heap.objs.size)) Q E { s with heap := s.heap.push { cls := .type "slice", data := .fields #[.none, .int j uj, .none] } } := by
  subst e
  exact slice_strN_ns hF hN h hs ht hsz
theorem slice_ss {i j : Int} {ui uj : Tok} (hF : Fr h₀ L s.heap m) (hN : News h₀ L s.heap news) (e : Txt.slice x (some i) (some j) = y) (hsz : x.length ≤ sizeLine) (h : ∀ h' t' k, Fr h₀ L h' m → News h₀ L h' news → Q (.str y t') { s with heap := h', toks := k })
    (hs : subscripted slice false (.str x t) (.ref s.heap.objs.size) = operate [.ref s.heap.objs.size, .str x t] (getItem (.str x t) (.ref s.heap.objs.size)) := by with_unfolding_all rfl)
    (ht : ∀ r, letTemporaryGo value (.str x t) r = pure () := by intro _; with_unfolding_all rfl) :
    wpAny (model prog w) A (subscriptTail value slice (.str x t) (.ref s.heap.objs.size)) Q E { s with heap := s.heap.push { cls := .type "slice", data := .fields #[.int i ui, .int j uj, .none] } } := by
  subst e
  exact slice_strN_ss hF hN h hs ht hsz
theorem item_is {i : Int} (e : Txt.item x i = y) (h0 : fitsSsize i = true) (h1 : -(x.length : Int) ≤ i) (h2 : i < x.length) (h : Q (.str y s.toks) { s with toks := s.toks + 1 })
    (hs : subscripted slice false (.str x t) (.int i u) = operate [.str x t, .int i u] (getItem (.str x t) (.int i u)) := by with_unfolding_all rfl)
    (ht : ∀ r, letTemporaryGo value (.str x t) r = pure () := by intro _; with_unfolding_all rfl) :
    wpAny (model prog w) A (subscriptTail value slice (.str x t) (.int i u)) Q E s := by
  subst e
  exact item_str h0 h1 h2 (fun _ => h) hs ht
theorem ne_is {b : Bool} (e : (x != y) = b) (h : Q (.bool b) s) : wpAny (model prog w) A (compareOp .NotEq (.str x t) (.str y u)) Q E s := by
  subst e
  exact ne_str h
theorem eq_is {b : Bool} (e : (x == y) = b) (h : Q (.bool b) s) : wpAny (model prog w) A (compareOp .Eq (.str x t) (.str y u)) Q E s := by
  subst e
  exact eq_str h
theorem find_is {i : Int} (e : Txt.find x y = i) (h : Q (.int i s.toks) { s with toks := s.toks + 1 }) : wpAny (model prog w) A (call (.builtin "str.find") [.str x t, .str y u]) Q E s := by
  subst e
  exact SC.find h
theorem find3_is {i k : Int} {v : Tok} (e : Txt.find3 x y k = i) (h : Q (.int i s.toks) { s with toks := s.toks + 1 }) : wpAny (model prog w) A (call (.builtin "str.find") [.str x t, .str y u, .int k v]) Q E s := by
  subst e
  exact SC.find3 h
theorem it3_0 {x0 x1 x2 : Nat} {i : Int} (hi : i = 0) (h : Q (.str ⟨#[x0]⟩ s.toks) { s with toks := s.toks + 1 })
    (hs : ∀ j, subscripted slice false (.str ⟨#[x0, x1, x2]⟩ t) (.int j u) = operate [.str ⟨#[x0, x1, x2]⟩ t, .int j u] (getItem (.str ⟨#[x0, x1, x2]⟩ t) (.int j u)) := by intro _; with_unfolding_all rfl)
    (ht : ∀ r, letTemporaryGo value (.str ⟨#[x0, x1, x2]⟩ t) r = pure () := by intro _; with_unfolding_all rfl) :
    wpAny (model prog w) A (subscriptTail value slice (.str ⟨#[x0, x1, x2]⟩ t) (.int i u)) Q E s := by
  subst hi
  have e : (⟨#[x0, x1, x2]⟩ : Str).length = 3 := rfl
  exact item_is (y := ⟨#[x0]⟩) rfl (by decide) (by rw [e]; decide) (by rw [e]; decide) h (hs _) ht
theorem it3_1 {x0 x1 x2 : Nat} {i : Int} (hi : i = 1) (h : Q (.str ⟨#[x1]⟩ s.toks) { s with toks := s.toks + 1 })
    (hs : ∀ j, subscripted slice false (.str ⟨#[x0, x1, x2]⟩ t) (.int j u) = operate [.str ⟨#[x0, x1, x2]⟩ t, .int j u] (getItem (.str ⟨#[x0, x1, x2]⟩ t) (.int j u)) := by intro _; with_unfolding_all rfl)
    (ht : ∀ r, letTemporaryGo value (.str ⟨#[x0, x1, x2]⟩ t) r = pure () := by intro _; with_unfolding_all rfl) :
    wpAny (model prog w) A (subscriptTail value slice (.str ⟨#[x0, x1, x2]⟩ t) (.int i u)) Q E s := by
  subst hi
  have e : (⟨#[x0, x1, x2]⟩ : Str).length = 3 := rfl
  exact item_is (y := ⟨#[x1]⟩) rfl (by decide) (by rw [e]; decide) (by rw [e]; decide) h (hs _) ht
theorem it3_2 {x0 x1 x2 : Nat} {i : Int} (hi : i = 2) (h : Q (.str ⟨#[x2]⟩ s.toks) { s with toks := s.toks + 1 })
    (hs : ∀ j, subscripted slice false (.str ⟨#[x0, x1, x2]⟩ t) (.int j u) = operate [.str ⟨#[x0, x1, x2]⟩ t, .int j u] (getItem (.str ⟨#[x0, x1, x2]⟩ t) (.int j u)) := by intro _; with_unfolding_all rfl)
    (ht : ∀ r, letTemporaryGo value (.str ⟨#[x0, x1, x2]⟩ t) r = pure () := by intro _; with_unfolding_all rfl) :
    wpAny (model prog w) A (subscriptTail value slice (.str ⟨#[x0, x1, x2]⟩ t) (.int i u)) Q E s := by
  subst hi
  have e : (⟨#[x0, x1, x2]⟩ : Str).length = 3 := rfl
  exact item_is (y := ⟨#[x2]⟩) rfl (by decide) (by rw [e]; decide) (by rw [e]; decide) h (hs _) ht
theorem it4_0 {x0 x1 x2 x3 : Nat} {i : Int} (hi : i = 0) (h : Q (.str ⟨#[x0]⟩ s.toks) { s with toks := s.toks + 1 })
    (hs : ∀ j, subscripted slice false (.str ⟨#[x0, x1, x2, x3]⟩ t) (.int j u) = operate [.str ⟨#[x0, x1, x2, x3]⟩ t, .int j u] (getItem (.str ⟨#[x0, x1, x2, x3]⟩ t) (.int j u)) := by intro _; with_unfolding_all rfl)
    (ht : ∀ r, letTemporaryGo value (.str ⟨#[x0, x1, x2, x3]⟩ t) r = pure () := by intro _; with_unfolding_all rfl) :
    wpAny (model prog w) A (subscriptTail value slice (.str ⟨#[x0, x1, x2, x3]⟩ t) (.int i u)) Q E s := by
  subst hi
  have e : (⟨#[x0, x1, x2, x3]⟩ : Str).length = 4 := rfl
  exact item_is (y := ⟨#[x0]⟩) rfl (by decide) (by rw [e]; decide) (by rw [e]; decide) h (hs _) ht
theorem it4_1 {x0 x1 x2 x3 : Nat} {i : Int} (hi : i = 1) (h : Q (.str ⟨#[x1]⟩ s.toks) { s with toks := s.toks + 1 })
    (hs : ∀ j, subscripted slice false (.str ⟨#[x0, x1, x2, x3]⟩ t) (.int j u) = operate [.str ⟨#[x0, x1, x2, x3]⟩ t, .int j u] (getItem (.str ⟨#[x0, x1, x2, x3]⟩ t) (.int j u)) := by intro _; with_unfolding_all rfl)
    (ht : ∀ r, letTemporaryGo value (.str ⟨#[x0, x1, x2, x3]⟩ t) r = pure () := by intro _; with_unfolding_all rfl) :
    wpAny (model prog w) A (subscriptTail value slice (.str ⟨#[x0, x1, x2, x3]⟩ t) (.int i u)) Q E s := by
  subst hi
  have e : (⟨#[x0, x1, x2, x3]⟩ : Str).length = 4 := rfl
  exact item_is (y := ⟨#[x1]⟩) rfl (by decide) (by rw [e]; decide) (by rw [e]; decide) h (hs _) ht
theorem it4_2 {x0 x1 x2 x3 : Nat} {i : Int} (hi : i = 2) (h : Q (.str ⟨#[x2]⟩ s.toks) { s with toks := s.toks + 1 })
    (hs : ∀ j, subscripted slice false (.str ⟨#[x0, x1, x2, x3]⟩ t) (.int j u) = operate [.str ⟨#[x0, x1, x2, x3]⟩ t, .int j u] (getItem (.str ⟨#[x0, x1, x2, x3]⟩ t) (.int j u)) := by intro _; with_unfolding_all rfl)
    (ht : ∀ r, letTemporaryGo value (.str ⟨#[x0, x1, x2, x3]⟩ t) r = pure () := by intro _; with_unfolding_all rfl) :
    wpAny (model prog w) A (subscriptTail value slice (.str ⟨#[x0, x1, x2, x3]⟩ t) (.int i u)) Q E s := by
  subst hi
  have e : (⟨#[x0, x1, x2, x3]⟩ : Str).length = 4 := rfl
  exact item_is (y := ⟨#[x2]⟩) rfl (by decide) (by rw [e]; decide) (by rw [e]; decide) h (hs _) ht
theorem it4_3 {x0 x1 x2 x3 : Nat} {i : Int} (hi : i = 3) (h : Q (.str ⟨#[x3]⟩ s.toks) { s with toks := s.toks + 1 })
    (hs : ∀ j, subscripted slice false (.str ⟨#[x0, x1, x2, x3]⟩ t) (.int j u) = operate [.str ⟨#[x0, x1, x2, x3]⟩ t, .int j u] (getItem (.str ⟨#[x0, x1, x2, x3]⟩ t) (.int j u)) := by intro _; with_unfolding_all rfl)
    (ht : ∀ r, letTemporaryGo value (.str ⟨#[x0, x1, x2, x3]⟩ t) r = pure () := by intro _; with_unfolding_all rfl) :
    wpAny (model prog w) A (subscriptTail value slice (.str ⟨#[x0, x1, x2, x3]⟩ t) (.int i u)) Q E s := by
  subst hi
  have e : (⟨#[x0, x1, x2, x3]⟩ : Str).length = 4 := rfl
  exact item_is (y := ⟨#[x3]⟩) rfl (by decide) (by rw [e]; decide) (by rw [e]; decide) h (hs _) ht
theorem len_is {n : Nat} (e : x.length = n) (hn : (n : Int) < 2 ^ 63) (h : ∀ k tk, Q (.int (n : Int) k) { s with toks := tk }) : wpAny (model prog w) A (call (.builtin "len") [.str x t]) Q E s := by
  subst e
  exact P.len_str (by omega) (h _ _)
end
theorem one_ne {a d : Nat} {y : Str} (e : y = ⟨#[d]⟩) (h : a ≠ d) : ((⟨#[a]⟩ : Str) == y) = false := by
  subst e
  cases q : ((⟨#[a]⟩ : Str) == ⟨#[d]⟩) with
  | false => rfl
  | true => exact absurd (by simpa using eq_of_beq q) h
end Mine
end
section
open PySem PySem.W PySem.Spec PySem.Calls PyProof.Rows
set_option maxRecDepth 100000
set_option maxHeartbeats 1000000
namespace Mine
section
variable {prog : Program} {w : World} {A : Around} {E : Value → Shared → Prop} {s : Shared} {t u : Tok} {Q : Value → Shared → Prop} {value slice : PySem.Expr}
theorem resp_fit {m c0 c1 c2 c3 : Nat} : (respOf m c0 c1 c2 c3).length ≤ sizeLine := by
  rw [sizeLine_eq]; show 17 ≤ 16777216; decide
theorem body_fit {m c0 c1 c2 c3 : Nat} : (bodyOf m c0 c1 c2 c3).length + 2 ≤ sizeLine := by
  rw [sizeLine_eq]; show 10 ≤ 16777216; decide
theorem four_fit {c0 c1 c2 c3 : Nat} : (⟨#[c0, c1, c2, c3]⟩ : Str).length ≤ 640 := by
  show 4 ≤ 640; decide
theorem resp_at {m c0 c1 c2 c3 : Nat} {i : Int} (hi : i = 8 ∨ i = 15) (h : Q (.str ⟨#[m]⟩ s.toks) { s with toks := s.toks + 1 })
    (hs : ∀ j, subscripted slice false (.str (respOf m c0 c1 c2 c3) t) (.int j u) = operate [.str (respOf m c0 c1 c2 c3) t, .int j u] (getItem (.str (respOf m c0 c1 c2 c3) t) (.int j u)) := by intro _; with_unfolding_all rfl)
    (ht : ∀ r, letTemporaryGo value (.str (respOf m c0 c1 c2 c3) t) r = pure () := by intro _; with_unfolding_all rfl) :
    wpAny (model prog w) A (subscriptTail value slice (.str (respOf m c0 c1 c2 c3) t) (.int i u)) Q E s := by
  have e : (respOf m c0 c1 c2 c3).length = 17 := rfl
  rcases hi with rfl | rfl
  · exact item_is resp_item8 (by decide) (by rw [e]; decide) (by rw [e]; decide) h (hs _) ht
  · exact item_is resp_item15 (by decide) (by rw [e]; decide) (by rw [e]; decide) h (hs _) ht
end

local macro_rules | `(tactic| walk_at "subscriptTail Name Slice str ref") => `(tactic| (k_here; (with_reducible show wpAny _ _ (subscriptTail _ (PySem.Expr.Slice none (some _) none _) (Value.str (respOf _ _ _ _ _) _) _) _ _ _); (with_reducible rename Fr _ _ _ _ => F'); (with_reducible rename News _ _ _ _ => N'); (refine slice_ns (s := ⟨_, _, _, _, _⟩) F' N' resp_head resp_fit ?_); intro _ _ _ _ _))
local macro_rules | `(tactic| walk_at "subscriptTail Name Slice str ref") => `(tactic| (k_here; (with_reducible show wpAny _ _ (subscriptTail _ (PySem.Expr.Slice (some _) (some _) none _) (Value.str (respOf _ _ _ _ _) _) _) _ _ _); (with_reducible rename Fr _ _ _ _ => F'); (with_reducible rename News _ _ _ _ => N'); (refine slice_ss (s := ⟨_, _, _, _, _⟩) F' N' resp_body resp_fit ?_); intro _ _ _ _ _))
local macro_rules | `(tactic| walk_at "compareOp NotEq str str") => `(tactic| (k_here; first | (refine ne_is (b := false) (by decide +kernel) ?_) | (refine ne_is (b := false) (bne_self_eq_false _) ?_)))
local macro_rules | `(tactic| walk_at "call builtin:str.find") => `(tactic| (k_here; (with_reducible show wpAny _ _ (call (Value.builtin "str.find") [Value.str (respOf _ _ _ _ _) _, Value.str _ _]) _ _ _); refine find_is resp_find ?_))
local macro_rules | `(tactic| walk_at "call builtin:str.find") => `(tactic| (k_here; (with_reducible show wpAny _ _ (call (Value.builtin "str.find") [Value.str (respOf _ _ _ _ _) _, Value.str _ _, Value.int _ _]) _ _ _); refine find3_is (resp_find2 (by assumption)) ?_))
local macro_rules | `(tactic| walk_at "subscriptTail") => `(tactic| (k_here; (with_reducible show wpAny _ _ (subscriptTail _ _ (Value.str (respOf _ _ _ _ _) _) (Value.int _ _)) _ _ _); refine resp_at (by decide) ?_))
local macro_rules | `(tactic| walk_at "call builtin:str.split") => `(tactic| (k_here; (with_reducible show wpAny _ _ (call (Value.builtin "str.split") [Value.str (bodyOf _ _ _ _ _) _, _]) _ _ _); (refine KSpl.split1 (by k_asm) (by k_asm) rfl ?_ body_fit); (intro D' l' h' k' e' a' F' N' l1); (try k_lt l1); (rw [resp_split (by assumption)] at e'); (kspl_open e'); (simp only [strValues, List.map_cons, List.map_nil] at N' a')))
local macro_rules | `(tactic| walk_at "call type:int") => `(tactic| (k_here; (with_reducible show wpAny _ _ (call (Value.type "int") [Value.str _ _]) _ _ _); refine KIN.call_text (by assumption) four_fit ?_))
theorem ct_parse (w : World) (news : List (Addr × Obj)) (m c0 c1 c2 c3 : Nat) (n : Int) (t t1 t2 : Tok) (P : Addr) (nn : Nat) (ab : Str) (ok : RespOk m c0 c1 c2 c3) (hn : PySem.intText? ⟨#[c0, c1, c2, c3]⟩ = some n) (hP : (P, tupOf #[.str ab t1, .int 21 t2] nn) ∈ news) :
   Ask w 4 82 news [.str (respOf m c0 c1 c2 c3) t, .ref P] (fun h₀ L m K => ∀ (D : Addr) (t1 t2 : Tok) (c : Nat) (h' : Heap) (tk' : Nat), Fr h₀ L h' m → News h₀ L h' ((D, tupOf #[.str ab t1, .int n t2] c) :: news) → AllLt D news → K (.ref D) h' tk') := by
  unfold Ask
  k_fill
  w_top off
  intros; rename_i N _ _ _ _ hret
  replace N := news_dup N hP
  refine wpAny_call ?_
  k_dflt cell_enter
  k_steps
  refine' hret _ _ _ _ _ _ (by k_asm) ?N ?l
  case N => (refine' cb_drop ?n ?s; (case n => assumption); (case s => kcj_all))
  case l => (rename (_ ∧ _ ∧ AllLt _ _) => hl; exact hl.2.2)
end Mine
end
section
open PySem PySem.W PySem.Spec PySem.Calls PyProof.Rows
set_option maxRecDepth 100000
set_option maxHeartbeats 1000000
namespace Mine
local macro_rules | `(tactic| k_room) => `(tactic| ktr_room)
local macro_rules | `(tactic| walk_at "call type:type") => `(tactic| (k_here; (with_reducible show wpAny _ _ (call (Value.type "type") [Value.bytes _ _]) _ _ _); refine call_type_of (Tx := "bytes") rfl (by decide) ?_))
local macro_rules | `(tactic| walk_at "call type:type") => `(tactic| (k_here; (with_reducible show wpAny _ _ (call (Value.type "type") [Value.bool _]) _ _ _); refine call_type_of (Tx := "bool") rfl (by decide) ?_))
local macro_rules | `(tactic| walk_at "binaryOp LShift int int") => `(tactic| (k_here; refine lsh8 (by omega) (by omega) ?_))
local macro_rules | `(tactic| walk_at "binaryOp BitOr int int") => `(tactic| (k_here; refine orl (by omega) (by omega) ?_))
local macro_rules | `(tactic| walk_at "binaryOp BitAnd int int") => `(tactic| (k_here; first | (refine and16 (by omega) (by omega) ?_) | (refine and6 ?_)))
local macro_rules | `(tactic| walk_at "binaryOp RShift int int") => `(tactic| (k_here; first | (refine rsh 1 (by decide) (by decide) (by omega) (by decide) ?_) | (refine rsh 4 (by decide) (by decide) (by omega) (by decide) ?_) | (refine rsh 16 (by decide) (by decide) (by omega) (by decide) ?_) | (refine rsh 64 (by decide) (by decide) (by omega) (by decide) ?_)))
local macro_rules | `(tactic| walk_at "subscriptTail") => `(tactic| (k_here; (with_reducible show wpAny _ _ (subscriptTail _ _ (Value.bytes _ _) (Value.int _ _)) _ _ _); (refine b64_item (by decide +kernel) (by omega) (by omega) ?_); intro _ _ hsg'))
local macro_rules | `(tactic| walk_at "pyIter bytes") => `(tactic| ((with_reducible show wpAny _ _ (pyIter (Value.bytes _ _)) (fun it s₂ => LoopAtV _ _ _ _ _ _ _ _ _ it s₂) _ _); k_bytesUnr; walk_say "UNROLLED (bytes)"))
local macro_rules | `(tactic| walk_at "call type:bytes") => `(tactic| (k_here; (with_reducible show wpAny _ _ (call (Value.type "bytes") [Value.ref _]) _ _ _); k_dflt (refine' KBa.make_K ?kbaF ?kbaN ?kbah ?kbal ?kbai ?kbar ?kban ?_; (case kbaF => k_asm); (case kbaN => k_asm); (case kbah => rfl); (case kbal => kba_isList); (case kbai => first | l_ints | exact .cons _ _ (.cons _ _ (.cons _ _ (.cons _ _ .nil)))); (case kbar => intro n hn; simp only [List.mem_cons, List.not_mem_nil, or_false] at hn; rcases hn with e | e | e | e <;> (subst e; omega)); (case kban => simp only [List.length_cons, List.length_nil]; decide)); intro _ _ _ F' N' kbaIn))
theorem ct_b2a (w : World) (news : List (Addr × Obj)) (b : Array UInt8) (x y : Int) (t : Tok) (hb : KBw.bInts b = [0, x, y]) (hx : 0 ≤ x ∧ x < 256) (hy : 0 ≤ y ∧ y < 256) :
   Ask w 4 104 news [.bytes b t] (fun h₀ L m K => ∀ (bb : Array UInt8) (t : Tok) (h' : Heap) (tk' : Nat), bb = byteArr [65, sgn ((256 * x + y) / 4096), sgn ((256 * x + y) / 64 % 64), sgn ((256 * x + y) % 64)] → Fr h₀ L h' m → News h₀ L h' news → K (.bytes bb t) h' tk') [(Str.ofString "newline", .bool false)] := by
  unfold Ask
  k_fill
  w_top off
  intros; rename_i N _ _ _ _ hret
  refine wpAny_call ?_
  k_dflt (refine' keep_def (hid := []) (binds := [(Str.ofString "data", .bytes b t), (Str.ofString "newline", .bool false)]) N ?k1 ?k2 ?k3 News.nil ?k5 ?kA ?kF ?kK ?k6 ?k7 ?k8 ?k9 ?kB ?_ ?c2 ?c3 ?c4 ?c5)
  case kA => exact rfl
  case kF => exact rfl
  case kK => assumption
  case k1 => k_asm
  case k2 => k_asm
  case k3 => k_asm
  case k5 => k_asm
  case k6 => k_is
  case k7 => k_is
  case k8 => ktr_room
  case k9 => exact kp_binds (by k_in) (fun _ => rfl)
  case c5 => decide
  case kB => exact locs rfl
  case c2 => exact rfl
  case c3 => exact rfl
  case c4 => exact rfl
  intro g' L' h' FG' F' N' B' X' T' hG'
  (try dsimp only)
  (try k_lift B')
  (try k_fold)
  k_steps
  refine' hret _ _ _ _ ?e (by k_asm) (keep_back hG' N News.nil (by assumption) (by assumption) (fun _ h => nomatch h))
  have e0 : sgn ((0 * 256 + 0) / 4 % 64) = 65 := by decide
  have e1 : ((0 * 256 + 0) * 256 + x) / 16 % 64 = (256 * x + y) / 4096 := by omega
  have e2 : (((0 * 256 + 0) * 256 + x) * 256 + y) / 64 % 64 = (256 * x + y) / 64 % 64 := by omega
  have e3 : (((0 * 256 + 0) * 256 + x) * 256 + y) / 1 % 64 = (256 * x + y) % 64 := by omega
  rw [e0, e1, e2, e3]
end Mine
end
section
open PySem PySem.W PySem.Spec PySem.Calls PyProof.Rows
set_option maxRecDepth 100000
set_option maxHeartbeats 1000000
namespace Mine
local macro_rules | `(tactic| walk_at "own padding") => `(tactic| fail)
local macro_rules | `(tactic| walk_at "own padding") => `(tactic| fail)
local macro_rules | `(tactic| walk_at "own padding") => `(tactic| fail)
local macro_rules | `(tactic| walk_at "own padding") => `(tactic| fail)
local macro_rules | `(tactic| walk_at "own padding") => `(tactic| fail)
local macro_rules | `(tactic| walk_at "own padding") => `(tactic| fail)
local macro_rules | `(tactic| walk_at "own padding") => `(tactic| fail)
local macro_rules | `(tactic| walk_at "own padding") => `(tactic| fail)
local macro_rules | `(tactic| walk_at "own padding") => `(tactic| fail)
local macro_rules | `(tactic| k_room) => `(tactic| ktr_room)
local macro_rules | `(tactic| walk_at "call ref") => `(tactic| (k_here; (with_reducible show wpAny _ _ (call (Value.ref 104) [Value.bytes _ _] _) _ _ _); k_dflt (refine' ask_use (ct_b2a _ _ _ _ _ _ ?hb ?hx ?hy) ?B ?F ?X ?N ?T ?k ?d ?u ?_; (case hb => assumption); (case hx => assumption); (case hy => assumption); (case B => k_asm); (case F => k_asm); (case X => k_asm); (case N => k_asm); (case T => k_asm); (case k => exact rfl); (case d => ktr_room); (case u => ktr_units)); intro _ _ _ _ he F' N'; (try dsimp only)))
theorem ct_b64 (w : World) (news : List (Addr × Obj)) (b : Array UInt8) (x y : Int) (t : Tok) (hb : KBw.bInts b = [0, x, y]) (hx : 0 ≤ x ∧ x < 256) (hy : 0 ≤ y ∧ y < 256) :
   Ask w 8 112 news [.bytes b t] (fun h₀ L m K => ∀ (bb : Array UInt8) (t : Tok) (h' : Heap) (tk' : Nat), bb = byteArr [65, sgn ((256 * x + y) / 4096), sgn ((256 * x + y) / 64 % 64), sgn ((256 * x + y) % 64)] → Fr h₀ L h' m → News h₀ L h' news → K (.bytes bb t) h' tk') := by
  unfold Ask
  k_fill
  w_top off
  intros; rename_i N _ _ _ _ hret
  refine wpAny_call ?_
  k_dflt (refine' keep_def (hid := []) (binds := [(Str.ofString "s", .bytes b t), (Str.ofString "altchars", .none)]) N ?k1 ?k2 ?k3 News.nil ?k5 ?kA ?kF ?kK ?k6 ?k7 ?k8 ?k9 ?kB ?_ ?c2 ?c3 ?c4 ?c5)
  case kA => exact rfl
  case kF => exact rfl
  case kK => assumption
  case k1 => k_asm
  case k2 => k_asm
  case k3 => k_asm
  case k5 => k_asm
  case k6 => k_is
  case k7 => k_is
  case k8 => ktr_room
  case k9 => exact binds_K (by k_in) rfl (by k_is) rfl rfl rfl
  case c5 => decide
  case kB => exact locs rfl
  case c2 => exact rfl
  case c3 => exact rfl
  case c4 => exact rfl
  intro g' L' h' FG' F' N' B' X' T' hG'
  (try dsimp only)
  (try k_lift B')
  (try k_fold)
  k_steps
  refine' hret _ _ _ _ ?e (by k_asm) (keep_back hG' N News.nil (by assumption) (by assumption) (fun _ h => nomatch h))
  assumption
end Mine
end
section
open PySem PySem.W PySem.Spec PySem.Calls PyProof.Rows PySem.Builtin PySem.Builtin.Str
set_option maxRecDepth 100000
set_option maxHeartbeats 1000000
namespace Mine
section
variable {prog : Program} {w : World} {A : Around} {E : Value → Shared → Prop} {s : Shared} {h₀ : Heap} {L : Addr} {m : Str → Option Value} {news : List (Addr × Obj)} {t : Tok} {d : Addr} {f : Int → Option Value} {c : Nat}
theorem tl_keep {Q : Mapped → Shared → Prop} (hh : A.handled = none) (hd : (d == sysModules) = false) (hm : s.heap.MapOf (intKind prog w) d f) (hf : f c = none)
    (h : ∀ h' e tk, Heap.NewExc s.heap h' e "KeyError" → Q .keep { s with heap := h', toks := tk }) : wpAny (model prog w) A (tableLookup (.ref d) c) Q E s := by
  unfold tableLookup
  refine wpAny_bind (wpAny_attempt ?_)
  refine wpAny_bind (wpAny_mkInt ?_)
  refine wpAny_getItem_missing_of (knd := intKind prog w) (k := (c : Int)) (f := f) (intKind_is prog w c _) hd hh hm hf fun h' e hx => ?_
  dsimp only
  obtain ⟨ob, tt, h1, h2, h3⟩ := hx.there
  refine wpAny_bind (wpAny_isInstance (T := "KeyError") (b := true) ⟨ob, h1, h2⟩ (by rw [isSubtype_type]; kernel_rfl) ?_)
  rw [if_pos rfl]
  refine wpAny_bind (wpAny_rule ?_)
  exact wpAny_pure (h _ _ _ hx)
theorem tl_text {Q : Mapped → Shared → Prop} {x : Str} {u : Tok} (hm : s.heap.MapOf (intKind prog w) d f) (hf : f c = some (.str x u))
    (h : ∀ tk, Q (.text x) { s with toks := tk }) : wpAny (model prog w) A (tableLookup (.ref d) c) Q E s := by
  unfold tableLookup
  refine wpAny_bind (wpAny_attempt ?_)
  refine wpAny_bind (wpAny_mkInt ?_)
  refine wpAny_getItem_of (knd := intKind prog w) (k := (c : Int)) (f := f) (intKind_is prog w c _) hm hf ?_
  dsimp only
  refine wpAny_bind (show wpAny _ _ (notAStandIn (.str x u) >>= fun _ => pure none) _ _ _ from ?_)
  refine wpAny_bind (wpAny_of_eq (a := ()) (by rfl) (wpAny_pure ?_))
  dsimp only
  refine wpAny_bind (show wpAny _ _ (pure (some x)) _ _ _ from wpAny_pure ?_)
  dsimp only
  exact wpAny_pure (h _)
theorem tr_meets : MeetsIn prog w (Builtin.«str.translate» ⟨[.str ⟨#[c]⟩ t, .ref d], []⟩) (fun A R s => c < 128 ∧ A.handled = none ∧ ∃ f, (d == sysModules) = false ∧ s.heap.MapOf (intKind prog w) d f ∧
    ((f c = none ∧ ∀ h' e tk k, Heap.NewExc s.heap h' e "KeyError" → R (.ok (.ret (.str ⟨#[c]⟩ k))) { s with heap := h', toks := tk }) ∨
     (∃ x u, f c = some (.str x u) ∧ x.length = 2 ∧ ∀ tk k, R (.ok (.ret (.str x k))) { s with toks := tk }))) :=
  .of_wp fun A R s ⟨hc, hh, f, hd, hm, h⟩ => by
    unfold Builtin.«str.translate»
    refine wpAny_bind (wpAny_of_eq (a := (Value.str ⟨#[c]⟩ t, (⟨#[c]⟩ : Str), Value.ref d)) (by rfl) ?_)
    have l1 : ({ cps := #[c] } : Str).length = 1 := rfl
    have t0 : tooLong 0 = false := by decide
    have t1 : tooLong 1 = false := by decide
    have t2 : tooLong 2 = false := by decide
    simp only [l1]
    simp [hc, t0]
    rcases h with ⟨hf, h⟩ | ⟨x, u, hf, hx, h⟩
    · refine wpAny_bind (tl_keep hh hd hm hf fun h' e tk hx => ?_)
      simp [t1]
      refine wpAny_bind (wpAny_mkStr ?_ (by rw [sizeLine_eq]; show 1 ≤ 16777216; decide))
      exact wpAny_pure ⟨_, rfl, h _ _ _ _ hx⟩
    · refine wpAny_bind (tl_text hm hf fun tk => ?_)
      simp [hx]
      refine wpAny_bind (wpAny_rule ?_)
      refine wpAny_bind (tl_text hm hf fun tk => ?_)
      simp
      rw [hx, t2, if_neg (by decide)]
      refine wpAny_bind (wpAny_mkStr ?_ (by rw [sizeLine_eq, show (⟨x.cps⟩ : Str).length = 2 from hx]; decide))
      exact wpAny_pure ⟨_, rfl, h _ _⟩
theorem str_translate {Q : Value → Shared → Prop} (hc : c < 128) (hh : A.handled = none) (hd : (d == sysModules) = false) (hm : s.heap.MapOf (intKind prog w) d f) (Fm : Fr h₀ L s.heap m) (N : News h₀ L s.heap news) (y : Str)
    (hf : (f c = none ∧ y = ⟨#[c]⟩) ∨ (∃ u, f c = some (.str y u) ∧ y.length = 2)) (h : ∀ h' tk k, Fr h₀ L h' m → News h₀ L h' news → Q (.str y k) { s with heap := h', toks := tk }) :
    wpAny (model prog w) A (call (.builtin "str.translate") [.str ⟨#[c]⟩ t, .ref d]) Q E s := by
  refine call_meetsIn PySem.F.slot_str_translate (typeIs_str _ _ _) PySem.F.entry_str_translate (PySem.F.args_str_translate_2 _ _) tr_meets ⟨hc, hh, f, hd, hm, ?_⟩
  rcases hf with ⟨hf, rfl⟩ | ⟨u, hf, hy⟩
  · exact .inl ⟨hf, fun h' e tk k hx => h _ _ _ (Fm.keptAll hx.keeps) (N.grown hx.keeps)⟩
  · exact .inr ⟨y, u, hf, hy, fun tk k => h _ _ _ Fm N⟩
end
def map119 : List DictEntry := [(40, 442, 446), (41, 448, 452), (91, 454, 458), (93, 460, 464), (123, 466, 470), (125, 472, 476), (63, 478, 482), (42, 484, 488), (43, 490, 494), (45, 496, 500), (124, 502, 506), (94, 508, 512), (36, 514, 518), (92, 520, 524), (46, 526, 530), (38, 532, 536), (126, 538, 542), (35, 544, 548), (32, 550, 554), (9, 556, 560), (10, 562, 566), (13, 568, 572), (11, 574, 578), (12, 580, 584)].map fun (k, t, u) => ⟨(k : Nat), .int (k : Nat) t, .str ⟨#[92, k]⟩ u⟩
theorem lk119 (P : Params) : (kk P).lookup 119 = some ⟨.type "dict", none, .dict map119.toArray 24, #[]⟩ := by kernel_rfl
theorem keys119 : map119.all (fun e => match e.key with | .int k _ => e.hash == hashInt k | _ => false) = true := by decide +kernel
theorem at119 {prog : Program} {w : World} {h : Heap} {P : Params} (X : (kk P).In h) : h.MapOf (intKind prog w) 119 (fun k => findBy Value.isInt map119.toArray k) := by
  refine ⟨_, map119.toArray, _, X _ _ (lk119 P), ⟨rfl, rfl, rfl⟩, rfl, fun e he => ?_, fun _ => rfl⟩
  have := List.all_eq_true.mp keys119 e (by simpa using he)
  split at this
  · rename_i k t hk
    refine ⟨k, ?_, ?_⟩
    · rw [hk]; exact intKind_is prog w k t
    · exact eq_of_beq this
  · cases this
/-- what escape gives for a sign -/
def escOf (c : Nat) : Str := if c = 43 then ⟨#[92, 43]⟩ else ⟨#[c]⟩
/-- figures, letters, + and / -/
def Signs (c : Nat) : Bool := (48 ≤ c && c ≤ 57) || (65 ≤ c && c ≤ 90) || (97 ≤ c && c ≤ 122) || c == 47 || c == 43
theorem find119 : ∀ c : Nat, c < 128 → Signs c = true → c ≠ 43 → findBy Value.isInt map119.toArray (c : Int) = none := by decide +kernel
theorem find43 : findBy Value.isInt map119.toArray 43 = some (.str ⟨#[92, 43]⟩ 494) := by decide +kernel
theorem esc_found {c : Nat} (h : Signs c = true) : (findBy Value.isInt map119.toArray (c : Int) = none ∧ escOf c = ⟨#[c]⟩) ∨ (∃ u, findBy Value.isInt map119.toArray (c : Int) = some (.str (escOf c) u) ∧ (escOf c).length = 2) := by
  have hc : c < 128 := by
    unfold Signs at h
    simp at h
    omega
  by_cases e : c = 43
  · subst e
    exact .inr ⟨494, find43, rfl⟩
  · exact .inl ⟨find119 c hc h e, by unfold escOf; rw [if_neg e]⟩
end Mine
end
section
open PySem PySem.W PySem.Spec PySem.Calls PyProof.Rows
set_option maxRecDepth 100000
set_option maxHeartbeats 1000000
namespace Mine
local macro_rules | `(tactic| walk_at "own padding") => `(tactic| fail)
local macro_rules | `(tactic| walk_at "own padding") => `(tactic| fail)
local macro_rules | `(tactic| walk_at "own padding") => `(tactic| fail)
local macro_rules | `(tactic| walk_at "own padding") => `(tactic| fail)
local macro_rules | `(tactic| walk_at "own padding") => `(tactic| fail)
local macro_rules | `(tactic| walk_at "own padding") => `(tactic| fail)
local macro_rules | `(tactic| walk_at "own padding") => `(tactic| fail)
local macro_rules | `(tactic| walk_at "own padding") => `(tactic| fail)
local macro_rules | `(tactic| walk_at "own padding") => `(tactic| fail)
local macro_rules | `(tactic| k_room) => `(tactic| ktr_room)
theorem gm_translate {M : Model} {A : Around} {E : Value → Shared → Prop} {s : Shared} {x : Str} {t : Tok} {pl : Sem Bool} {Q : Value × List Value → Shared → Prop} (h : Q (.builtin "str.translate", [.str x t]) s) : wpAny M A (getMethod (.str x t) "translate" pl) Q E s := by
  with_reducible exact getMethod_builtin (typeIs_str _ _ _) PySem.F.plainAttrs_str PySem.F.slot_str_translate PySem.F.type_str_translate (fun _ e => nomatch e) h
local macro_rules | `(tactic| walk_at "getMethod str") => `(tactic| (k_here; (with_reducible refine gm_translate ?_)))
local macro_rules | `(tactic| walk_at "call builtin:str.translate") => `(tactic| (k_here; (with_reducible show wpAny _ _ (call (Value.builtin "str.translate") [Value.str _ _, Value.ref 119]) _ _ _); k_dflt (refine' str_translate ?a ?b (by decide) (at119 (Frag.In.keeps ?c (Fr.keep ?d))) ?F ?N (escOf _) (esc_found ?e) ?_; (case a => assumption); (case b => rfl); (case c => k_asm); (case d => k_asm); (case F => k_asm); (case N => k_asm); (case e => assumption)); intro _ _ _ F' N'))
theorem ct_escape (w : World) (news : List (Addr × Obj)) (c : Nat) (t : Tok) (hs : Signs c = true) (hc : c < 128) :
   Ask w 4 129 news [.str ⟨#[c]⟩ t] (fun h₀ L m K => ∀ (t : Tok) (h' : Heap) (tk' : Nat), Fr h₀ L h' m → News h₀ L h' news → K (.str (escOf c) t) h' tk') := by
  unfold Ask
  k_fill
  w_top off
  intros; rename_i N _ _ _ _ hret
  refine wpAny_call ?_
  k_dflt (refine' keep_def (hid := []) (binds := [(Str.ofString "pattern", .str ⟨#[c]⟩ t)]) N ?k1 ?k2 ?k3 News.nil ?k5 ?kA ?kF ?kK ?k6 ?k7 ?k8 ?k9 ?kB ?_ ?c2 ?c3 ?c4 ?c5)
  case kA => exact rfl
  case kF => exact rfl
  case kK => assumption
  case k1 => k_asm
  case k2 => k_asm
  case k3 => k_asm
  case k5 => k_asm
  case k6 => k_is
  case k7 => k_is
  case k8 => ktr_room
  case k9 => exact BindsTo.of_eq rfl
  case c5 => decide
  case kB => exact locs rfl
  case c2 => exact rfl
  case c3 => exact rfl
  case c4 => exact rfl
  intro g' L' h' FG' F' N' B' X' T' hG'
  (try dsimp only)
  (try k_lift B')
  (try k_fold)
  k_steps
  exact hret _ _ _ (by k_asm) (keep_back hG' N News.nil (by assumption) (by assumption) (fun _ h => nomatch h))
end Mine
end
section
open PySem PySem.W PySem.Spec PySem.Calls PyProof.Rows
set_option maxRecDepth 100000
set_option maxHeartbeats 1000000
namespace Mine
def boundOf (D : Addr) : Obj := { cls := .type "builtin_function_or_method", data := .fields #[.builtin "list.append", .ref D] }
theorem slot_md : Slot "method_descriptor" "__get__" "method_descriptor.__get__" :=
  .of (owner := "method_descriptor") (n := "__get__") (by rw [typeLookup_type, builtinLookup_eq_fast]; kernel_rfl) (by decide +kernel) (by decide +kernel) (by decide +kernel)
    (by first | exact .inl (by decide +kernel) | exact .inr (by decide +kernel)) (by rw [isSubtype_type]; kernel_rfl)
theorem md_set : typeLookup (.type "method_descriptor") "__set__" = pure none := by rw [typeLookup_type, builtinLookup_eq_fast]; kernel_rfl
theorem md_del : typeLookup (.type "method_descriptor") "__delete__" = pure none := by rw [typeLookup_type, builtinLookup_eq_fast]; kernel_rfl
theorem entry_md : entryFor table "method_descriptor.__get__" = some Builtin.«method_descriptor.__get__» := entryFor_of_tree (by kernel_rfl)
theorem args_md (a b c : Value) : argsOk "method_descriptor.__get__" ⟨[a, b, c], []⟩ := by unfold argsOk; kernel_rfl
theorem owner_append : ".".intercalate ("list.append".cutAt '.').dropLast = "list" := by decide +kernel
theorem sub_list_list : isSubtype (.type "list") (.type (".".intercalate ("list.append".cutAt '.').dropLast)) = pure true := by rw [owner_append, isSubtype_type]; kernel_rfl
theorem sub_list_module : isSubtype (.type "list") (.type "module") = pure false := by rw [isSubtype_type]; kernel_rfl
theorem sub_list_type : isSubtype (.type "list") (.type "type") = pure false := by rw [isSubtype_type]; kernel_rfl
theorem bound_args (a v : Value) : (match Manifest.signature? "list.append" with | some sig => Bind.checkArgs "list.append" { sig with full := "list.append" } ⟨[a, v], []⟩ | none => pure ()) = pure () := by kernel_rfl
section
variable {prog : Program} {w : World} {A : Around} {E : Value → Shared → Prop} {h : Heap} {g : Array GenState} {d : Drawn} {t : Nat} {os : OsState} {a : Addr} {o : Obj}
theorem md_get {R : Result → Shared → Prop} (hx : h.get? a = some o) (hc : o.cls = .type "list") (hq : R (.ok (.ret (.ref h.objs.size))) ⟨h.push (boundOf a), g, d, t, os⟩) :
    codeAny (model prog w) A (.call (.builtin "method_descriptor.__get__") ⟨[.builtin "list.append", .ref a, .type "list"], []⟩) R ⟨h, g, d, t, os⟩ := by
  have hT : (⟨h, g, d, t, os⟩ : Shared).TypeIs (.ref a) "list" := ⟨_, hx, hc⟩
  have hT5 : (⟨h, g, d, t, os⟩ : Shared).TypeIs (.builtin "list.append") "method_descriptor" := PySem.F.type_list_append
  have f8 := sub_list_list
  refine codeAny_call_builtin slot_md.plain entry_md (slot_md.check _ _ _ _ _ _ _ _ hT5 (args_md _ _ _) ?_)
  unfold Builtin.«method_descriptor.__get__»
  repeat (any_goals (first | assumption | wp_step))
theorem ga_append {tk : Tok} {Q : Fin → Shared → Prop} {n : Nat} {xs : Array Value} {sl : Array (Option Value)} (hx : h.get? a = some { cls := .type "list", dict := none, data := .seq xs n, slots := sl }) (hq : Q (.done (.ret (.ref h.objs.size))) ⟨h.push (boundOf a), g, d, t, os⟩) :
    wpAny (model prog w) A (Builtin.«object.__getattribute__» ⟨[.ref a, .str "append" tk], []⟩) Q E ⟨h, g, d, t, os⟩ := by
  have hT : (⟨h, g, d, t, os⟩ : Shared).TypeIs (.ref a) "list" := ⟨_, hx, rfl⟩
  have hT5 : (⟨h, g, d, t, os⟩ : Shared).TypeIs (.builtin "list.append") "method_descriptor" := PySem.F.type_list_append
  have f4 := PySem.F.slot_list_append.lookup
  have f5 := PySem.F.type_list_append
  have f6 := slot_md.lookup
  have f7 := md_set
  have f8 := md_del
  unfold Builtin.«object.__getattribute__»
  repeat (any_goals (first | assumption | wp_step))
  refine md_get hx rfl ?_
  repeat (any_goals (first | assumption | wp_step))
theorem getattr_append {Q : Value → Shared → Prop} {n : Nat} {xs : Array Value} {sl : Array (Option Value)} (hx : h.get? a = some { cls := .type "list", dict := none, data := .seq xs n, slots := sl }) (hq : Q (.ref h.objs.size) ⟨h.push (boundOf a), g, d, t + 1, os⟩) :
    wpAny (model prog w) A (getAttr (.ref a) "append" true) Q E ⟨h, g, d, t, os⟩ := by
  have hT : ∀ tk', (⟨h, g, d, tk', os⟩ : Shared).TypeIs (.ref a) "list" := fun _ => ⟨_, hx, rfl⟩
  have f3 := PySem.F.slot_list_getattribute.lookup
  have f4 := PySem.F.slot_list_getattribute.bind (.ref a)
  unfold getAttr getAttrBy
  repeat (any_goals (first | assumption | exact hT _ | wp_step))
  refine codeAny_call_builtin PySem.F.slot_list_getattribute.plain PySem.F.entry_list_ga (PySem.F.slot_list_getattribute.check _ _ _ _ _ _ _ _ (show (⟨h, g, d, t + 1, os⟩ : Shared).TypeIs (.ref a) "list" from ⟨_, hx, rfl⟩) (PySem.F.args_list_getattribute_2 _ _) (ga_append hx ?_))
  exact wpAny_pure hq
end
section
variable {prog : Program} {w : World} {M : Model} {A : Around} {E : Value → Shared → Prop} {s : Shared} {h₀ : Heap} {L D x : Addr} {m : Str → Option Value} {news news' : List (Addr × Obj)} {its : Array Value} {n : Nat}
theorem get_append {Q : Value → Shared → Prop} (F : Fr h₀ L s.heap m) (N : News h₀ L s.heap news) (hm : (D, listOf its n) ∈ news) (h : ∀ x h' tk, Fr h₀ L h' m → News h₀ L h' ((x, boundOf D) :: news) → (∀ p ∈ news, p.1 < x) → Q (.ref x) { s with heap := h', toks := tk }) :
    wpAny (model prog w) A (getAttr (.ref D) "append" true) Q E s := by
  obtain ⟨hp, g, d, t, os⟩ := s
  exact getattr_append (sl := #[]) (N.get hm) (h _ _ _ (F.push _) (N.push F _) fun p hp => Heap.lt_size (N p hp).1)
def BoundAt (x D : Addr) (h : Heap) : Prop := h.get? x = some (boundOf D)
theorem boundAt_of {h : Heap} (N : News h₀ L h news) (hm : (x, boundOf D) ∈ news) : BoundAt x D h := N.get hm
theorem callWith_fieldsB {pos : Pos} {first : List Value} {args : List (Bool × Sem Value)} {Q : Value → Shared → Prop} (hplain : args.any (·.1) = false)
    (h : wpAny M A (evalArgs (.ref x) true args []) (fun v s₁ => BoundAt x D s₁.heap ∧ wpAny M A (call (.ref x) (first ++ v.pos) v.kw) Q E s₁) E s) : wpAny M A (callWith pos (.ref x) first args []) Q E s := by
  unfold callWith
  refine wpAny_bind (wpAny_holding (wpAny_mono h (fun x s₁ h₁ => wpAny_bind (wpAny_standAt ?_)) fun _ _ x => x))
  obtain ⟨ho, hcall⟩ := h₁
  simp only [hplain, List.any_nil, Bool.or_false]
  refine wpAny_bind (m := keeperOf (.ref _)) ?_
  unfold keeperOf
  refine wpAny_bind (wpAny_load ho ?_)
  simp only [boundOf, show (Value.type "builtin_function_or_method" != Value.type "method") = true by decide, show (Value.type "builtin_function_or_method" == Value.type "builtin_function_or_method" || Value.type "builtin_function_or_method" == Value.type "method-wrapper") = true by decide, if_true]
  refine wpAny_pure ?_
  exact wpAny_bind (wpAny_mono hcall (fun r s₂ hr => wpAny_bind (wpAny_holding (wpAny_point (wpAny_pure hr)))) fun _ _ x => x)
theorem callWith_bound {pos : Pos} {first : List Value} {env : Env} {e : PySem.Expr} {Q : Value → Shared → Prop} (_N : News h₀ L s.heap news) (_hm : (x, boundOf D) ∈ news)
    (h : wpAny M A (spliced (backTo pos (starEach [e] env))) (fun vs s₁ => BoundAt x D s₁.heap ∧ wpAny M A (call (.ref x) (first ++ vs)) Q E s₁) E s)
    (he : starEach [e] env = (false, eval e env) :: starEach [] env := by rfl) (hplain : (backTo pos (starEach [] env)).any (·.1) = false := by rfl) :
    wpAny M A (callWith pos (.ref x) first (backTo pos (starEach [e] env)) []) Q E s := by
  rw [he] at h ⊢
  refine callWith_fieldsB (D := D) (by show (false || (backTo pos (starEach [] env)).any (·.1)) = false; rw [hplain]; rfl) ?_
  exact evalArgs_plain h
theorem kind_append : builtinKind "list.append" = some .method := by decide +kernel
theorem var_append : Manifest.varargsMethods.contains "list.append" = false := by decide +kernel
theorem check_append {v : Value} {Q : Unit → Shared → Prop} (hx : s.heap.get? D = some (listOf its n)) (hq : Q () s) : wpAny M A (checkBoundCall "list.append" ⟨[.ref D, v], []⟩) Q E s := by
  have hT : s.TypeIs (.ref D) "list" := ⟨_, hx, rfl⟩
  unfold checkBoundCall
  cases hs : Manifest.signature? "list.append" with
  | none => exact wpAny_pure hq
  | some sig =>
    have hb := bound_args (.ref D) v
    rw [hs] at hb
    simp only [kind_append]
    rw [if_neg (by decide)]
    refine wpAny_bind (wpAny_isInstance hT sub_list_module ?_)
    rw [var_append, if_neg (by decide)]
    unfold isType
    refine wpAny_bind (wpAny_bind (wpAny_loadPart (part := some headPart) hx (wpAny_pure ?_)))
    rw [if_neg (show ¬ (false = true) from by decide)]
    refine wpAny_bind (wpAny_typeOf hT ?_)
    exact wpAny_of_eq (a := ()) hb hq
theorem quiet_append {as : Args} : (Code.builtin "list.append" as).quiet = true := Code.quiet_builtin _ (by decide +kernel)
theorem call_bound {v : Value} {Q : Value → Shared → Prop} (F : Fr h₀ L s.heap m) (N : News h₀ L s.heap news) (hm : (x, boundOf D) ∈ news) (U : Upd D (listOf its n) (listOf (its.push v) (n + 1)) news news')
    (h : ∀ h', Fr h₀ L h' m → News h₀ L h' news' → Q .none { s with heap := h' }) (hsz : its.size ≤ sizeLine) : wpAny (model prog w) A (call (.ref x) [v]) Q E s := by
  obtain ⟨pre, post, rfl, rfl, a, b⟩ := U.split
  have z := N (D, listOf its n) (List.mem_append.mpr (.inr (.head _)))
  refine wpAny_call (codeAny_of_tree ?_)
  show wpAny _ A.in1 (callAny (.ref x) ⟨[v], []⟩) _ _ s
  simp only [callAny]
  refine wpAny_bind (wpAny_load (N.get hm) ?_)
  simp only [boundOf, show (Value.type "builtin_function_or_method" == Value.type "method" || Value.type "builtin_function_or_method" == Value.type "builtin_function_or_method" || Value.type "builtin_function_or_method" == Value.type "method-wrapper") = true by decide, if_true]
  refine KFB.if_so (by decide) ?_
  refine wpAny_bind (check_append z.1 ?_)
  refine wpAny_bind (wpAny_pure (wpAny_pure ?_))
  refine ⟨quiet_append, codeAny_builtin entry_list_append ?_⟩
  show wpAny _ _ (updateSeq D (·.push v) >>= fun _ => ret .none) _ _ s
  refine wpAny_bind ?_
  refine wpAny_updateSeq z.1 rfl (wpAny_pure (h _ (F.change (Heap.SameBut.update ..) z.2.1 z.2.2) (news_set N a b (Heap.SameBut.update ..) ?_)))
  rw [Heap.get?_update_self _ z.1 (by rw [Obj.mapSeq_push_plain]; rfl), Obj.mapSeq_push_plain]
end
end Mine
end
section
open PySem PySem.W PySem.Spec PySem.Calls PyProof.Rows
set_option maxRecDepth 100000
set_option maxHeartbeats 1000000
namespace Mine
local macro_rules | `(tactic| walk_at "own padding") => `(tactic| fail)
local macro_rules | `(tactic| walk_at "own padding") => `(tactic| fail)
local macro_rules | `(tactic| walk_at "own padding") => `(tactic| fail)
local macro_rules | `(tactic| walk_at "own padding") => `(tactic| fail)
theorem sg_star {c : Nat} (h : Signs c = true) : ((⟨#[c]⟩ : Str) == Str.ofString "*") = false := one_ne (d := 42) (by decide +kernel) (by rintro rfl; exact absurd h (by decide))
theorem sg_ask {c : Nat} (h : Signs c = true) : ((⟨#[c]⟩ : Str) == Str.ofString "?") = false := one_ne (d := 63) (by decide +kernel) (by rintro rfl; exact absurd h (by decide))
theorem sg_open {c : Nat} (h : Signs c = true) : ((⟨#[c]⟩ : Str) == Str.ofString "[") = false := one_ne (d := 91) (by decide +kernel) (by rintro rfl; exact absurd h (by decide))
theorem sg_lt {c : Nat} (h : Signs c = true) : c < 128 := by
  unfold Signs at h
  simp at h
  omega
local macro_rules | `(tactic| k_room) => `(tactic| ktr_room)
local macro_rules | `(tactic| walk_at "call ref") => `(tactic| (k_here; (with_reducible show wpAny _ _ (call (Value.ref 129) [Value.str _ _] _) _ _ _); k_dflt (refine' ask_use (ct_escape _ _ _ _ ?hs (sg_lt ?hs)) ?B ?F ?X ?N ?T ?k ?d ?u ?_; (case hs => assumption); (case B => k_asm); (case F => k_asm); (case X => k_asm); (case N => k_asm); (case T => k_asm); (case k => exact rfl); (case d => ktr_room); (case u => ktr_units)); intro _ _ _ F' N'; (try dsimp only)))
local macro_rules | `(tactic| walk_at "call builtin:len") => `(tactic| (k_here; (with_reducible show wpAny _ _ (call (Value.builtin "len") [Value.str (Str.mk _) _]) _ _ _); (first | (refine len_is (n := 3) rfl (by decide) ?_) | (refine len_is (n := 4) rfl (by decide) ?_)); intro _ _))
local macro_rules | `(tactic| walk_at "subscriptTail Name Name str int") => `(tactic| (k_here; first | refine it3_0 (by decide) ?_ | refine it3_1 (by decide) ?_ | refine it3_2 (by decide) ?_ | refine it4_0 (by decide) ?_ | refine it4_1 (by decide) ?_ | refine it4_2 (by decide) ?_ | refine it4_3 (by decide) ?_))
local macro_rules | `(tactic| walk_at "compareOp Eq str str") => `(tactic| (k_here; first | (refine eq_is (b := true) (by decide +kernel) ?_) | (refine eq_is (b := false) (by decide +kernel) ?_) | (refine eq_is (sg_star (by assumption)) ?_) | (refine eq_is (sg_ask (by assumption)) ?_) | (refine eq_is (sg_open (by assumption)) ?_)))
local macro_rules | `(tactic| walk_at "getAttr ref") => `(tactic| (k_here; (with_reducible show wpAny _ _ (getAttr (Value.ref _) (PySem.Str.ofString "append") _) _ _ _); k_dflt (refine' get_append ?F ?N ?m ?_; (case F => k_asm); (case N => k_asm); (case m => k_mem); k_whole); intro x' h' tk' F' N' l1; (try k_lt l1); (try k_sweep)))
local macro_rules | `(tactic| walk_at "callWith ref") => `(tactic| (k_here; (with_reducible show wpAny _ _ (callWith _ (Value.ref _) _ (backTo _ (starEach [_] _)) []) _ _ _); k_dflt (refine' callWith_bound ?N ?M ?_; (case N => k_asm); (case M => k_mem); k_whole)))
local macro_rules | `(tactic| walk_at "And") => `(tactic| ((with_reducible show BoundAt _ _ _ ∧ _); k_dflt (refine ⟨boundAt_of (by k_asm) (by k_mem), ?_⟩); (try dsimp only [List.nil_append, List.cons_append])))
local macro_rules | `(tactic| walk_at "call ref") => `(tactic| (k_here; (with_reducible show wpAny _ _ (call (Value.ref _) [_] _) _ _ _); k_dflt (refine' call_bound ?F ?N ?m ?U ?_ ?z; (case F => k_asm); (case N => k_asm); (case m => k_mem); (case U => k_upd); (case z => rw [sizeLine_eq]; exact Nat.le_of_ble_eq_true rfl); k_whole); intro h' F' N'; (try k_sweep)))
theorem ct_tr1 (w : World) (news : List (Addr × Obj)) (a b : Nat) (t t1 t2 : Tok) (ha : Signs a = true) (hb : Signs b = true) :
   Ask w 8 136 news [.str ⟨#[42, a, b]⟩ t, .str (Str.ofString "*") t1, .str (Str.ofString "?") t2] (fun h₀ L m K => ∀ (D : Addr) (u1 u2 u3 : Tok) (c : Nat) (h' : Heap) (tk' : Nat), Fr h₀ L h' m → News h₀ L h' ((D, listOf #[.str (Str.ofString "*") u1, .str (escOf a) u2, .str (escOf b) u3] c) :: news) → AllNe D news → K (.ref D) h' tk') := by
  unfold Ask
  k_fill
  w_top off
  intros; rename_i N _ _ _ _ hret
  refine wpAny_call ?_
  k_dflt (refine' keep_def (hid := []) (binds := [(Str.ofString "pat", .str ⟨#[42, a, b]⟩ t), (Str.ofString "STAR", .str (Str.ofString "*") t1), (Str.ofString "QUESTION_MARK", .str (Str.ofString "?") t2)]) N ?k1 ?k2 ?k3 News.nil ?k5 ?kA ?kF ?kK ?k6 ?k7 ?k8 ?k9 ?kB ?_ ?c2 ?c3 ?c4 ?c5)
  case kA => exact rfl
  case kF => exact rfl
  case kK => assumption
  case k1 => k_asm
  case k2 => k_asm
  case k3 => k_asm
  case k5 => k_asm
  case k6 => k_is
  case k7 => k_is
  case k8 => ktr_room
  case k9 => exact BindsTo.of_eq rfl
  case c5 => decide
  case kB => exact locs rfl
  case c2 => exact rfl
  case c3 => exact rfl
  case c4 => exact rfl
  intro g' L' h' FG' F' N' B' X' T' hG'
  (try dsimp only)
  (try k_lift B')
  (try k_fold)
  k_steps
  refine' hret _ _ _ _ _ _ _ (by k_asm) ?N ?l
  case N => (refine' news_cons ?n ?m (keep_back hG' N News.nil (by assumption) ?n (fun _ h => nomatch h)); (case n => assumption); (case m => k_mem))
  case l => (refine' ne_back hG' ?n ?m (by simp); (case n => assumption); (case m => k_mem))
theorem ct_tr2 (w : World) (news : List (Addr × Obj)) (a : Nat) (t t1 t2 : Tok) (ha : Signs a = true) :
   Ask w 8 136 news [.str ⟨#[63, 63, 63, a]⟩ t, .str (Str.ofString "*") t1, .str (Str.ofString "?") t2] (fun h₀ L m K => ∀ (D : Addr) (u1 u2 u3 u4 : Tok) (c : Nat) (h' : Heap) (tk' : Nat), Fr h₀ L h' m → News h₀ L h' ((D, listOf #[.str (Str.ofString "?") u1, .str (Str.ofString "?") u2, .str (Str.ofString "?") u3, .str (escOf a) u4] c) :: news) → AllNe D news → K (.ref D) h' tk') := by
  unfold Ask
  k_fill
  w_top off
  intros; rename_i N _ _ _ _ hret
  refine wpAny_call ?_
  k_dflt (refine' keep_def (hid := []) (binds := [(Str.ofString "pat", .str ⟨#[63, 63, 63, a]⟩ t), (Str.ofString "STAR", .str (Str.ofString "*") t1), (Str.ofString "QUESTION_MARK", .str (Str.ofString "?") t2)]) N ?k1 ?k2 ?k3 News.nil ?k5 ?kA ?kF ?kK ?k6 ?k7 ?k8 ?k9 ?kB ?_ ?c2 ?c3 ?c4 ?c5)
  case kA => exact rfl
  case kF => exact rfl
  case kK => assumption
  case k1 => k_asm
  case k2 => k_asm
  case k3 => k_asm
  case k5 => k_asm
  case k6 => k_is
  case k7 => k_is
  case k8 => ktr_room
  case k9 => exact BindsTo.of_eq rfl
  case c5 => decide
  case kB => exact locs rfl
  case c2 => exact rfl
  case c3 => exact rfl
  case c4 => exact rfl
  intro g' L' h' FG' F' N' B' X' T' hG'
  (try dsimp only)
  (try k_lift B')
  (try k_fold)
  k_steps
  refine' hret _ _ _ _ _ _ _ _ (by k_asm) ?N ?l
  case N => (refine' news_cons ?n ?m (keep_back hG' N News.nil (by assumption) ?n (fun _ h => nomatch h)); (case n => assumption); (case m => k_mem))
  case l => (refine' ne_back hG' ?n ?m (by simp); (case n => assumption); (case m => k_mem))
end Mine
end
section
open PySem PySem.W PySem.Spec PySem.Calls PyProof.Rows
set_option maxRecDepth 100000
set_option maxHeartbeats 1000000
namespace Mine
section
variable {prog : Program} {w : World} {A : Around} {E : Value → Shared → Prop} {s : Shared} {env : Env} {h₀ : Heap} {target : PySem.Expr} {body : List Stmt} {Q : Flow → Shared → Prop}
/-- a turn's end: the next invariant holds -/
def TurnEnd (h₀ : Heap) (L : Addr) (I : Addr) (it : Obj) (J : (Str → Option Value) → List (Addr × Obj) → Prop) (s : Shared) (f : Flow) (s₃ : Shared) : Prop :=
  f = .next ∧ ∃ h' tk m₂ news₂, s₃ = { s with heap := h', toks := tk } ∧ Fr h₀ L h' m₂ ∧ News h₀ L h' ((I, it) :: news₂) ∧ (∀ p ∈ news₂, p.1 ≠ I) ∧ J m₂ news₂
theorem TurnEnd.intro {L I : Addr} {it : Obj} {J : (Str → Option Value) → List (Addr × Obj) → Prop} {s : Shared} {h' : Heap} {tk : Nat} {m₂ : Str → Option Value} {all : List (Addr × Obj)} (news₂ : List (Addr × Obj))
    (F : Fr h₀ L h' m₂) (N : News h₀ L h' all) (hs : ∀ p ∈ (I, it) :: news₂, p ∈ all) (hI : ∀ p ∈ news₂, p.1 ≠ I) (hJ : J m₂ news₂) : TurnEnd h₀ L I it J s .next { s with heap := h', toks := tk } :=
  ⟨rfl, h', tk, m₂, news₂, rfl, F, fun p hp => N p (hs p hp), hI, hJ⟩
set_option maxHeartbeats 3200000 in
/-- a for over a list of the ledger, its target any, by an invariant over the turn's number -/
theorem list_iterT {l : Addr} {vs : List Value} {nn : Nat} {m₀ : Str → Option Value} {news : List (Addr × Obj)} (J : Nat → (Str → Option Value) → List (Addr × Obj) → Prop)
    (hh : A.handled = none) (hl : (l, listOf vs.toArray nn) ∈ news) (F : Fr h₀ env.locals s.heap m₀) (N : News h₀ env.locals s.heap news) (hj : J 0 m₀ news)
    (keepL : ∀ i m news, J i m news → (l, listOf vs.toArray nn) ∈ news)
    (turn : ∀ i v m₁ news₁ s₁ I it, vs[i]? = some v → (∀ p ∈ news₁, p.1 ≠ I) → J i m₁ news₁ → Fr h₀ env.locals s₁.heap m₁ → News h₀ env.locals s₁.heap ((I, it) :: news₁) →
      wpAny (model prog w) A (assign target env v) (fun _ s₃ => wpAny (model prog w) A (execs body env) (TurnEnd h₀ env.locals I it (J (i + 1)) s₁) E s₃) E s₁)
    (done : ∀ m₁ news₁ h tk, J vs.length m₁ news₁ → Fr h₀ env.locals h m₁ → News h₀ env.locals h news₁ → Q .next { s with heap := h, toks := tk }) :
    wpAny (model prog w) A (pyIter (.ref l)) (fun it s₂ => LoopAtT prog w A h₀ env target body Q E it s₂) E s := by
  have hol : s.heap.get? l = some (listOf vs.toArray nn) := (N _ hl).1
  have hls : s.heap.IsList l vs.toArray := ⟨_, hol, rfl, nn, rfl⟩
  have hne : l ≠ s.heap.objs.size := Nat.ne_of_lt (Heap.lt_size hol)
  refine wpAny_pyIter_list hls ?_
  have W := Walks.list (prog := prog) (w := w) hh s.heap.objs.size l hne vs.toArray
  have hlen : vs.toArray.size = vs.length := by simp
  rw [hlen] at W
  refine ⟨_, _, _, vs.length, _, _, m₀, news, J, rfl, W, ?_, ?_, ?_, ⟨⟨_, Heap.get?_push_size _ rfl, rfl, rfl⟩, hls.at fun o e => Heap.get?_push_of_some _ e⟩, F.push _, (fun p hp => ⟨Heap.get?_push_of_some _ (N p hp).1, (N p hp).2⟩), (fun i s' v Q' st hQ' => letGo_listiter st.1 hQ'), hj, ?_, ?_⟩
  · intro hm
    rcases List.mem_cons.mp hm with e | hm
    · exact absurd F.ns.lt (e ▸ Nat.lt_irrefl _)
    · exact (N _ hl).2.1 ((List.mem_singleton.mp hm).symm)
  · intro b hb
    rw [List.mem_singleton.mp hb]
    exact next_is_new F
  · intro p hp hI
    exact absurd (Heap.lt_size (N p hp).1) ((List.mem_singleton.mp hI) ▸ Nat.lt_irrefl _)
  · intro i v m₁ news₁ s₁ own hin hP hJ hoff hown hget hfp hst F₁ N₁
    have hP' : vs[i]? = some v := by simpa using hP
    have hI0 : h₀.get? s.heap.objs.size = none := next_is_new F
    obtain ⟨⟨oI, hoI, _⟩, _⟩ := id hst
    have hIown : (s.heap.objs.size, oI) ∈ own := hfp _ (List.mem_cons.mpr (.inl rfl)) hI0 _ hoI
    have hoffI : ∀ p ∈ news₁, p.1 ≠ s.heap.objs.size := fun p hp e => hoff p hp (List.mem_singleton.mpr e)
    have N₂ : News h₀ env.locals s₁.heap ((s.heap.objs.size, oI) :: news₁) := fun p hp => (List.mem_cons.mp hp).elim (fun e => e ▸ N₁ _ (List.mem_append_left _ hIown)) fun h => N₁ p (List.mem_append_right _ h)
    refine wpAny_mono (turn i v m₁ news₁ s₁ _ oI hP' hoffI hJ F₁ N₂) (fun _ s₂ h₂ => wpAny_mono h₂ (fun f s₃ h₃ => ?_) fun _ _ e => e) fun _ _ e => e
    obtain ⟨rfl, h', tk, m₂, news₂, e, F₃, N₃, hI₃, hJ₃⟩ := h₃
    refine ⟨rfl, h', tk, m₂, news₂, e, F₃, fun p hp => ?_, fun p hp hq => hI₃ p hp (List.mem_singleton.mp hq), hJ₃⟩
    rcases List.mem_append.mp hp with hp | hp
    · have h2 : s₁.heap.get? p.1 = some p.2 := hget p hp
      rcases List.mem_cons.mp (hown p hp) with e1 | e1
      · have e2 : p = (s.heap.objs.size, oI) := Prod.ext e1 (by rw [e1, hoI] at h2; exact (Option.some.inj h2).symm)
        rw [e2]
        exact N₃ _ (.head _)
      · have e1 := List.mem_singleton.mp e1
        have h3 := (N₂ _ (List.mem_cons_of_mem _ (keepL i m₁ news₁ hJ))).1
        have e2 : p = (l, listOf vs.toArray nn) := Prod.ext e1 (by rw [e1] at h2; exact Option.some.inj (h2.symm.trans h3))
        rw [e2]
        exact N₃ _ (List.mem_cons_of_mem _ (keepL (i + 1) m₂ news₂ hJ₃))
    · exact N₃ p (List.mem_cons_of_mem _ hp)
  · rintro h' tk m' news' F' N' _ hJ
    exact done m' news' h' tk hJ F' N'
end
end Mine
end
section
open PySem PySem.W PySem.Spec PySem.Calls PyProof.Rows
set_option maxRecDepth 100000
set_option maxHeartbeats 1000000
namespace Mine
section
variable {prog : Program} {w : World} {A : Around} {E : Value → Shared → Prop} {s : Shared} {h₀ : Heap} {L D : Addr} {news : List (Addr × Obj)} {x : Str} {t u v : Tok} {Q : Value → Shared → Prop} {value slice : PySem.Expr}
theorem one_beq (a b : Nat) : ((⟨#[a]⟩ : Str) == ⟨#[b]⟩) = decide (a = b) := by
  by_cases h : a = b
  · subst h; simp
  · rw [decide_eq_false h]; exact one_ne rfl h
theorem in_two {ev dj n : Nat} (N : News h₀ L s.heap news) (hm : (D, listOf #[.str (Str.ofString "?") u, .str ⟨#[dj]⟩ v] n) ∈ news) (h : Q (.bool (decide (ev = 63 ∨ dj = ev))) s) :
    wpAny (model prog w) A (compareOp .In (.str ⟨#[ev]⟩ t) (.ref D)) Q E s := by
  refine in_list_strs (vs := [.str (Str.ofString "?") u, .str ⟨#[dj]⟩ v]) (PySem.IsL.isList (n := n) (N _ hm).1) (.cons _ _ (.cons _ _ .nil)) ?_
  have e : ([Str.ofString "?", ⟨#[dj]⟩].any (· == (⟨#[ev]⟩ : Str))) = decide (ev = 63 ∨ dj = ev) := by
    rw [List.any_cons, List.any_cons, List.any_nil, show Str.ofString "?" = ⟨#[63]⟩ from by decide +kernel, one_beq, one_beq, Bool.or_false]
    by_cases h1 : ev = 63 <;> by_cases h2 : dj = ev <;> simp [h1, h2, eq_comm]
  rw [e]
  exact h
theorem it_sym {i : Int} (h0 : 0 ≤ i) (h1 : i < (x.length : Int)) (hl : (x.length : Int) < 2 ^ 62) (h : Q (.str ⟨#[x.cps.getD i.toNat 0]⟩ s.toks) { s with toks := s.toks + 1 })
    (hs : subscripted slice false (.str x t) (.int i u) = operate [.str x t, .int i u] (getItem (.str x t) (.int i u)) := by with_unfolding_all rfl)
    (ht : ∀ r, letTemporaryGo value (.str x t) r = pure () := by intro _; with_unfolding_all rfl) :
    wpAny (model prog w) A (subscriptTail value slice (.str x t) (.int i u)) Q E s := by
  refine item_is (y := ⟨#[x.cps.getD i.toNat 0]⟩) ?_ (by unfold fitsSsize; simp; omega) (by omega) h1 h hs ht
  unfold Txt.item Txt.charAt
  rw [StrLaws.seqIndex_nonneg h0 h1]
  have hlt : i.toNat < x.cps.size := by
    have : (x.length : Int) = x.cps.size := rfl
    omega
  simp [hlt]
theorem it_sym4 {x0 x1 x2 x3 : Nat} {i : Int} (h0 : 0 ≤ i) (h1 : i < 4) (h : Q (.str ⟨#[#[x0, x1, x2, x3].getD i.toNat 0]⟩ s.toks) { s with toks := s.toks + 1 })
    (hs : subscripted slice false (.str ⟨#[x0, x1, x2, x3]⟩ t) (.int i u) = operate [.str ⟨#[x0, x1, x2, x3]⟩ t, .int i u] (getItem (.str ⟨#[x0, x1, x2, x3]⟩ t) (.int i u)) := by with_unfolding_all rfl)
    (ht : ∀ r, letTemporaryGo value (.str ⟨#[x0, x1, x2, x3]⟩ t) r = pure () := by intro _; with_unfolding_all rfl) :
    wpAny (model prog w) A (subscriptTail value slice (.str ⟨#[x0, x1, x2, x3]⟩ t) (.int i u)) Q E s :=
  it_sym h0 h1 (show ((4 : Nat) : Int) < 2 ^ 62 from by decide) h hs ht
/-- the last sign of a part -/
def LastIs (x : Str) (ev : Nat) : Prop := 1 ≤ x.length ∧ (x.length : Int) < 2 ^ 62 ∧ Txt.item x (-1) = ⟨#[ev]⟩
theorem it_last {ev : Nat} {i : Int} (hi : i = -1) (hl : LastIs x ev) (h : Q (.str ⟨#[ev]⟩ s.toks) { s with toks := s.toks + 1 })
    (hs : ∀ i, subscripted slice false (.str x t) (.int i u) = operate [.str x t, .int i u] (getItem (.str x t) (.int i u)) := by intro _; with_unfolding_all rfl)
    (ht : ∀ r, letTemporaryGo value (.str x t) r = pure () := by intro _; with_unfolding_all rfl) :
    wpAny (model prog w) A (subscriptTail value slice (.str x t) (.int i u)) Q E s := by
  subst hi
  exact item_is hl.2.2 (by decide) (by have := hl.1; omega) (by have := hl.1; omega) h (hs _) ht
end
theorem list_r5 {prog : Program} {w : World} {A : Around} {E : Value → Shared → Prop} {s : Shared} {h₀ : Heap} {L r : Addr} {m : Str → Option Value} {news : List (Addr × Obj)} {t u v : Tok} {Q : Value → Shared → Prop} (hh : A.handled = none) (F : Fr h₀ L s.heap m) (N : News h₀ L s.heap news) (hr : IsRange s.heap r 0 5 1 t u v)
    (h : ∀ D ys c h' tk, IntsAre ys [0, 1, 2, 3, 4] → Fr h₀ L h' m → News h₀ L h' ((D, listOf ys.toArray c) :: news) → (∀ p ∈ news, p.1 < D) → Q (.ref D) { s with heap := h', toks := tk }) : wpAny (model prog w) A (call (.type "list") [.ref r]) Q E s := by
  refine list_rangeD (n := 5) hh F N hr (by decide) (by decide) (by decide) fun h' tk ys F' N' hk hn hl hp hc => ?_
  obtain ⟨⟨c, ho⟩, hne⟩ := hp
  refine h _ ys c h' tk (CarriedAll.intsOf hc) F' (fun p hp => ?_) fun p hp => Heap.lt_size (N p hp).1
  rcases List.mem_cons.mp hp with rfl | hp
  · exact ⟨ho, fun e => absurd F.ns.lt (by rw [← e]; exact Nat.lt_irrefl _), hn⟩
  · exact N' p hp
theorem hid_one {h₀ h : Heap} {L : Addr} {news : List (Addr × Obj)} {q : Addr × Obj} (N : News h₀ L h news) (hq : q ∈ news) : News h₀ L h [q] := fun p hp => N p ((List.mem_singleton.mp hp) ▸ hq)
def TJ (L' P : Addr) (pobj : Obj) (tx : Str) (tt : Tok) (S : Nat → List Int) (i : Nat) (m : Str → Option Value) (news : List (Addr × Obj)) : Prop :=
  ∃ R vs c oP oT xP, news = [(R, listOf vs.toArray c), (L' + 1 + 1, oP), (L' + 1, oT), (P, pobj)] ∧ IntsAre vs (S i) ∧ oT.data = .cell (some (.str tx tt)) ∧ oP.data = .cell xP ∧ (@Ne Nat R (L' + 1 + 1)) ∧ (@Ne Nat R (L' + 1)) ∧ (@Ne Nat R P) ∧ (@LT.lt Nat _ P L') ∧ m (Str.ofString "reach") = some (.ref R)
theorem map_with {m : Str → Option Value} {x : Str} {v : Value} (h : m x = some v) : m = fun y => if y = x then some v else m y := by
  funext y
  by_cases e : y = x
  · subst e
    rw [h, if_pos rfl]
  · rw [if_neg e]
/-- what a part that is no star leaves of the reach -/
def stepR (e x0 x1 x2 x3 : Nat) (acc : List Int) (j : Int) : List Int := if j < 4 ∧ (e = 63 ∨ #[x0, x1, x2, x3].getD j.toNat 0 = e) then acc ++ [j + 1] else acc
theorem turn_end {g h' : Heap} {L' P I D R : Addr} {it oR oP oT pobj : Obj} {tx : Str} {tt : Tok} {S : Nat → List Int} {i : Nat} {s : Shared} {tk c : Nat} {m : Str → Option Value} {ys : List Value} {xP : Option Value}
    (F : Fr g L' h' m) (N : News g L' h' ((D, listOf ys.toArray c) :: (I, it) :: (R, oR) :: (L' + 1 + 1, oP) :: (L' + 1, oT) :: (P, pobj) :: [])) (hm : m (Str.ofString "reach") = some (.ref D)) (hy : IntsAre ys (S (i + 1))) (hT : oT.data = .cell (some (.str tx tt))) (hP : oP.data = .cell xP)
    (h1 : @Ne Nat D (L' + 1 + 1)) (h2 : @Ne Nat D (L' + 1)) (h3 : @Ne Nat D P) (h4 : @LT.lt Nat _ P L') (i1 : @Ne Nat D I) (i2 : @Ne Nat (L' + 1 + 1) I) (i3 : @Ne Nat (L' + 1) I) (i4 : @Ne Nat P I) :
    TurnEnd g L' I it (TJ L' P pobj tx tt S (i + 1)) s .next { s with heap := h', toks := tk } := by
  refine TurnEnd.intro [(D, listOf ys.toArray c), (L' + 1 + 1, oP), (L' + 1, oT), (P, pobj)] F N (fun p hp => ?_) (fun p hp => ?_) ⟨D, ys, c, oP, oT, xP, rfl, hy, hT, hP, h1, h2, h3, h4, hm⟩
  · simp only [List.mem_cons, List.not_mem_nil, or_false] at hp ⊢
    rcases hp with h | h | h | h | h <;> simp [h]
  · simp only [List.mem_cons, List.not_mem_nil, or_false] at hp
    rcases hp with h | h | h | h <;> subst h
    · exact i1
    · exact i2
    · exact i3
    · exact i4
theorem ce_el {h₀ h' : Heap} {L I C D : Addr} {m : Str → Option Value} {s₁ : Shared} {oI oC oD : Obj} {S : List (Addr × Obj) → Prop} {news all : List (Addr × Obj)} {l r : List Int} {a : Int} {t : Tok} {tk : Nat}
    (e : r = l ++ [a]) (F : Fr h₀ L h' m) (N : News h₀ L h' all) (sub : ∀ p ∈ (I, oI) :: (C, oC) :: (D, oD) :: news, p ∈ all) (off : LCg.Off3 I C D news) (hS : S news) :
    LCg.CompEnd h₀ L m s₁ I oI C oC D oD S (fun y news' => KCiEl news l r y news') (.int a t) { s₁ with heap := h', toks := tk } := .intro F N news sub off hS (kci_el e rfl rfl)
theorem ce_no {h₀ h' : Heap} {L I C D : Addr} {m : Str → Option Value} {s₁ : Shared} {oI oC oD : Obj} {S : List (Addr × Obj) → Prop} {news all : List (Addr × Obj)} {l r : List Int} {v : Value} {tk : Nat}
    (e : r = l) (F : Fr h₀ L h' m) (N : News h₀ L h' all) (sub : ∀ p ∈ (I, oI) :: (C, oC) :: (D, oD) :: news, p ∈ all) (off : LCg.Off3 I C D news) (hS : S news) :
    LCg.CompEnd h₀ L m s₁ I oI C oC D oD S (fun _ news' => KCiNo news l r news') v { s₁ with heap := h', toks := tk } := .intro F N news sub off hS (kci_no e rfl)
theorem stepR_yes {e x0 x1 x2 x3 : Nat} {acc : List Int} {j : Int} (h1 : j < 4) (h2 : e = 63 ∨ #[x0, x1, x2, x3].getD j.toNat 0 = e) : stepR e x0 x1 x2 x3 acc j = acc ++ [j + 1] := if_pos ⟨h1, h2⟩
theorem stepR_no1 {e x0 x1 x2 x3 : Nat} {acc : List Int} {j : Int} (h1 : ¬ j < 4) : stepR e x0 x1 x2 x3 acc j = acc := if_neg fun h => h1 h.1
theorem stepR_no2 {e x0 x1 x2 x3 : Nat} {acc : List Int} {j : Int} (h2 : ¬ (e = 63 ∨ #[x0, x1, x2, x3].getD j.toNat 0 = e)) : stepR e x0 x1 x2 x3 acc j = acc := if_neg fun h => h2 h.2
end Mine
end
section
open PySem PySem.W PySem.Spec PySem.Calls PyProof.Rows
set_option maxRecDepth 100000
set_option maxHeartbeats 1000000
namespace Mine
local macro_rules | `(tactic| walk_at "own padding") => `(tactic| fail)
local macro_rules | `(tactic| walk_at "own padding") => `(tactic| fail)
local macro_rules | `(tactic| walk_at "own padding") => `(tactic| fail)
def Hold (P : Prop) : Prop := P
theorem Hold.out {P : Prop} (h : Hold P) : P := h
local macro_rules | `(tactic| k_room) => `(tactic| ktr_room)
local macro_rules | `(tactic| walk_at "exec For Name Name") => `(tactic| (k_here; (rename Fr _ _ _ _ => lF'); (with_unfolding_all refine' For_invTF lF' ?_ ?k1); (case k1 => intro _; with_unfolding_all rfl); k_whole))
local macro_rules | `(tactic| walk_at "compareOp Eq str str") => `(tactic| (k_here; refine eq_is (by assumption) ?_))
local macro_rules | `(tactic| walk_at "call builtin:len") => `(tactic| (k_here; (with_reducible show wpAny _ _ (call (Value.builtin "len") [Value.str (Str.mk _) _]) _ _ _); (refine len_is (n := 4) rfl (by decide) ?_); intro _ _))
local macro_rules | `(tactic| walk_at "subscriptTail Name UnaryOp str int") => `(tactic| (k_here; refine it_last (by decide) (by assumption) ?_))
local macro_rules | `(tactic| walk_at "subscriptTail Name Name str int") => `(tactic| (k_here; refine it_sym4 (by omega) (by first | omega | (simp only [decide_eq_true_eq] at *; omega)) ?_))
local macro_rules | `(tactic| walk_at "compareOp In str ref") => `(tactic| (k_here; k_dflt (refine' in_two ?N ?m ?_; (case N => k_asm); (case m => k_mem))))
local macro_rules | `(tactic| walk_at "CompEnd") => `(tactic| (k_here; refine Hold.out ?_))
local macro_rules | `(tactic| walk_at "exec Assign cons ListComp") => `(tactic| (k_here; refine Hold.out ?_))
local macro_rules | `(tactic| walk_at "compareOp NotEq ref ref") => `(tactic| (k_here; k_dflt (refine' ke_ne_ints ?a ?b ?i ?j ?u ?_; (case a => exact News.isList (by k_asm) (by k_mem)); (case b => exact News.isList (by k_asm) (by k_mem)); (case i => exact .cons _ _ .nil); (case j => exact .nil); (case u => ktr_units))))
local macro_rules | `(tactic| walk_at "call type:list") => `(tactic| (k_here; k_dflt (refine' list_r5 ?h ?F ?N ?r ?_; (case h => exact rfl); (case F => k_asm); (case N => k_asm); (case r => assumption)); intro _ _ _ _ _ hy5' F' N' l1; (try k_lt l1)))
theorem ct_takes (w : World) (news : List (Addr × Obj)) (P : Addr) (nn : Nat) (vsP : List Value) (S : Nat → List Int) (x0 x1 x2 x3 : Nat) (t : Tok) (hP : (P, listOf vsP.toArray nn) ∈ news)
    (hS0 : S 0 = [0]) (hSb : ∀ i, (∀ j ∈ S i, 0 ≤ j ∧ j ≤ 4) ∧ (S i).length ≤ 5)
    (hT : ∀ i v, vsP[i]? = some v → ∃ x tx, v = .str x tx ∧ (((x == Str.ofString "*") = false ∧ ∃ ev, LastIs x ev ∧ S (i + 1) = (S i).foldl (stepR ev x0 x1 x2 x3) []) ∨ ((x == Str.ofString "*") = true ∧ S i = [0] ∧ S (i + 1) = [0, 1, 2, 3, 4]))) :
   Ask w 8 148 news [.ref P, .str ⟨#[x0, x1, x2, x3]⟩ t] (fun h₀ L m K => ∀ (h' : Heap) (tk' : Nat), Fr h₀ L h' m → News h₀ L h' news → K (.bool ((S vsP.length).any (· == 4))) h' tk') := by
  unfold Ask
  k_fill
  w_top off
  intros; rename_i N _ _ _ _ hret
  have Nh := hid_one N hP
  refine wpAny_call ?_
  k_dflt (refine' keep_defC (hid := [(P, listOf vsP.toArray nn)]) (binds := [(Str.ofString "parts", .ref P), (Str.ofString "text", .str ⟨#[x0, x1, x2, x3]⟩ t)]) N ?k1 ?k2 ?k3 Nh ?k5 ?kA ?kF ?kK ?k6 ?k7 ?k8 ?k9 ?kB ?kD ?_ ?c2 ?c3 ?c4)
  case kA => exact rfl
  case kF => exact rfl
  case kK => assumption
  case k1 => k_asm
  case k2 => k_asm
  case k3 => k_asm
  case k5 => k_asm
  case k6 => k_is
  case k7 => k_is
  case k8 => ktr_room
  case k9 => exact BindsTo.of_eq rfl
  case kB => exact rfl
  case kD => decide +kernel
  case c2 => exact rfl
  case c3 => exact rfl
  case c4 => exact rfl
  intro g' L' h' tk' cells' FG' F' N' Y' B' X' T' l1 hG'
  (try k_lt l1)
  k_cells Y'
  (try simp only [List.cons_append, List.nil_append] at N')
  (try dsimp only)
  (try k_lift B')
  (try k_fold)
  k_steps
  refine list_iterT (vs := vsP) (nn := nn) (TJ L' P (listOf vsP.toArray nn) ⟨#[x0, x1, x2, x3]⟩ t S) rfl ?hl (by k_asm) (by k_asm) ?hj ?keep ?turn ?done
  case hl => k_mem
  case hj => exact ⟨_, _, _, _, _, _, rfl, hS0 ▸ .cons _ _ .nil, by assumption, by assumption, by omega, by omega, by omega, by omega, rfl⟩
  case keep =>
    rintro i m' nx ⟨R, vs, c, oP, oT, xP, rfl, _⟩
    k_mem
  case turn =>
    rintro i v m₁ nx ⟨h₁, g₁, d₁, t₁, o₁⟩ I it hv hI ⟨R, vs, c, oP, oT, xP, rfl, hvs, hTx, hPc, hn1, hn2, hn3, hlt, hm⟩ F₁ N₁
    rw [map_with hm] at F₁
    dsimp only at F₁ N₁
    simp only [List.mem_cons, List.not_mem_nil, or_false, forall_eq_or_imp, forall_eq] at hI
    have hI1 : @Ne Nat R I := hI.1
    have hI2 : @Ne Nat (L' + 1 + 1) I := hI.2.1
    have hI3 : @Ne Nat (L' + 1) I := hI.2.2.1
    have hI4 : @Ne Nat P I := hI.2.2.2
    clear hI
    obtain ⟨x, tx, rfl, hx⟩ := hT i v hv
    have hb := hSb i
    have hlen := hvs.length
    rcases hx with ⟨hx, ev, hlast, hS1⟩ | ⟨hx, hSi, hS1⟩
    · clear hT hSb hret
      k_steps
      delta Hold
      k_dflt (refine LCt.Assign_ListComp_T (F₀ := by k_asm) (by rfl) (by with_unfolding_all rfl) (by with_unfolding_all rfl) (by decide) (by rfl) (by decide) (by rfl) (by rfl) (by rfl) ?_)
      k_dflt walk1
      refine LCt.CompSrcT.ledger (by rfl) (by k_asm) (by k_asm) (by k_mem) ?hs ?_
      case hs => (rw [sizeLine_eq, List.size_toArray, hlen]; omega)
      intro g9
      refine kci_list (stepR ev x0 x1 x2 x3) hvs (fun k9 t9 I9 oI9 C9 oC9 D9 m9 ys9 l9 h9 tk9 E9 hk9 hy9 hC9 hx9 F9 N9 off9 ne9 mk9 => ?_) ?_ ?_
      · simp only [LCg.Off3, and_true] at off9
        obtain ⟨hk0, hk4⟩ := hb.1 k9 hk9
        k_fold
        k_steps
        all_goals delta Hold
        · refine ce_el (stepR_yes (by omega) (by assumption)) (by k_asm) (N := by assumption) ?sub ?off ?S
          case sub => kcf_all
          case off => (simp only [LCg.Off3, and_true]; assumption)
          case S => exact .inr ⟨_, by k_mem, rfl, _, rfl⟩
        · refine ce_no (stepR_no2 (by assumption)) (by k_asm) (N := by assumption) ?sub ?off ?S
          case sub => kcf_all
          case off => (simp only [LCg.Off3, and_true]; assumption)
          case S => exact .inr ⟨_, by k_mem, rfl, _, rfl⟩
        · refine ce_no (stepR_no1 (by omega)) (by k_asm) (N := by assumption) ?sub ?off ?S
          case sub => kcf_all
          case off => (simp only [LCg.Off3, and_true]; assumption)
          case S => exact .inr ⟨_, by k_mem, rfl, _, rfl⟩
      · rw [← hS1]
        intro ys9 hy9 hl9
        delta LCg.FinA
        intro D9 h9 tk9 F9 N9 off9
        simp only [LCg.Off1, and_true] at off9
        obtain ⟨f1, f2, f3, f4, f5⟩ := off9
        k_steps
        exact turn_end F9 N9 rfl hy9 hTx (by assumption) (Ne.symm f3) (Ne.symm f4) (Ne.symm f5) hlt (Ne.symm f1) hI2 hI3 hI4
      · intro l k
        unfold stepR
        split <;> simp
    · rw [hSi] at hvs
      cases hvs with
      | cons _ t0 hn =>
        cases hn
        k_steps
        rename IntsAre _ [0, 1, 2, 3, 4] => hy5
        rw [← hS1] at hy5
        refine' turn_end (L' := L') (by k_asm) ?n rfl hy5 hTx (by assumption) ?a ?b ?c hlt ?d hI2 hI3 hI4
        case n => (refine' cb_drop ?n1 ?n2; (case n1 => assumption); (case n2 => kcj_all))
        case a => omega
        case b => omega
        case c => omega
        case d => omega
  case done =>
    rintro m₁ nx h₁ tk₁ ⟨R, vs, c, oP, oT, xP, rfl, hvs, hTx, hPc, hn1, hn2, hn3, hlt, hm⟩ F₁ N₁
    rw [map_with hm] at F₁
    k_steps
    exact hret _ _ (by k_asm) (keep_back hG' N Nh (by assumption) (by assumption) (by kcj_all))
end Mine
end
section
open PySem PySem.W PySem.Spec PySem.Calls PyProof.Rows
set_option maxRecDepth 100000
set_option maxHeartbeats 1000000
namespace Mine
theorem at_ascii {b : Array UInt8} {p : Nat} (hc : (b.getD p 0).toNat < 128) : Builtin.Bytes.utf8At b p = (.char (b.getD p 0).toNat, p + 1) := by
  unfold Builtin.Bytes.utf8At
  dsimp only
  rw [if_pos hc]
theorem find_ascii {b : Array UInt8} {p : Nat} (hc : (b.getD p 0).toNat < 128) : Builtin._codecs.utf8Decoder.find true b p = .text [(b.getD p 0).toNat] (p + 1) := by
  unfold Builtin._codecs.utf8Decoder
  dsimp only
  rw [at_ascii hc]
  rfl
theorem dec4 {b0 b1 b2 b3 : UInt8} (h0 : b0.toNat < 128) (h1 : b1.toNat < 128) (h2 : b2.toNat < 128) (h3 : b3.toNat < 128) (id : String) :
    Builtin._codecs.runDecoder id Builtin._codecs.utf8Decoder none true [b0, b1, b2, b3].toArray 0 [] = pure (#[b0.toNat, b1.toNat, b2.toNat, b3.toNat], 4) := by
  have f0 : Builtin._codecs.utf8Decoder.find true #[b0, b1, b2, b3] 0 = .text [b0.toNat] 1 := find_ascii (p := 0) h0
  have f1 : Builtin._codecs.utf8Decoder.find true #[b0, b1, b2, b3] 1 = .text [b1.toNat] 2 := find_ascii (p := 1) h1
  have f2 : Builtin._codecs.utf8Decoder.find true #[b0, b1, b2, b3] 2 = .text [b2.toNat] 3 := find_ascii (p := 2) h2
  have f3 : Builtin._codecs.utf8Decoder.find true #[b0, b1, b2, b3] 3 = .text [b3.toNat] 4 := find_ascii (p := 3) h3
  unfold Builtin._codecs.runDecoder
  simp [List.range', sizeLine_eq, f0, f1, f2, f3]
theorem u8 {n : Int} (h : 0 ≤ n ∧ n < 128) : (n.toNat.toUInt8).toNat = n.toNat := by
  rw [Nat.toUInt8_eq, UInt8.toNat_ofNat']
  omega
section
variable {prog : Program} {w : World} {A : Around} {E : Value → Shared → Prop} {s : Shared} {t : Tok} {Q : Value → Shared → Prop}
theorem decode4 {a b c d : Int} {B : Array UInt8} (e : B = byteArr [a, b, c, d]) (ha : 0 ≤ a ∧ a < 128) (hb : 0 ≤ b ∧ b < 128) (hc : 0 ≤ c ∧ c < 128) (hd : 0 ≤ d ∧ d < 128) (h : ∀ t' k, Q (.str ⟨#[a.toNat, b.toNat, c.toNat, d.toNat]⟩ t') { s with toks := k }) :
    wpAny (model prog w) A (call (.builtin "bytes.decode") [.bytes B t]) Q E s := by
  subst e
  refine KBd.decode (c := a.toNat.toUInt8) (cs := [b.toNat.toUInt8, c.toNat.toUInt8, d.toNat.toUInt8]) (x := ⟨#[a.toNat, b.toNat, c.toNat, d.toNat]⟩) (n := 4) (fun id => ?_) (by show 4 ≤ 16777216; decide) h
  have := dec4 (b0 := a.toNat.toUInt8) (b1 := b.toNat.toUInt8) (b2 := c.toNat.toUInt8) (b3 := d.toNat.toUInt8) (by rw [u8 ha]; omega) (by rw [u8 hb]; omega) (by rw [u8 hc]; omega) (by rw [u8 hd]; omega) id
  rw [u8 ha, u8 hb, u8 hc, u8 hd] at this
  exact this
end
end Mine
end
section
open PySem PySem.W PySem.Spec PySem.Calls PyProof.Rows
set_option maxRecDepth 100000
set_option maxHeartbeats 4000000
namespace Mine
def d3 (p : Nat) : Nat := 48 + p / 1000 % 10
def d2 (p : Nat) : Nat := 48 + p / 100 % 10
def d1 (p : Nat) : Nat := 48 + p / 10 % 10
def d0 (p : Nat) : Nat := 48 + p % 10
theorem sign_of : ∀ k : Nat, k < 10 → (Nat.digitChar k).toNat = 48 + k := by decide
theorem digs4 (n : Nat) (h0 : 1000 ≤ n) (h1 : n < 10000) : (Nat.toDigits 10 n).map Char.toNat = [d3 n, d2 n, d1 n, d0 n] := by
  rw [Nat.toDigits_of_base_le (by decide) (by omega), Nat.toDigits_of_base_le (by decide) (show 10 ≤ n / 10 by omega), Nat.toDigits_of_base_le (by decide) (show 10 ≤ n / 10 / 10 by omega), Nat.toDigits_of_lt_base (show n / 10 / 10 / 10 < 10 by omega)]
  simp only [List.map_append, List.map_cons, List.map_nil, List.cons_append, List.nil_append]
  rw [sign_of _ (show n / 10 / 10 / 10 < 10 by omega), sign_of _ (show n / 10 / 10 % 10 < 10 by omega), sign_of _ (show n / 10 % 10 < 10 by omega), sign_of _ (show n % 10 < 10 by omega)]
  unfold d3 d2 d1 d0
  rw [show n / 10 / 10 / 10 = n / 1000 % 10 by omega, show n / 10 / 10 % 10 = n / 100 % 10 by omega]
theorem digs3 : ∀ n : Nat, n < 100 → (Nat.toDigits 10 (100 + n)).map Char.toNat = [49, d1 n, d0 n] := by decide +kernel
theorem text4 {p : Nat} (h0 : 1600 ≤ p) (h1 : p < 3200) : Str.ofString (toString ((p : Nat) : Int)) = ⟨#[d3 p, d2 p, d1 p, d0 p]⟩ := by
  have e := digs4 p (by omega) (by omega)
  refine Str.ext' ?_
  apply Array.ext'
  rw [KIN.signs_num, e]
theorem text3 {r : Nat} (h : r < 100) : Str.ofString (toString (((100 + r : Nat)) : Int)) = ⟨#[49, d1 r, d0 r]⟩ := by
  refine Str.ext' ?_
  apply Array.ext'
  rw [KIN.signs_num, digs3 r h]
theorem slice1 (x y : Nat) : Txt.slice ⟨#[49, x, y]⟩ (some 1) none = ⟨#[x, y]⟩ := by kernel_rfl
theorem star_app (x y : Nat) : Str.ofString "*" ++ (⟨#[x, y]⟩ : Str) = ⟨#[42, x, y]⟩ := by
  rw [show Str.ofString "*" = ⟨#[42]⟩ from by decide +kernel]
  rfl
theorem one_text {r : Nat} (h : r < 100) : Str.ofString "*" ++ Txt.slice (Str.ofString (toString (((100 + r : Nat)) : Int))) (some 1) none = ⟨#[42, d1 r, d0 r]⟩ := by
  rw [text3 h, slice1, star_app]
theorem sub_d (p : Nat) : d3 p ≤ 57 ∧ 48 ≤ d3 p ∧ d2 p ≤ 57 ∧ 48 ≤ d2 p ∧ d1 p ≤ 57 ∧ 48 ≤ d1 p ∧ d0 p ≤ 57 ∧ 48 ≤ d0 p := by
  unfold d3 d2 d1 d0; omega
theorem read4 {p : Nat} (h0 : 1600 ≤ p) (h1 : p < 3200) : PySem.intText? ⟨#[d3 p, d2 p, d1 p, d0 p]⟩ = some ((p : Nat) : Int) := by
  rw [← text4 h0 h1]
  exact KIN.num_reads (by omega) (by omega)
theorem resp_ok (p m : Nat) (hm : m = 124 ∨ m = 33) : RespOk m (d3 p) (d2 p) (d1 p) (d0 p) := by
  have := sub_d p
  exact ⟨hm, by omega, by omega, by omega, by omega⟩
theorem resp_bar {p : Nat} (h0 : 1600 ≤ p) (h1 : p < 3200) : Str.ofString "229 ok (" ++ Txt.mul (Str.ofString "|") 3 ++ Str.ofString (toString ((p : Nat) : Int)) ++ Str.ofString "|" ++ Str.ofString ")" = respOf 124 (d3 p) (d2 p) (d1 p) (d0 p) := by
  rw [text4 h0 h1]
  rfl
theorem resp_bang {p : Nat} (h0 : 1600 ≤ p) (h1 : p < 3200) : Str.ofString "229 ok (" ++ Txt.mul (Str.ofString "!") 3 ++ Str.ofString (toString ((p : Nat) : Int)) ++ Str.ofString "!" ++ Str.ofString ")" = respOf 33 (d3 p) (d2 p) (d1 p) (d0 p) := by
  rw [text4 h0 h1]
  rfl
-- the reach
theorem mem_step (e x0 x1 x2 x3 : Nat) (v : Int) : ∀ (l acc : List Int), v ∈ l.foldl (stepR e x0 x1 x2 x3) acc ↔ v ∈ acc ∨ (v - 1 ∈ l ∧ v - 1 < 4 ∧ (e = 63 ∨ #[x0, x1, x2, x3].getD (v - 1).toNat 0 = e))
  | [], acc => by simp
  | j :: r, acc => by
    rw [List.foldl_cons, mem_step e x0 x1 x2 x3 v r]
    unfold stepR
    by_cases c : j < 4 ∧ (e = 63 ∨ #[x0, x1, x2, x3].getD j.toNat 0 = e)
    · rw [if_pos c]
      rw [List.mem_append, List.mem_singleton, List.mem_cons]
      constructor
      · rintro ((h | h) | h)
        · exact .inl h
        · have : v - 1 = j := by omega
          exact .inr ⟨.inl this, by rw [this]; exact c⟩
        · exact .inr ⟨.inr h.1, h.2⟩
      · rintro (h | ⟨h | h, h2⟩)
        · exact .inl (.inl h)
        · exact .inl (.inr (by omega))
        · exact .inr ⟨h, h2⟩
    · rw [if_neg c]
      simp only [List.mem_cons]
      constructor
      · rintro (h | h)
        · exact .inl h
        · exact .inr ⟨.inr h.1, h.2⟩
      · rintro (h | ⟨h | h, h2⟩)
        · exact .inl h
        · exact absurd (h ▸ h2) c
        · exact .inr ⟨h, h2⟩
theorem step_len (e x0 x1 x2 x3 : Nat) : ∀ (l acc : List Int), (l.foldl (stepR e x0 x1 x2 x3) acc).length ≤ acc.length + l.length
  | [], acc => by simp
  | j :: r, acc => by
    rw [List.foldl_cons]
    refine Nat.le_trans (step_len e x0 x1 x2 x3 r _) ?_
    unfold stepR
    split
    · simp only [List.length_append, List.length_cons, List.length_nil]; omega
    · simp only [List.length_cons]; omega
/-- a bounded reach -/
def Reach (l : List Int) : Prop := (∀ j ∈ l, 0 ≤ j ∧ j ≤ 4) ∧ l.length ≤ 5
theorem reach_step {e x0 x1 x2 x3 : Nat} {l : List Int} (h : Reach l) : Reach (l.foldl (stepR e x0 x1 x2 x3) []) := by
  refine ⟨fun v hv => ?_, Nat.le_trans (step_len ..) (by have := h.2; simpa using this)⟩
  rcases (mem_step e x0 x1 x2 x3 v l []).mp hv with q | ⟨q, q2, _⟩
  · cases q
  · have := h.1 _ q; omega
theorem reach_0 : Reach [0] := ⟨by intro j hj; simp at hj; omega, by decide⟩
theorem reach_4 : Reach [0, 1, 2, 3, 4] := ⟨by intro j hj; simp at hj; omega, by decide⟩
def S1 (a b x0 x1 x2 x3 : Nat) : Nat → List Int
  | 0 => [0]
  | 1 => [0, 1, 2, 3, 4]
  | 2 => [0, 1, 2, 3, 4].foldl (stepR a x0 x1 x2 x3) []
  | _ => ([0, 1, 2, 3, 4].foldl (stepR a x0 x1 x2 x3) []).foldl (stepR b x0 x1 x2 x3) []
def S2 (c x0 x1 x2 x3 : Nat) : Nat → List Int
  | 0 => [0]
  | 1 => [0].foldl (stepR 63 x0 x1 x2 x3) []
  | 2 => ([0].foldl (stepR 63 x0 x1 x2 x3) []).foldl (stepR 63 x0 x1 x2 x3) []
  | 3 => (([0].foldl (stepR 63 x0 x1 x2 x3) []).foldl (stepR 63 x0 x1 x2 x3) []).foldl (stepR 63 x0 x1 x2 x3) []
  | _ => ((([0].foldl (stepR 63 x0 x1 x2 x3) []).foldl (stepR 63 x0 x1 x2 x3) []).foldl (stepR 63 x0 x1 x2 x3) []).foldl (stepR c x0 x1 x2 x3) []
theorem S1_reach (a b x0 x1 x2 x3 i : Nat) : Reach (S1 a b x0 x1 x2 x3 i) := by
  match i with
  | 0 => exact reach_0
  | 1 => exact reach_4
  | 2 => exact reach_step reach_4
  | _ + 3 => exact reach_step (reach_step reach_4)
theorem S2_reach (c x0 x1 x2 x3 i : Nat) : Reach (S2 c x0 x1 x2 x3 i) := by
  match i with
  | 0 => exact reach_0
  | 1 => exact reach_step reach_0
  | 2 => exact reach_step (reach_step reach_0)
  | 3 => exact reach_step (reach_step (reach_step reach_0))
  | _ + 4 => exact reach_step (reach_step (reach_step (reach_step reach_0)))
theorem any_four (l : List Int) : (l.any (· == ((4 : Nat) : Int))) = decide ((4 : Int) ∈ l) := by
  rw [Bool.eq_iff_iff, List.any_eq_true, decide_eq_true_eq]
  constructor
  · rintro ⟨x, hx, e⟩
    have : x = 4 := by simpa using e
    exact this ▸ hx
  · intro h
    exact ⟨4, h, by decide⟩
theorem S1_end {a b x0 x1 x2 x3 : Nat} (ha : a ≠ 63) (hb : b ≠ 63) : ((S1 a b x0 x1 x2 x3 3).any (· == ((4 : Nat) : Int))) = decide (x2 = a ∧ x3 = b) := by
  rw [any_four]
  refine decide_eq_decide.mpr ?_
  show (4 : Int) ∈ ([0, 1, 2, 3, 4].foldl (stepR a x0 x1 x2 x3) []).foldl (stepR b x0 x1 x2 x3) [] ↔ _
  rw [mem_step, mem_step]
  simp [ha, hb]
theorem S2_end {c x0 x1 x2 x3 : Nat} (hc : c ≠ 63) : ((S2 c x0 x1 x2 x3 4).any (· == ((4 : Nat) : Int))) = decide (x3 = c) := by
  rw [any_four]
  refine decide_eq_decide.mpr ?_
  show (4 : Int) ∈ ((([0].foldl (stepR 63 x0 x1 x2 x3) []).foldl (stepR 63 x0 x1 x2 x3) []).foldl (stepR 63 x0 x1 x2 x3) []).foldl (stepR c x0 x1 x2 x3) [] ↔ _
  rw [mem_step, mem_step, mem_step, mem_step]
  simp [hc]
end Mine
end
section
open PySem PySem.W PySem.Spec PySem.Calls PyProof.Rows
set_option maxRecDepth 100000
set_option maxHeartbeats 1000000
namespace Mine
theorem esc_last (c : Nat) : LastIs (escOf c) c := by
  unfold escOf
  split
  · rename_i h
    subst h
    exact ⟨by decide, by decide, by decide +kernel⟩
  · exact ⟨by show 1 ≤ 1; decide, by show ((1 : Nat) : Int) < 2 ^ 62; decide, rfl⟩
theorem ask_last : LastIs (Str.ofString "?") 63 := ⟨by decide, by decide, by decide +kernel⟩
theorem esc_star {c : Nat} (h : Signs c = true) : (escOf c == Str.ofString "*") = false := by
  unfold escOf
  split
  · decide +kernel
  · exact one_ne (d := 42) (by decide +kernel) (by rintro rfl; exact absurd h (by decide))
theorem sg_63 {c : Nat} (h : Signs c = true) : c ≠ 63 := by rintro rfl; exact absurd h (by decide)
theorem ct_one (w : World) (news : List (Addr × Obj)) (P : Addr) (nn : Nat) (X : Str) (a b x0 x1 x2 x3 : Nat) (t u1 u2 u3 : Tok) (hX : X = ⟨#[x0, x1, x2, x3]⟩) (ha : Signs a = true) (hb : Signs b = true)
    (hP : (P, listOf #[.str (Str.ofString "*") u1, .str (escOf a) u2, .str (escOf b) u3] nn) ∈ news) :
   Ask w 8 148 news [.ref P, .str X t] (fun h₀ L m K => ∀ (h' : Heap) (tk' : Nat), Fr h₀ L h' m → News h₀ L h' news → K (.bool (decide (x2 = a ∧ x3 = b))) h' tk') := by
  subst hX
  have q := ct_takes w news P nn [.str (Str.ofString "*") u1, .str (escOf a) u2, .str (escOf b) u3] (S1 a b x0 x1 x2 x3) x0 x1 x2 x3 t hP rfl (fun i => S1_reach a b x0 x1 x2 x3 i) ?_
  · intro p loose mean mg mb dp un gd cn cs a1 ccd cl outer A₀ base h₀ L m s Q E B F X N T hk hd hu hret
    refine q p loose mean mg mb dp un gd cn cs a1 ccd cl outer A₀ base h₀ L m s Q E B F X N T hk hd hu fun h' tk' F' N' => ?_
    have e : ((S1 a b x0 x1 x2 x3 3).any (· == ((4 : Nat) : Int))) = decide (x2 = a ∧ x3 = b) := S1_end (sg_63 ha) (sg_63 hb)
    have := hret h' tk' F' N'
    rw [← e] at this
    exact this
  · intro i v hv
    match i, hv with
    | 0, hv => cases hv; exact ⟨_, _, rfl, .inr ⟨by decide +kernel, rfl, rfl⟩⟩
    | 1, hv => cases hv; exact ⟨_, _, rfl, .inl ⟨esc_star ha, a, esc_last a, rfl⟩⟩
    | 2, hv => cases hv; exact ⟨_, _, rfl, .inl ⟨esc_star hb, b, esc_last b, rfl⟩⟩
theorem ct_two (w : World) (news : List (Addr × Obj)) (P : Addr) (nn : Nat) (X : Str) (c x0 x1 x2 x3 : Nat) (t u1 u2 u3 u4 : Tok) (hX : X = ⟨#[x0, x1, x2, x3]⟩) (hc : Signs c = true)
    (hP : (P, listOf #[.str (Str.ofString "?") u1, .str (Str.ofString "?") u2, .str (Str.ofString "?") u3, .str (escOf c) u4] nn) ∈ news) :
   Ask w 8 148 news [.ref P, .str X t] (fun h₀ L m K => ∀ (h' : Heap) (tk' : Nat), Fr h₀ L h' m → News h₀ L h' news → K (.bool (decide (x3 = c))) h' tk') := by
  subst hX
  have q := ct_takes w news P nn [.str (Str.ofString "?") u1, .str (Str.ofString "?") u2, .str (Str.ofString "?") u3, .str (escOf c) u4] (S2 c x0 x1 x2 x3) x0 x1 x2 x3 t hP rfl (fun i => S2_reach c x0 x1 x2 x3 i) ?_
  · intro p loose mean mg mb dp un gd cn cs a1 ccd cl outer A₀ base h₀ L m s Q E B F X N T hk hd hu hret
    refine q p loose mean mg mb dp un gd cn cs a1 ccd cl outer A₀ base h₀ L m s Q E B F X N T hk hd hu fun h' tk' F' N' => ?_
    have e : ((S2 c x0 x1 x2 x3 4).any (· == ((4 : Nat) : Int))) = decide (x3 = c) := S2_end (sg_63 hc)
    have := hret h' tk' F' N'
    rw [← e] at this
    exact this
  · have hq : (Str.ofString "?" == Str.ofString "*") = false := by decide +kernel
    intro i v hv
    match i, hv with
    | 0, hv => cases hv; exact ⟨_, _, rfl, .inl ⟨hq, 63, ask_last, rfl⟩⟩
    | 1, hv => cases hv; exact ⟨_, _, rfl, .inl ⟨hq, 63, ask_last, rfl⟩⟩
    | 2, hv => cases hv; exact ⟨_, _, rfl, .inl ⟨hq, 63, ask_last, rfl⟩⟩
    | 3, hv => cases hv; exact ⟨_, _, rfl, .inl ⟨esc_star hc, c, esc_last c, rfl⟩⟩
end Mine
end
section
open PySem PySem.W PySem.Spec PySem.Calls PyProof.Rows
set_option maxRecDepth 100000
set_option maxHeartbeats 1000000
namespace Mine
section
variable {prog : Program} {w : World} {A : Around} {E : Value → Shared → Prop} {s : Shared} {env : Env} {h₀ : Heap} {x : Str} {body : List Stmt} {Q : Flow → Shared → Prop}
set_option maxHeartbeats 3200000 in
/-- a for over a range from nought, its target a plain name, by an invariant over the turn's number -/
theorem range_iterR {r : Addr} {a₀ b₀ c₀ : Int} {t₀ u₀ v₀ : Tok} {n : Nat} {m₀ : Str → Option Value} {news : List (Addr × Obj)} (J : Nat → (Str → Option Value) → List (Addr × Obj) → Prop)
    (hh : A.handled = none) (hr : IsRange s.heap r a₀ b₀ c₀ t₀ u₀ v₀) (ha : a₀ = 0) (hb : b₀ = (n : Int)) (hc : c₀ = 1) (hn : n < 1000) (F : Fr h₀ env.locals s.heap m₀) (N : News h₀ env.locals s.heap news) (hj : J 0 m₀ news)
    (turn : ∀ (i : Nat) t m₁ news₁ s₁ I it, i < n → (∃ h k, s₁ = { s with heap := h, toks := k }) → (∀ p ∈ news₁, p.1 ≠ I) → J i m₁ news₁ → Fr h₀ env.locals s₁.heap (fun y => if y = x then some (.int (i : Int) t) else m₁ y) → News h₀ env.locals s₁.heap ((I, it) :: news₁) →
      wpAny (model prog w) A (execs body env) (TurnEnd h₀ env.locals I it (J (i + 1)) s₁) E s₁)
    (done : ∀ m₁ news₁ h tk, J n m₁ news₁ → Fr h₀ env.locals h m₁ → News h₀ env.locals h news₁ → Q .next { s with heap := h, toks := tk }) :
    wpAny (model prog w) A (pyIter (.ref r)) (fun it s₂ => LoopAtV prog w A h₀ env x body Q E it s₂) E s := by
  subst ha hb hc
  have hsmall : Builtin.Range.small 0 (n : Int) 1 = true := small_one (by omega) (by omega) (by omega) (by omega)
  have hsz : Builtin.Range.rangeSize 0 (n : Int) 1 = (n : Int) := by rw [rangeSize_nat]; omega
  refine wpAny_pyIter_range hr hsmall ?_
  have W : Walks prog w A s.heap.objs.size [s.heap.objs.size] [s.heap.objs.size] n (fun i v => i < n ∧ ∃ t, v = .int (0 + i * 1) t)
      (fun i h => IsRangeIter h s.heap.objs.size (0 + (i : Nat) * 1) ((n : Int) - (i : Nat)) 1) := (Walks.range hh _ 0 1 n).bound
  refine ⟨_, _, _, n, _, _, m₀, news, J, rfl, W, ?_, ?_, ?_, (by show IsRangeIter _ _ _ _ _; rw [hsz]; simpa using Heap.get?_push_size _ rfl), F.push _, (fun p hp => ⟨Heap.get?_push_of_some _ (N p hp).1, (N p hp).2⟩), hj, ?_, ?_⟩
  · intro hm
    exact absurd F.ns.lt ((List.mem_singleton.mp hm) ▸ Nat.lt_irrefl _)
  · intro b hb
    rw [List.mem_singleton.mp hb]
    exact next_is_new F
  · intro p hp hI
    exact absurd (Heap.lt_size (N p hp).1) ((List.mem_singleton.mp hI) ▸ Nat.lt_irrefl _)
  · rintro i v m₁ news₁ s₁ own hs₁ hin ⟨_, t, rfl⟩ hJ hoff hown hget hfp hst F₁ N₁
    have hI0 : h₀.get? s.heap.objs.size = none := next_is_new F
    have e1 : (0 : Int) + (i : Int) * 1 = (i : Int) := by omega
    rw [e1] at F₁
    have hst' : IsRangeIter s₁.heap s.heap.objs.size (0 + ((i + 1 : Nat) : Nat) * 1) ((n : Int) - ((i + 1 : Nat) : Nat)) 1 := hst
    obtain ⟨oI, hoI⟩ : ∃ o, s₁.heap.get? s.heap.objs.size = some o := ⟨_, hst'⟩
    have hIown : (s.heap.objs.size, oI) ∈ own := hfp _ (.head _) hI0 _ hoI
    have hoffI : ∀ p ∈ news₁, p.1 ≠ s.heap.objs.size := fun p hp e => hoff p hp (List.mem_singleton.mpr e)
    have N₂ : News h₀ env.locals s₁.heap ((s.heap.objs.size, oI) :: news₁) := fun p hp => (List.mem_cons.mp hp).elim (fun e => e ▸ N₁ _ (List.mem_append_left _ hIown)) fun h => N₁ p (List.mem_append_right _ h)
    refine wpAny_mono (turn i t m₁ news₁ s₁ _ oI hin hs₁ hoffI hJ F₁ N₂) (fun f s₃ h₃ => ?_) fun _ _ e => e
    obtain ⟨rfl, h', tk, m₂, news₂, e, F₃, N₃, hI₃, hJ₃⟩ := h₃
    refine .next ⟨rfl, h', tk, m₂, news₂, e, F₃, fun p hp => ?_, fun p hp hq => hI₃ p hp (List.mem_singleton.mp hq), hJ₃⟩
    rcases List.mem_append.mp hp with hp | hp
    · have h2 : s₁.heap.get? p.1 = some p.2 := hget p hp
      have e1 : p.1 = s.heap.objs.size := List.mem_singleton.mp (hown p hp)
      have e2 : p = (s.heap.objs.size, oI) := Prod.ext e1 (by rw [e1, hoI] at h2; exact (Option.some.inj h2).symm)
      rw [e2]
      exact N₃ _ (.head _)
    · exact N₃ p (List.mem_cons_of_mem _ hp)
  · rintro h' tk m' news' F' N' _ hJ
    exact done m' news' h' tk hJ F' N'
end
end Mine
end
section
open PySem PySem.W PySem.Spec PySem.Calls PyProof.Rows
set_option maxRecDepth 100000
set_option maxHeartbeats 1000000
namespace Mine
/-- what a port must be to be kept -/
def okK (a b c p : Nat) : Bool := decide ((d1 p = a ∧ d0 p = b) ∧ (sgn ((p : Int) % 64)).toNat = c)
def keptL (port : Nat → Nat) (a b c i : Nat) : List Nat := ((List.range i).map port).filter (okK a b c)
theorem keptL_yes {port : Nat → Nat} {a b c i : Nat} (h : okK a b c (port i) = true) : keptL port a b c (i + 1) = keptL port a b c i ++ [port i] := by
  unfold keptL; rw [List.range_succ, List.map_append, List.filter_append, List.map_singleton, List.filter_cons_of_pos h]; rfl
theorem keptL_no {port : Nat → Nat} {a b c i : Nat} (h : okK a b c (port i) = false) : keptL port a b c (i + 1) = keptL port a b c i := by
  unfold keptL; rw [List.range_succ, List.map_append, List.filter_append, List.map_singleton, List.filter_cons_of_neg (by rw [h]; decide)]; simp
theorem keptL_le {port : Nat → Nat} {a b c : Nat} : ∀ {i n : Nat}, i ≤ n → (keptL port a b c i).length ≤ (keptL port a b c n).length
  | i, 0, h => by have : i = 0 := by omega
                  rw [this]; exact Nat.le_refl _
  | i, n + 1, h => by
    by_cases e : i = n + 1
    · rw [e]; exact Nat.le_refl _
    · refine Nat.le_trans (keptL_le (n := n) (by omega)) ?_
      cases hk : okK a b c (port n) with
      | true => rw [keptL_yes hk, List.length_append]; omega
      | false => rw [keptL_no hk]; exact Nat.le_refl _
section
variable {prog : Program} {w : World} {A : Around} {E : Value → Shared → Prop} {s : Shared} {h₀ : Heap} {L D : Addr} {m : Str → Option Value} {news : List (Addr × Obj)} {t u v : Tok} {Q : Value → Shared → Prop} {value slice : PySem.Expr}
theorem list_at {us : List Value} {n : Nat} {k : Int} {v : Value} (N : News h₀ L s.heap news) (hm : (D, listOf us.toArray n) ∈ news) (h0 : 0 ≤ k) (hfit : k < 2 ^ 63) (hv : us[k.toNat]? = some v) (h : Q v s)
    (hs : subscripted slice false (.ref D) (.int k u) = operate [.ref D, .int k u] (getItem (.ref D) (.int k u)) := by with_unfolding_all rfl) :
    wpAny (model prog w) A (subscriptTail value slice (.ref D) (.int k u)) Q E s := by
  have hl : s.heap.IsList D us.toArray := ⟨_, (N _ hm).1, rfl, n, rfl⟩
  exact tail_any hl.typeIs slot_list_getitem.lookup (wpAny_getItem_list hl h0 hfit (by simpa using hv) h) hs
theorem mark_at {n : Nat} {k : Int} {t1 t2 : Tok} (N : News h₀ L s.heap news) (hm : (D, listOf #[.str (Str.ofString "|") t1, .str (Str.ofString "!") t2] n) ∈ news) (hk : k = 0 ∨ k = 1)
    (h : ∀ mk t, (mk = 124 ∨ mk = 33) → Q (.str ⟨#[mk]⟩ t) s)
    (hs : ∀ k, subscripted slice false (.ref D) (.int k u) = operate [.ref D, .int k u] (getItem (.ref D) (.int k u)) := by intro _; with_unfolding_all rfl) :
    wpAny (model prog w) A (subscriptTail value slice (.ref D) (.int k u)) Q E s := by
  rcases hk with rfl | rfl
  · exact list_at (us := [.str (Str.ofString "|") t1, .str (Str.ofString "!") t2]) N hm (by decide) (by decide) rfl (h 124 t1 (.inl rfl)) (hs _)
  · exact list_at (us := [.str (Str.ofString "|") t1, .str (Str.ofString "!") t2]) N hm (by decide) (by decide) rfl (h 33 t2 (.inr rfl)) (hs _)
end
theorem map_with3 {m : Str → Option Value} {x y z k : Str} {a b c d : Value} (h1 : m x = some a) (h2 : m y = some b) (h3 : m z = some c) (h4 : m k = some d) :
    m = fun q => if q = x then some a else if q = y then some b else if q = z then some c else if q = k then some d else m q := by
  funext q
  by_cases e : q = x
  · rw [if_pos e, e, h1]
  · rw [if_neg e]
    by_cases e : q = y
    · rw [if_pos e, e, h2]
    · rw [if_neg e]
      by_cases e : q = z
      · rw [if_pos e, e, h3]
      · rw [if_neg e]
        by_cases e : q = k
        · rw [if_pos e, e, h4]
        · rw [if_neg e]
def KIn (P1 P2 P3 KD : Addr) (m : Str → Option Value) : Prop := m (Str.ofString "ports") = some (.ref P1) ∧ m (Str.ofString "one") = some (.ref P2) ∧ m (Str.ofString "two") = some (.ref P3) ∧ m (Str.ofString "kept") = some (.ref KD)
/-- what the loop keeps: none yet, or one -/
def KJ (P1 P2 P3 : Addr) (o1 o2 o3 : Obj) (port : Nat → Nat) (a b c i : Nat) (m : Str → Option Value) (news : List (Addr × Obj)) : Prop :=
  (∃ KD n, news = [(KD, listOf #[] n), (P1, o1), (P2, o2), (P3, o3)] ∧ (@Ne Nat KD P1) ∧ (@Ne Nat KD P2) ∧ (@Ne Nat KD P3) ∧ KIn P1 P2 P3 KD m ∧ keptL port a b c i = []) ∨
  (∃ KD T n n2 t1 t2 p, news = [(KD, listOf #[.ref T] n), (T, tupOf #[.str (Str.ofString "a.b") t1, .int ((p : Nat) : Int) t2] n2), (P1, o1), (P2, o2), (P3, o3)] ∧ (@Ne Nat KD T) ∧ (@Ne Nat KD P1) ∧ (@Ne Nat KD P2) ∧ (@Ne Nat KD P3) ∧ (@Ne Nat T P1) ∧ (@Ne Nat T P2) ∧ (@Ne Nat T P3) ∧ KIn P1 P2 P3 KD m ∧ keptL port a b c i = [p])
section
variable {g h' : Heap} {L' I KD P1 P2 P3 T : Addr} {it o1 o2 o3 : Obj} {s : Shared} {tk nk nt : Nat} {m : Str → Option Value} {all : List (Addr × Obj)} {port : Nat → Nat} {a b c i p : Nat} {t1 t2 : Tok}
theorem kj_A (F : Fr g L' h' m) (N : News g L' h' all) (hI : (I, it) ∈ all) (hK : (KD, listOf #[] nk) ∈ all) (h1 : (P1, o1) ∈ all) (h2 : (P2, o2) ∈ all) (h3 : (P3, o3) ∈ all) (hm : KIn P1 P2 P3 KD m) (hF : keptL port a b c (i + 1) = [])
    (k1 : @Ne Nat KD P1) (k2 : @Ne Nat KD P2) (k3 : @Ne Nat KD P3) (i0 : @Ne Nat KD I) (i1 : @Ne Nat P1 I) (i2 : @Ne Nat P2 I) (i3 : @Ne Nat P3 I) :
    TurnEnd g L' I it (KJ P1 P2 P3 o1 o2 o3 port a b c (i + 1)) s .next { s with heap := h', toks := tk } := by
  refine TurnEnd.intro [(KD, listOf #[] nk), (P1, o1), (P2, o2), (P3, o3)] F N (fun q hq => ?_) (fun q hq => ?_) (.inl ⟨KD, nk, rfl, k1, k2, k3, hm, hF⟩)
  · simp only [List.mem_cons, List.not_mem_nil, or_false] at hq
    rcases hq with h | h | h | h | h <;> subst h <;> assumption
  · simp only [List.mem_cons, List.not_mem_nil, or_false] at hq
    rcases hq with h | h | h | h <;> subst h <;> assumption
theorem kj_B (F : Fr g L' h' m) (N : News g L' h' all) (hI : (I, it) ∈ all) (hK : (KD, listOf #[.ref T] nk) ∈ all) (hT : (T, tupOf #[.str (Str.ofString "a.b") t1, .int ((p : Nat) : Int) t2] nt) ∈ all) (h1 : (P1, o1) ∈ all) (h2 : (P2, o2) ∈ all) (h3 : (P3, o3) ∈ all) (hm : KIn P1 P2 P3 KD m) (hF : keptL port a b c (i + 1) = [p])
    (kT : @Ne Nat KD T) (k1 : @Ne Nat KD P1) (k2 : @Ne Nat KD P2) (k3 : @Ne Nat KD P3) (j1 : @Ne Nat T P1) (j2 : @Ne Nat T P2) (j3 : @Ne Nat T P3) (i0 : @Ne Nat KD I) (iT : @Ne Nat T I) (i1 : @Ne Nat P1 I) (i2 : @Ne Nat P2 I) (i3 : @Ne Nat P3 I) :
    TurnEnd g L' I it (KJ P1 P2 P3 o1 o2 o3 port a b c (i + 1)) s .next { s with heap := h', toks := tk } := by
  refine TurnEnd.intro [(KD, listOf #[.ref T] nk), (T, tupOf #[.str (Str.ofString "a.b") t1, .int ((p : Nat) : Int) t2] nt), (P1, o1), (P2, o2), (P3, o3)] F N (fun q hq => ?_) (fun q hq => ?_) (.inr ⟨KD, T, nk, nt, t1, t2, p, rfl, kT, k1, k2, k3, j1, j2, j3, hm, hF⟩)
  · simp only [List.mem_cons, List.not_mem_nil, or_false] at hq
    rcases hq with h | h | h | h | h | h <;> subst h <;> assumption
  · simp only [List.mem_cons, List.not_mem_nil, or_false] at hq
    rcases hq with h | h | h | h | h <;> subst h <;> assumption
theorem kj_push (F : Fr g L' h' m) (N : News g L' h' all) (hI : (I, it) ∈ all) (hK : (KD, listOf (#[].push (.ref T)) nk) ∈ all) (hT : (T, tupOf #[.str (Str.ofString "a.b") t1, .int ((p : Nat) : Int) t2] nt) ∈ all) (h1 : (P1, o1) ∈ all) (h2 : (P2, o2) ∈ all) (h3 : (P3, o3) ∈ all) (hm : KIn P1 P2 P3 KD m) (hF : keptL port a b c (i + 1) = [p])
    (kT : @Ne Nat KD T) (k1 : @Ne Nat KD P1) (k2 : @Ne Nat KD P2) (k3 : @Ne Nat KD P3) (j1 : @Ne Nat T P1) (j2 : @Ne Nat T P2) (j3 : @Ne Nat T P3) (i0 : @Ne Nat KD I) (iT : @Ne Nat T I) (i1 : @Ne Nat P1 I) (i2 : @Ne Nat P2 I) (i3 : @Ne Nat P3 I) :
    TurnEnd g L' I it (KJ P1 P2 P3 o1 o2 o3 port a b c (i + 1)) s .next { s with heap := h', toks := tk } := kj_B F N hI hK hT h1 h2 h3 hm hF kT k1 k2 k3 j1 j2 j3 i0 iT i1 i2 i3
end
theorem okK_yes {a b c p : Nat} (h : d1 p = a ∧ d0 p = b) (h2 : (sgn ((p : Int) % 64)).toNat = c) : okK a b c p = true := decide_eq_true ⟨h, h2⟩
theorem okK_no1 {a b c p : Nat} (h : ¬ (d1 p = a ∧ d0 p = b)) : okK a b c p = false := decide_eq_false fun q => h q.1
theorem okK_no2 {a b c p : Nat} (h2 : ¬ (sgn ((p : Int) % 64)).toNat = c) : okK a b c p = false := decide_eq_false fun q => h2 q.2
end Mine
end
section
open PySem PySem.W PySem.Spec PySem.Calls PyProof.Rows
set_option maxRecDepth 100000
set_option maxHeartbeats 16000000
namespace Mine
local macro_rules | `(tactic| walk_at "own padding") => `(tactic| fail)
def Hold2 (P : Prop) : Prop := P
theorem Hold2.out {P : Prop} (h : Hold2 P) : P := h
theorem resp_mark {mk : Nat} (p : Nat) : Str.ofString "229 ok (" ++ Txt.mul ⟨#[mk]⟩ 3 ++ (⟨#[d3 p, d2 p, d1 p, d0 p]⟩ : Str) ++ (⟨#[mk]⟩ : Str) ++ Str.ofString ")" = respOf mk (d3 p) (d2 p) (d1 p) (d0 p) := by kernel_rfl
theorem ct_parseX (w : World) (news : List (Addr × Obj)) (X : Str) (mk p : Nat) (t t1 t2 : Tok) (P : Addr) (nn : Nat) (ab : Str) (hX : X = Str.ofString "229 ok (" ++ Txt.mul ⟨#[mk]⟩ 3 ++ (⟨#[d3 p, d2 p, d1 p, d0 p]⟩ : Str) ++ (⟨#[mk]⟩ : Str) ++ Str.ofString ")") (hm : mk = 124 ∨ mk = 33) (h0 : 1600 ≤ p ∧ p < 3200) (hP : (P, tupOf #[.str ab t1, .int 21 t2] nn) ∈ news) :
   Ask w 4 82 news [.str X t, .ref P] (fun h₀ L m K => ∀ (D : Addr) (t1 t2 : Tok) (c : Nat) (h' : Heap) (tk' : Nat), Fr h₀ L h' m → News h₀ L h' ((D, tupOf #[.str ab t1, .int ((p : Nat) : Int) t2] c) :: news) → AllLt D news → K (.ref D) h' tk') := by
  rw [hX, resp_mark]
  exact ct_parse w news mk _ _ _ _ _ t t1 t2 P nn ab (resp_ok p mk hm) (read4 h0.1 h0.2) hP
theorem str4 {prog : Program} {w : World} {A : Around} {E : Value → Shared → Prop} {s : Shared} {p : Nat} {v : Int} {t : Tok} {Q : Value → Shared → Prop} (e : v = ((p : Nat) : Int)) (h0 : 1600 ≤ p ∧ p < 3200)
    (h : Q (.str ⟨#[d3 p, d2 p, d1 p, d0 p]⟩ s.toks) { s with toks := s.toks + 1 }) : wpAny (model prog w) A (call (.type "str") [.int v t]) Q E s := by
  subst e
  refine P.str_of_int (shown (N := 2 ^ 1920) (by omega) (by omega) (Int.le_refl _)) ?_
  rw [text4 h0.1 h0.2]
  exact h
theorem len_at {prog : Program} {w : World} {A : Around} {E : Value → Shared → Prop} {s : Shared} {h₀ : Heap} {L l : Addr} {news : List (Addr × Obj)} {us : List Value} {n k : Nat} {Q : Value → Shared → Prop} (N : News h₀ L s.heap news) (hm : (l, listOf us.toArray n) ∈ news) (hl : us.length = k) (hk : k < 1000)
    (h : ∀ t tk, Q (.int ((k : Nat) : Int) t) { s with toks := tk }) : wpAny (model prog w) A (call (.builtin "len") [.ref l]) Q E s := by
  have hl' : s.heap.IsList l us.toArray := ⟨_, (N _ hm).1, rfl, n, rfl⟩
  have e : us.toArray.size = k := by rw [List.size_toArray, hl]
  exact len_list hl' (by rw [e]; omega) (by rw [e]; exact h _ _)
theorem port_get {port : Nat → Nat} {n i : Nat} (h : i < n) : ((List.range n).map fun k => ((port k : Nat) : Int)).getD ((i : Nat) : Int).toNat 0 = ((port i : Nat) : Int) := by
  have : ((i : Nat) : Int).toNat = i := by omega
  rw [this]
  simp [h]
theorem fmod2 (x : Int) : x.fmod 2 = 0 ∨ x.fmod 2 = 1 := by rw [Int.fmod_eq_emod_of_nonneg _ (by decide)]; omega
theorem in3 {p : Nat} (h0 : 1600 ≤ p ∧ p < 3200) : KBa.In [0, ((p : Nat) : Int).fdiv 256, ((p : Nat) : Int).fmod 256] := by
  rw [Int.fmod_eq_emod_of_nonneg _ (by decide), Int.fdiv_eq_ediv_of_nonneg _ (by decide)]
  intro n hn
  simp only [List.mem_cons, List.not_mem_nil, or_false] at hn
  rcases hn with rfl | rfl | rfl <;> omega
theorem ct_b64X (w : World) (news : List (Addr × Obj)) (b : Array UInt8) (p : Nat) (t : Tok) (hb : b = byteArr [0, ((p : Nat) : Int).fdiv 256, ((p : Nat) : Int).fmod 256]) (h0 : 1600 ≤ p ∧ p < 3200) :
   Ask w 8 112 news [.bytes b t] (fun h₀ L m K => ∀ (bb : Array UInt8) (t : Tok) (h' : Heap) (tk' : Nat), bb = byteArr [65, sgn (((p : Nat) : Int) / 4096), sgn (((p : Nat) : Int) / 64 % 64), sgn (((p : Nat) : Int) % 64)] → Fr h₀ L h' m → News h₀ L h' news → K (.bytes bb t) h' tk') := by
  subst hb
  have e := KBa.ints_make (in3 h0)
  have q := ct_b64 w news _ _ _ t e (in3 h0 _ (.tail _ (.head _))) (in3 h0 _ (.tail _ (.tail _ (.head _))))
  rw [Int.fmod_eq_emod_of_nonneg _ (by decide), Int.fdiv_eq_ediv_of_nonneg _ (by decide), show 256 * (((p : Nat) : Int) / 256) + ((p : Nat) : Int) % 256 = ((p : Nat) : Int) from by omega] at q
  rw [Int.fmod_eq_emod_of_nonneg _ (by decide), Int.fdiv_eq_ediv_of_nonneg _ (by decide)]
  exact q
theorem decodeX {prog : Program} {w : World} {A : Around} {E : Value → Shared → Prop} {s : Shared} {t : Tok} {Q : Value → Shared → Prop} {p : Nat} {B : Array UInt8} (e : B = byteArr [65, sgn (((p : Nat) : Int) / 4096), sgn (((p : Nat) : Int) / 64 % 64), sgn (((p : Nat) : Int) % 64)]) (h0 : 1600 ≤ p ∧ p < 3200)
    (h : ∀ t' k, Q (.str ⟨#[65, (sgn (((p : Nat) : Int) / 4096)).toNat, (sgn (((p : Nat) : Int) / 64 % 64)).toNat, (sgn (((p : Nat) : Int) % 64)).toNat]⟩ t') { s with toks := k }) :
    wpAny (model prog w) A (call (.builtin "bytes.decode") [.bytes B t]) Q E s := by
  have b1 := sgn_in (i := ((p : Nat) : Int) / 4096) (by omega) (by omega)
  have b2 := sgn_in (i := ((p : Nat) : Int) / 64 % 64) (by omega) (by omega)
  have b3 := sgn_in (i := ((p : Nat) : Int) % 64) (by omega) (by omega)
  exact decode4 e (by decide) (by omega) (by omega) (by omega) h
local macro_rules | `(tactic| k_room) => `(tactic| ktr_room)
local macro_rules | `(tactic| walk_at "exec For Name Call cons nil") => `(tactic| (k_here; (rename Fr _ _ _ _ => lF'); (with_unfolding_all refine' For_invVF lF' ?k1 ?k2 ?_; (case k1 => exact rfl); (case k2 => exact rfl); k_whole)))
local macro_rules | `(tactic| walk_at "call builtin:len") => `(tactic| (k_here; k_dflt (refine' len_at ?N ?m (by with_reducible assumption) (by with_reducible assumption) ?_; (case N => k_asm); (case m => k_mem)); intro _ _))
local macro_rules | `(tactic| walk_at "call type:str") => `(tactic| (k_here; (refine str4 (by first | exact rfl | exact port_get (by with_reducible assumption)) (by with_reducible assumption) ?_)))
local macro_rules | `(tactic| walk_at "subscriptTail") => `(tactic| (k_here; (with_reducible show wpAny _ _ (subscriptTail (PySem.Expr.List _ _) _ (Value.ref _) (Value.int _ _)) _ _ _); k_dflt (refine' mark_at ?N ?m ?k ?_; (case N => k_asm); (case m => k_mem); (case k => exact fmod2 _)); intro _ _ _))
local macro_rules | `(tactic| walk_at "call ref") => `(tactic| (k_here; (with_reducible show wpAny _ _ (call (Value.ref 82) [Value.str _ _, Value.ref _] _) _ _ _); k_dflt (refine' ask_use (ct_parseX _ _ _ _ _ _ _ _ _ _ _ rfl ?hm ?h0 ?hP) ?B ?F ?X ?N ?T ?k ?d ?u ?_; (case hm => with_reducible assumption); (case h0 => with_reducible assumption); (case B => k_asm); (case F => k_asm); (case X => k_asm); (case N => k_asm); (case T => k_asm); (case k => exact rfl); (case d => ktr_room); (case u => ktr_units); (case hP => k_mem)); intro _ _ _ _ _ _ F' N' l1; (try dsimp only); (try simp only [AllLt, and_true] at l1)))
local macro_rules | `(tactic| walk_at "call ref") => `(tactic| (k_here; (with_reducible show wpAny _ _ (call (Value.ref 112) [Value.bytes _ _] _) _ _ _); k_dflt (refine' ask_use (ct_b64X _ _ _ _ _ rfl ?h0) ?B ?F ?X ?N ?T ?k ?d ?u ?_; (case h0 => with_reducible assumption); (case B => k_asm); (case F => k_asm); (case X => k_asm); (case N => k_asm); (case T => k_asm); (case k => exact rfl); (case d => ktr_room); (case u => ktr_units)); intro _ _ _ _ he F' N'; (try dsimp only)))
local macro_rules | `(tactic| walk_at "call builtin:bytes.decode") => `(tactic| (k_here; (refine decodeX (by with_reducible assumption) (by with_reducible assumption) ?_); intro _ _))
local macro_rules | `(tactic| walk_at "call ref") => `(tactic| (k_here; (with_reducible show wpAny _ _ (call (Value.ref 148) [Value.ref _, Value.str _ _] _) _ _ _); k_dflt (refine' ask_use (ct_one _ _ _ _ _ _ _ _ _ _ _ _ _ _ _ rfl ?ha ?hb ?hP) ?B ?F ?X ?N ?T ?k ?d ?u ?_; (case B => k_asm); (case F => k_asm); (case X => k_asm); (case N => k_asm); (case hP => k_mem); (case ha => with_reducible assumption); (case hb => with_reducible assumption); (case T => k_asm); (case k => exact rfl); (case d => ktr_room); (case u => ktr_units)); intro _ _ F' N'; (try dsimp only)))
local macro_rules | `(tactic| walk_at "call ref") => `(tactic| (k_here; (with_reducible show wpAny _ _ (call (Value.ref 148) [Value.ref _, Value.str (Str.mk #[65, _, _, _]) _] _) _ _ _); k_dflt (refine' ask_use (ct_two _ _ _ _ _ _ _ _ _ _ _ _ _ _ _ rfl ?ha ?hP) ?B ?F ?X ?N ?T ?k ?d ?u ?_; (case B => k_asm); (case F => k_asm); (case X => k_asm); (case N => k_asm); (case hP => k_mem); (case ha => with_reducible assumption); (case T => k_asm); (case k => exact rfl); (case d => ktr_room); (case u => ktr_units)); intro _ _ F' N'; (try dsimp only)))
local macro_rules | `(tactic| walk_at "binaryOp Mult str int") => `(tactic| (k_here; (refine SB.mul (mulOk_of 1 4 (show 1 ≤ 1 from by decide) (by decide) (by decide) (by decide) (by decide)) ?_); intro _ _))
local macro_rules | `(tactic| walk_at "binaryOp Add str str") => `(tactic| (k_here; (refine SB.add_str ?_ (by rw [sizeLine_eq]; exact Nat.le_of_ble_eq_true (by kernel_rfl))); intro _ _))
local macro_rules | `(tactic| walk_at "call type:bytes") => `(tactic| (k_here; k_dflt (refine' KBa.make_K ?F ?N rfl ?hl ?hi (in3 ?h0) (show 3 ≤ 16777216 from by decide) ?_; (case F => k_asm); (case N => k_asm); (case hl => exact News.isList (by k_asm) (by k_mem)); (case hi => exact .cons _ _ (.cons _ _ (.cons _ _ .nil))); (case h0 => with_reducible assumption)); intro _ _ _ F' N' _))
local macro_rules | `(tactic| walk_at "pyIter ref") => `(tactic| (k_here; refine Hold2.out ?_))
theorem ct_kept (w : World) (news : List (Addr × Obj)) (P1 P2 P3 : Addr) (n1 n2 n3 : Nat) (vs : List Value) (port : Nat → Nat) (n a b c : Nat) (u1 u2 u3 u4 u5 u6 u7 : Tok) (hn : n < 1000) (ha : Signs a = true) (hb : Signs b = true) (hc : Signs c = true)
    (h1 : (P1, listOf vs.toArray n1) ∈ news) (h2 : (P2, listOf #[.str (Str.ofString "*") u1, .str (escOf a) u2, .str (escOf b) u3] n2) ∈ news) (h3 : (P3, listOf #[.str (Str.ofString "?") u4, .str (Str.ofString "?") u5, .str (Str.ofString "?") u6, .str (escOf c) u7] n3) ∈ news)
    (hvs : IntsAre vs ((List.range n).map fun k => ((port k : Nat) : Int))) (hp : ∀ i, i < n → 1600 ≤ port i ∧ port i < 3200) (hone : (keptL port a b c n).length ≤ 1) :
   Ask w 12 155 news [.ref P1, .ref P2, .ref P3] (fun h₀ L m K =>
     (keptL port a b c n = [] → ∀ (D : Addr) (k : Nat) (h' : Heap) (tk' : Nat), Fr h₀ L h' m → News h₀ L h' ((D, listOf #[] k) :: news) → AllNe D news → K (.ref D) h' tk') ∧
     (∀ p, keptL port a b c n = [p] → ∀ (D T : Addr) (k k2 : Nat) (t1 t2 : Tok) (h' : Heap) (tk' : Nat), Fr h₀ L h' m → News h₀ L h' ((D, listOf #[.ref T] k) :: (T, tupOf #[.str (Str.ofString "a.b") t1, .int ((p : Nat) : Int) t2] k2) :: news) → (@Ne Nat D T) → AllNe D news → AllNe T news → K (.ref D) h' tk')) := by
  unfold Ask
  k_fill
  w_top off
  intros; rename_i N _ _ _ _ hret
  have Nh : News _ _ _ [(P1, listOf vs.toArray n1), (P2, listOf #[.str (Str.ofString "*") u1, .str (escOf a) u2, .str (escOf b) u3] n2), (P3, listOf #[.str (Str.ofString "?") u4, .str (Str.ofString "?") u5, .str (Str.ofString "?") u6, .str (escOf c) u7] n3)] := fun p hp => N p (by simp only [List.mem_cons, List.not_mem_nil, or_false] at hp; rcases hp with rfl | rfl | rfl <;> assumption)
  refine wpAny_call ?_
  k_dflt (refine' keep_def (hid := [(P1, listOf vs.toArray n1), (P2, listOf #[.str (Str.ofString "*") u1, .str (escOf a) u2, .str (escOf b) u3] n2), (P3, listOf #[.str (Str.ofString "?") u4, .str (Str.ofString "?") u5, .str (Str.ofString "?") u6, .str (escOf c) u7] n3)]) (binds := [(Str.ofString "ports", .ref P1), (Str.ofString "one", .ref P2), (Str.ofString "two", .ref P3)]) N ?k1 ?k2 ?k3 Nh ?k5 ?kA ?kF ?kK ?k6 ?k7 ?k8 ?k9 ?kB ?_ ?c2 ?c3 ?c4 ?c5)
  case kA => exact rfl
  case kF => exact rfl
  case kK => assumption
  case k1 => k_asm
  case k2 => k_asm
  case k3 => k_asm
  case k5 => k_asm
  case k6 => k_is
  case k7 => k_is
  case k8 => ktr_room
  case k9 => exact BindsTo.of_eq rfl
  case c5 => decide
  case kB => exact locs rfl
  case c2 => exact rfl
  case c3 => exact rfl
  case c4 => exact rfl
  intro g' L' h' FG' F' N' B' X' T' hG'
  (try dsimp only)
  (try k_lift B')
  (try k_fold)
  have hlen : vs.length = n := by have := hvs.length; rw [this]; simp
  k_steps
  delta Hold2
  refine range_iterR (n := n) (KJ P1 P2 P3 (listOf vs.toArray n1) (listOf #[.str (Str.ofString "*") u1, .str (escOf a) u2, .str (escOf b) u3] n2) (listOf #[.str (Str.ofString "?") u4, .str (Str.ofString "?") u5, .str (Str.ofString "?") u6, .str (escOf c) u7] n3) port a b c) rfl (by assumption) rfl rfl rfl hn (by k_asm) (by k_asm) ?hj ?turn ?done
  case hj => exact .inl ⟨_, _, rfl, by omega, by omega, by omega, ⟨rfl, rfl, rfl, rfl⟩, rfl⟩
  case turn =>
    rintro i t₀ m₁ nx s₁ I it hi ⟨h₁, k₁, rfl⟩ hI hJ F₁ N₁
    have hpi := hp i hi
    rcases hJ with ⟨KD, nk, rfl, k1, k2, k3, ⟨q1, q2, q3, q4⟩, hF⟩ | ⟨KD, T, nk, nt, t1, t2, p, rfl, kT, k1, k2, k3, j1, j2, j3, ⟨q1, q2, q3, q4⟩, hF⟩
    · rw [map_with3 q1 q2 q3 q4] at F₁
      dsimp only at F₁ N₁
      simp only [List.mem_cons, List.not_mem_nil, or_false, forall_eq_or_imp, forall_eq] at hI
      have hI1 : @Ne Nat KD I := hI.1
      have hI2 : @Ne Nat P1 I := hI.2.1
      have hI3 : @Ne Nat P2 I := hI.2.2.1
      have hI4 : @Ne Nat P3 I := hI.2.2.2
      clear hI hret
      k_steps
      · k_dflt (refine' kj_push (T := ?T) (p := port i) (by assumption) (by assumption) ?hI ?hK ?hT ?h1 ?h2 ?h3 ⟨rfl, rfl, rfl, rfl⟩ ?hF ?e1 ?e2 ?e3 ?e4 ?e5 ?e6 ?e7 ?e8 ?e9 ?e10 ?e11 ?e12; (case hI => k_mem); (case hK => k_mem); (case hT => k_mem); (case h1 => k_mem); (case h2 => k_mem); (case h3 => k_mem); (case hF => (rw [keptL_yes (okK_yes (by assumption) (by assumption)), hF]; rfl)))
        all_goals (clear hG'; first | assumption | omega)
      · k_dflt (refine' kj_A (by assumption) (by assumption) ?hI ?hK ?h1 ?h2 ?h3 ⟨rfl, rfl, rfl, rfl⟩ ?hF k1 k2 k3 hI1 hI2 hI3 hI4; (case hI => k_mem); (case hK => k_mem); (case h1 => k_mem); (case h2 => k_mem); (case h3 => k_mem); (case hF => (rw [keptL_no (okK_no2 (by assumption)), hF])))
      · k_dflt (refine' kj_A (by assumption) (by assumption) ?hI ?hK ?h1 ?h2 ?h3 ⟨rfl, rfl, rfl, rfl⟩ ?hF k1 k2 k3 hI1 hI2 hI3 hI4; (case hI => k_mem); (case hK => k_mem); (case h1 => k_mem); (case h2 => k_mem); (case h3 => k_mem); (case hF => (rw [keptL_no (okK_no1 (by assumption)), hF])))
    · have hno : okK a b c (port i) = false := by
        cases ho : okK a b c (port i) with
        | false => rfl
        | true =>
          have := keptL_le (port := port) (a := a) (b := b) (c := c) (i := i + 1) (n := n) hi
          rw [keptL_yes ho, hF] at this
          simp only [List.length_append, List.length_cons, List.length_nil] at this
          omega
      rw [map_with3 q1 q2 q3 q4] at F₁
      dsimp only at F₁ N₁
      simp only [List.mem_cons, List.not_mem_nil, or_false, forall_eq_or_imp, forall_eq] at hI
      have hI1 : @Ne Nat KD I := hI.1
      have hIT : @Ne Nat T I := hI.2.1
      have hI2 : @Ne Nat P1 I := hI.2.2.1
      have hI3 : @Ne Nat P2 I := hI.2.2.2.1
      have hI4 : @Ne Nat P3 I := hI.2.2.2.2
      clear hI hret
      k_steps
      · exact absurd (okK_yes (by assumption) (by assumption)) (by rw [hno]; decide)
      · k_dflt (refine' kj_B (by assumption) (by assumption) ?hI ?hK ?hT ?h1 ?h2 ?h3 ⟨rfl, rfl, rfl, rfl⟩ (by rw [keptL_no hno, hF]) kT k1 k2 k3 j1 j2 j3 hI1 hIT hI2 hI3 hI4; (case hI => k_mem); (case hK => k_mem); (case hT => k_mem); (case h1 => k_mem); (case h2 => k_mem); (case h3 => k_mem))
      · k_dflt (refine' kj_B (by assumption) (by assumption) ?hI ?hK ?hT ?h1 ?h2 ?h3 ⟨rfl, rfl, rfl, rfl⟩ (by rw [keptL_no hno, hF]) kT k1 k2 k3 j1 j2 j3 hI1 hIT hI2 hI3 hI4; (case hI => k_mem); (case hK => k_mem); (case hT => k_mem); (case h1 => k_mem); (case h2 => k_mem); (case h3 => k_mem))
  case done =>
    rintro m₁ nx h₁ tk₁ (⟨KD, nk, rfl, k1, k2, k3, ⟨q1, q2, q3, q4⟩, hF⟩ | ⟨KD, T, nk, nt, t1, t2, p, rfl, kT, k1, k2, k3, j1, j2, j3, ⟨q1, q2, q3, q4⟩, hF⟩) F₁ N₁
    · rw [map_with3 q1 q2 q3 q4] at F₁
      k_steps
      refine' hret.1 hF KD nk _ _ (by k_asm) (news_cons (by assumption) (by k_mem) (keep_back hG' N Nh (by assumption) (by assumption) (by kcj_all))) (ne_back (newg := _) hG' (by assumption) (by k_mem) ?_)
      simp only [List.map_cons, List.map_nil, List.mem_cons, List.not_mem_nil, or_false, not_or]
      exact ⟨k1, k2, k3⟩
    · rw [map_with3 q1 q2 q3 q4] at F₁
      k_steps
      refine' hret.2 _ hF KD T nk nt t1 t2 _ _ (by k_asm) (news_cons (by assumption) (by k_mem) (news_cons (by assumption) (by k_mem) (keep_back hG' N Nh (by assumption) (by assumption) (by kcj_all)))) kT (ne_back hG' (by assumption) (D := KD) (by k_mem) ?_) (ne_back hG' (by assumption) (D := T) (by k_mem) ?_)
      · simp only [List.map_cons, List.map_nil, List.mem_cons, List.not_mem_nil, or_false, not_or]
        exact ⟨k1, k2, k3⟩
      · simp only [List.map_cons, List.map_nil, List.mem_cons, List.not_mem_nil, or_false, not_or]
        exact ⟨j1, j2, j3⟩
end Mine
end
section
open PySem PySem.W PySem.Spec PySem.Calls PyProof.Rows
set_option maxRecDepth 100000
set_option maxHeartbeats 4000000
namespace Mine
/-- the one port, where there is one -/
def pn (r s : Nat) : Nat := 1600 + r + 100 * (((((s : Int) - (r : Int)) / 4 * 9) % 16).toNat)
def dueL (r s : Nat) : List Nat := if ((s : Int) - (r : Int)) % 4 = 0 then [pn r s] else []
def pick (port : Nat → Nat) (r s n : Nat) : List Nat := ((List.range n).map port).filter fun p => decide (p % 100 = r ∧ p % 64 = s)
theorem filt_none {f : Nat → Nat} {P : Nat → Bool} : ∀ n : Nat, (∀ k, k < n → P (f k) = false) → ((List.range n).map f).filter P = []
  | 0, _ => rfl
  | n + 1, h => by
    rw [List.range_succ, List.map_append, List.filter_append, filt_none n fun k hk => h k (by omega), List.map_singleton, List.filter_cons_of_neg (by rw [h n (by omega)]; decide)]
    rfl
theorem filt_one {f : Nat → Nat} {P : Nat → Bool} {k₀ : Nat} : ∀ n : Nat, k₀ < n → (∀ k, k < n → P (f k) = decide (k = k₀)) → ((List.range n).map f).filter P = [f k₀]
  | 0, h, _ => absurd h (by omega)
  | n + 1, h, hP => by
    rw [List.range_succ, List.map_append, List.filter_append, List.map_singleton]
    by_cases e : n = k₀
    · subst e
      rw [filt_none n fun k hk => (hP k (by omega)).trans (decide_eq_false (by omega)), List.filter_cons_of_pos ((hP n (by omega)).trans (decide_eq_true rfl))]
      rfl
    · rw [filt_one n (by omega) fun k hk => hP k (by omega), List.filter_cons_of_neg (by rw [hP n (by omega), decide_eq_false e]; decide)]
      rfl
theorem pick16 (r : Nat) (hr : r < 100) (s : Nat) (hs : s < 64) : pick (fun k => 1600 + r + 100 * k) r s 16 = dueL r s := by
  unfold pick dueL
  split
  · rename_i h
    exact filt_one 16 (k₀ := ((((s : Int) - (r : Int)) / 4 * 9) % 16).toNat) (by omega) fun k hk => decide_eq_decide.mpr (by omega)
  · rename_i h
    exact filt_none 16 fun k hk => decide_eq_false (by omega)
theorem pick25 (r : Nat) (hr : r < 100) (s : Nat) (hs : s < 64) : pick (fun k => 1600 + s + 64 * k) r s 25 = dueL r s := by
  unfold pick dueL
  split
  · rename_i h
    have e : pn r s = 1600 + s + 64 * ((pn r s - 1600) / 64) := by unfold pn; omega
    rw [e]
    exact filt_one 25 (k₀ := (pn r s - 1600) / 64) (by unfold pn; omega) fun k hk => decide_eq_decide.mpr (by unfold pn; omega)
  · rename_i h
    exact filt_none 25 fun k hk => decide_eq_false (by omega)
theorem okK_is {r s p : Nat} (hr : r < 100) (hs : s < 64) : okK (d1 r) (d0 r) (sgn ((s : Nat) : Int)).toNat p = decide (p % 100 = r ∧ p % 64 = s) := by
  unfold okK
  refine decide_eq_decide.mpr ?_
  have h1 : (d1 p = d1 r ∧ d0 p = d0 r) ↔ p % 100 = r := by unfold d1 d0; omega
  have h2 : (sgn ((p : Int) % 64)).toNat = (sgn ((s : Nat) : Int)).toNat ↔ p % 64 = s := by
    have b1 := sgn_in (i := (p : Int) % 64) (by omega) (by omega)
    have b2 := sgn_in (i := ((s : Nat) : Int)) (by omega) (by omega)
    constructor
    · intro h
      have : sgn ((p : Int) % 64) = sgn ((s : Nat) : Int) := by omega
      have := sgn_inj (by omega) (by omega) (by omega) (by omega) this
      omega
    · intro h
      have : (p : Int) % 64 = ((s : Nat) : Int) := by omega
      rw [this]
  rw [h1, h2]
theorem kept_pick {port : Nat → Nat} {r s n : Nat} (hr : r < 100) (hs : s < 64) : keptL port (d1 r) (d0 r) (sgn ((s : Nat) : Int)).toNat n = pick port r s n := by
  unfold keptL pick
  have : okK (d1 r) (d0 r) (sgn ((s : Nat) : Int)).toNat = fun p => decide (p % 100 = r ∧ p % 64 = s) := by
    funext p
    exact okK_is hr hs
  rw [this]
theorem kept16 {r s : Nat} (hr : r < 100) (hs : s < 64) : keptL (fun k => 1600 + r + 100 * k) (d1 r) (d0 r) (sgn ((s : Nat) : Int)).toNat 16 = dueL r s := (kept_pick hr hs).trans (pick16 r hr s hs)
theorem kept25 {r s : Nat} (hr : r < 100) (hs : s < 64) : keptL (fun k => 1600 + s + 64 * k) (d1 r) (d0 r) (sgn ((s : Nat) : Int)).toNat 25 = dueL r s := (kept_pick hr hs).trans (pick25 r hr s hs)
theorem dueL_le (r s : Nat) : (dueL r s).length ≤ 1 := by unfold dueL; split <;> simp
end Mine
end
section
open PySem PySem.W PySem.Spec PySem.Calls PyProof.Rows
set_option maxRecDepth 100000
set_option maxHeartbeats 4000000
namespace Mine
def pairD (q : Nat × Nat) : Dat := .tuple [.int ((q.1 : Nat) : Int), .int ((q.2 : Nat) : Int)]
def dueD (q : Nat × Nat) : Dat := .list ((dueL q.1 q.2).map fun p => .tuple [.str (Str.ofString "a.b"), .int ((p : Nat) : Int)])
def allD (prs : List (Nat × Nat)) : List Dat := prs.flatMap fun q => [dueD q, dueD q]
theorem pair_get {news : List (Addr × Obj)} {vs : List Value} {prs : List (Nat × Nat)} {i : Nat} {v : Value} (h : DatAll news vs (prs.map pairD)) (hv : vs[i]? = some v) :
    ∃ r s T n t1 t2, prs[i]? = some (r, s) ∧ v = .ref T ∧ (T, tupOf #[.int ((r : Nat) : Int) t1, .int ((s : Nat) : Int) t2] n) ∈ news := by
  have hl := h.length
  have hi : i < vs.length := by
    rcases Nat.lt_or_ge i vs.length with c | c
    · exact c
    · rw [List.getElem?_eq_none c] at hv; cases hv
  have hi2 : i < (prs.map pairD).length := hl ▸ hi
  obtain ⟨v', hv', hd⟩ := h.get hi2
  rw [hv] at hv'
  cases hv'
  have hi3 : i < prs.length := by simpa using hi2
  rw [List.getElem_map] at hd
  generalize e : prs[i] = q at hd
  obtain ⟨r, s⟩ := q
  unfold pairD at hd
  dsimp only at hd
  cases hd with
  | tuple hm ha =>
    cases ha with
    | cons h1 ha =>
      cases ha with
      | cons h2 ha =>
        cases ha
        cases h1
        cases h2
        exact ⟨r, s, _, _, _, _, by rw [List.getElem?_eq_getElem hi3, e], rfl, hm⟩
theorem allD_snoc {prs : List (Nat × Nat)} {i : Nat} {q : Nat × Nat} (h : prs[i]? = some q) : allD (prs.take (i + 1)) = allD (prs.take i) ++ [dueD q, dueD q] := by
  have : prs.take (i + 1) = prs.take i ++ [q] := by simp [List.take_add_one, h]
  rw [this]
  unfold allD
  simp
theorem allD_len {prs : List (Nat × Nat)} : (allD prs).length = 2 * prs.length := by
  unfold allD
  induction prs with
  | nil => rfl
  | cons q r ih => rw [List.flatMap_cons, List.length_append, ih]; simp only [List.length_cons, List.length_nil]; omega
/-- what told keeps from turn to turn -/
def ToldJ (L' P : Addr) (pobj : Obj) (pl : List (Addr × Obj)) (prs : List (Nat × Nat)) (i : Nat) (m : Str → Option Value) (news : List (Addr × Obj)) : Prop :=
  ∃ TD vs c oS oR xS xR tl, news = (TD, listOf vs.toArray c) :: (L' + 1 + 1, oS) :: (L' + 1, oR) :: (P, pobj) :: tl ∧ OwnOff tl [TD, L' + 1 + 1, L' + 1] ∧ (@LT.lt Nat _ P L') ∧ (@Ne Nat TD (L' + 1 + 1)) ∧ (@Ne Nat TD (L' + 1)) ∧ (@Ne Nat TD P) ∧ oS.data = .cell xS ∧ oR.data = .cell xR ∧ (∀ q ∈ pl, q ∈ tl) ∧ DatAll tl vs (allD (prs.take i)) ∧ m (Str.ofString "told") = some (.ref TD)
theorem off_lt {L' : Addr} : ∀ {l : List (Addr × Obj)}, AllLt L' l → ∀ p ∈ l, @LT.lt Nat _ p.1 L'
  | [], _, _, hp => nomatch hp
  | q :: r, h, p, hp => by
    rcases List.mem_cons.mp hp with e | hp
    · exact e ▸ h.1
    · exact off_lt h.2 p hp
theorem off_first {L' l : Addr} {tl : List (Addr × Obj)} (h : AllLt L' tl) (h2 : AllLt l tl) : OwnOff tl [l, L' + 1 + 1, L' + 1] := by
  intro p hp b hb
  have a := off_lt h p hp
  have a2 := off_lt h2 p hp
  simp only [List.mem_cons, List.not_mem_nil, or_false] at hb
  have a3 : @LT.lt Nat _ p.1 L' := a
  rcases hb with rfl | rfl | rfl
  · exact Nat.ne_of_lt a2
  · show @Ne Nat p.1 (L' + 1 + 1); omega
  · show @Ne Nat p.1 (L' + 1); omega
def sgnTab : Str := Str.ofString "ABCDEFGHIJKLMNOPQRSTUVWXYZabcdefghijklmnopqrstuvwxyz0123456789+/"
theorem tab_nat : ∀ i : Nat, i < 64 → (Txt.item sgnTab (i : Int)).cps = #[(b64L.getD i 0).toNat] := by decide +kernel
theorem tab_item {s : Nat} (h : s < 64) : Txt.item sgnTab ((s : Nat) : Int) = ⟨#[(sgn ((s : Nat) : Int)).toNat]⟩ := Str.ext' (tab_nat s h)
theorem sign_nat : ∀ i : Nat, i < 64 → Signs (b64L.getD i 0).toNat = true := by decide +kernel
theorem sign_is {s : Nat} (h : s < 64) : Signs (sgn ((s : Nat) : Int)).toNat = true := sign_nat s h
theorem sign_dig {n : Nat} : Signs (d1 n) = true ∧ Signs (d0 n) = true := by
  have : ∀ k : Nat, k < 10 → Signs (48 + k) = true := by decide
  exact ⟨this _ (by omega), this _ (by omega)⟩
theorem two_text (x : Nat) : Str.ofString "???" ++ (⟨#[x]⟩ : Str) = ⟨#[63, 63, 63, x]⟩ := by
  rw [show Str.ofString "???" = ⟨#[63, 63, 63]⟩ from by decide +kernel]
  rfl
theorem one_textI {r : Nat} (h : r < 100) : Str.ofString "*" ++ Txt.slice (Str.ofString (toString (100 + ((r : Nat) : Int)))) (some 1) none = ⟨#[42, d1 r, d0 r]⟩ := by
  have := one_text h
  rw [show (((100 + r : Nat)) : Int) = 100 + ((r : Nat) : Int) from by omega] at this
  exact this
theorem ct_tr1X (w : World) (news : List (Addr × Obj)) (X : Str) (r : Nat) (t t1 t2 : Tok) (hX : X = Str.ofString "*" ++ Txt.slice (Str.ofString (toString (100 + ((r : Nat) : Int)))) (some 1) none) (hr : r < 100) :
   Ask w 8 136 news [.str X t, .str (Str.ofString "*") t1, .str (Str.ofString "?") t2] (fun h₀ L m K => ∀ (D : Addr) (u1 u2 u3 : Tok) (c : Nat) (h' : Heap) (tk' : Nat), Fr h₀ L h' m → News h₀ L h' ((D, listOf #[.str (Str.ofString "*") u1, .str (escOf (d1 r)) u2, .str (escOf (d0 r)) u3] c) :: news) → AllNe D news → K (.ref D) h' tk') := by
  rw [hX, one_textI hr]
  exact ct_tr1 w news _ _ t t1 t2 sign_dig.1 sign_dig.2
theorem ct_tr2X (w : World) (news : List (Addr × Obj)) (X : Str) (s : Nat) (t t1 t2 : Tok) (hX : X = Str.ofString "???" ++ Txt.item (Str.ofString "ABCDEFGHIJKLMNOPQRSTUVWXYZabcdefghijklmnopqrstuvwxyz0123456789+/") ((s : Nat) : Int)) (hs : s < 64) :
   Ask w 8 136 news [.str X t, .str (Str.ofString "*") t1, .str (Str.ofString "?") t2] (fun h₀ L m K => ∀ (D : Addr) (u1 u2 u3 u4 : Tok) (c : Nat) (h' : Heap) (tk' : Nat), Fr h₀ L h' m → News h₀ L h' ((D, listOf #[.str (Str.ofString "?") u1, .str (Str.ofString "?") u2, .str (Str.ofString "?") u3, .str (escOf (sgn ((s : Nat) : Int)).toNat) u4] c) :: news) → AllNe D news → K (.ref D) h' tk') := by
  rw [hX, show Txt.item (Str.ofString "ABCDEFGHIJKLMNOPQRSTUVWXYZabcdefghijklmnopqrstuvwxyz0123456789+/") ((s : Nat) : Int) = ⟨#[(sgn ((s : Nat) : Int)).toNat]⟩ from tab_item hs, two_text]
  exact ct_tr2 w news _ t t1 t2 (sign_is hs)
section
variable {prog : Program} {w : World} {A : Around} {E : Value → Shared → Prop} {st : Shared} {t u : Tok} {Q : Value → Shared → Prop} {value slice : PySem.Expr}
theorem tab_at {s : Nat} (h0 : s < 64) (h : Q (.str ⟨#[(sgn ((s : Nat) : Int)).toNat]⟩ st.toks) { st with toks := st.toks + 1 })
    (hs : subscripted slice false (.str sgnTab t) (.int ((s : Nat) : Int) u) = operate [.str sgnTab t, .int ((s : Nat) : Int) u] (getItem (.str sgnTab t) (.int ((s : Nat) : Int) u)) := by with_unfolding_all rfl)
    (ht : ∀ r, letTemporaryGo value (.str sgnTab t) r = pure () := by intro _; with_unfolding_all rfl) :
    wpAny (model prog w) A (subscriptTail value slice (.str sgnTab t) (.int ((s : Nat) : Int) u)) Q E st := by
  have e : sgnTab.length = 64 := by decide +kernel
  exact item_is (tab_item h0) (by unfold fitsSsize; simp; omega) (by rw [e]; omega) (by rw [e]; omega) h hs ht
end
end Mine
end
section
open PySem PySem.W PySem.Spec PySem.Calls PyProof.Rows
set_option maxRecDepth 100000
set_option maxHeartbeats 4000000
namespace Mine
theorem ks16 (r : Nat) : (rangeKs 0 (16 - 0 : Int).toNat).map (fun k' => 1600 + ((r : Nat) : Int) + 100 * k') = (List.range 16).map fun k => (((1600 + r + 100 * k : Nat)) : Int) := by
  rw [show rangeKs 0 (16 - 0 : Int).toNat = (List.range 16).map (fun k => ((k : Nat) : Int)) from by decide +kernel, List.map_map]
  apply List.map_congr_left
  intro k _
  show 1600 + (r : Int) + 100 * (k : Int) = ((1600 + r + 100 * k : Nat) : Int)
  omega
theorem ks25 (s : Nat) : (rangeKs 0 (25 - 0 : Int).toNat).map (fun k' => 1600 + ((s : Nat) : Int) + 64 * k') = (List.range 25).map fun k => (((1600 + s + 64 * k : Nat)) : Int) := by
  rw [show rangeKs 0 (25 - 0 : Int).toNat = (List.range 25).map (fun k => ((k : Nat) : Int)) from by decide +kernel, List.map_map]
  apply List.map_congr_left
  intro k _
  show 1600 + (s : Int) + 64 * (k : Int) = ((1600 + s + 64 * k : Nat) : Int)
  omega
abbrev oneO (r : Nat) (u1 u2 u3 : Tok) (n : Nat) : Obj := listOf #[.str (Str.ofString "*") u1, .str (escOf (d1 r)) u2, .str (escOf (d0 r)) u3] n
abbrev twoO (s : Nat) (u1 u2 u3 u4 : Tok) (n : Nat) : Obj := listOf #[.str (Str.ofString "?") u1, .str (Str.ofString "?") u2, .str (Str.ofString "?") u3, .str (escOf (sgn ((s : Nat) : Int)).toNat) u4] n
theorem ct_kX (w : World) (news : List (Addr × Obj)) (P1 P2 P3 : Addr) (n1 n2 n3 : Nat) (vs : List Value) (port : Nat → Nat) (n r s : Nat) (u1 u2 u3 u4 u5 u6 u7 : Tok) (hn : n < 1000) (hs : s < 64)
    (h1 : (P1, listOf vs.toArray n1) ∈ news) (h2 : (P2, oneO r u1 u2 u3 n2) ∈ news) (h3 : (P3, twoO s u4 u5 u6 u7 n3) ∈ news)
    (hvs : IntsAre vs ((List.range n).map fun k => ((port k : Nat) : Int))) (hp : ∀ i, i < n → 1600 ≤ port i ∧ port i < 3200) (hk : keptL port (d1 r) (d0 r) (sgn ((s : Nat) : Int)).toNat n = dueL r s) :
   Ask w 12 155 news [.ref P1, .ref P2, .ref P3] (fun h₀ L m K =>
     (dueL r s = [] → ∀ (D : Addr) (k : Nat) (h' : Heap) (tk' : Nat), Fr h₀ L h' m → News h₀ L h' ((D, listOf #[] k) :: news) → AllNe D news → K (.ref D) h' tk') ∧
     (∀ p, dueL r s = [p] → ∀ (D T : Addr) (k k2 : Nat) (t1 t2 : Tok) (h' : Heap) (tk' : Nat), Fr h₀ L h' m → News h₀ L h' ((D, listOf #[.ref T] k) :: (T, tupOf #[.str (Str.ofString "a.b") t1, .int ((p : Nat) : Int) t2] k2) :: news) → (@Ne Nat D T) → AllNe D news → AllNe T news → K (.ref D) h' tk')) := by
  rw [← hk]
  exact ct_kept w news P1 P2 P3 n1 n2 n3 vs port n _ _ _ u1 u2 u3 u4 u5 u6 u7 hn sign_dig.1 sign_dig.2 (sign_is hs) h1 h2 h3 hvs hp (hk ▸ dueL_le r s)
theorem ct_k16 (w : World) (news : List (Addr × Obj)) (P1 P2 P3 : Addr) (n1 n2 n3 : Nat) (vs : List Value) (r s : Nat) (u1 u2 u3 u4 u5 u6 u7 : Tok) (hr : r < 100) (hs : s < 64)
    (h1 : (P1, listOf vs.toArray n1) ∈ news) (h2 : (P2, oneO r u1 u2 u3 n2) ∈ news) (h3 : (P3, twoO s u4 u5 u6 u7 n3) ∈ news)
    (hvs : IntsAre vs ((rangeKs 0 (16 - 0 : Int).toNat).map (fun k' => 1600 + ((r : Nat) : Int) + 100 * k'))) :
   Ask w 12 155 news [.ref P1, .ref P2, .ref P3] (fun h₀ L m K =>
     (dueL r s = [] → ∀ (D : Addr) (k : Nat) (h' : Heap) (tk' : Nat), Fr h₀ L h' m → News h₀ L h' ((D, listOf #[] k) :: news) → AllNe D news → K (.ref D) h' tk') ∧
     (∀ p, dueL r s = [p] → ∀ (D T : Addr) (k k2 : Nat) (t1 t2 : Tok) (h' : Heap) (tk' : Nat), Fr h₀ L h' m → News h₀ L h' ((D, listOf #[.ref T] k) :: (T, tupOf #[.str (Str.ofString "a.b") t1, .int ((p : Nat) : Int) t2] k2) :: news) → (@Ne Nat D T) → AllNe D news → AllNe T news → K (.ref D) h' tk')) :=
  ct_kX w news P1 P2 P3 n1 n2 n3 vs (fun k => 1600 + r + 100 * k) 16 r s u1 u2 u3 u4 u5 u6 u7 (by decide) hs h1 h2 h3 (ks16 r ▸ hvs) (fun i hi => by omega) (kept16 hr hs)
theorem ct_k25 (w : World) (news : List (Addr × Obj)) (P1 P2 P3 : Addr) (n1 n2 n3 : Nat) (vs : List Value) (r s : Nat) (u1 u2 u3 u4 u5 u6 u7 : Tok) (hr : r < 100) (hs : s < 64)
    (h1 : (P1, listOf vs.toArray n1) ∈ news) (h2 : (P2, oneO r u1 u2 u3 n2) ∈ news) (h3 : (P3, twoO s u4 u5 u6 u7 n3) ∈ news)
    (hvs : IntsAre vs ((rangeKs 0 (25 - 0 : Int).toNat).map (fun k' => 1600 + ((s : Nat) : Int) + 64 * k'))) :
   Ask w 12 155 news [.ref P1, .ref P2, .ref P3] (fun h₀ L m K =>
     (dueL r s = [] → ∀ (D : Addr) (k : Nat) (h' : Heap) (tk' : Nat), Fr h₀ L h' m → News h₀ L h' ((D, listOf #[] k) :: news) → AllNe D news → K (.ref D) h' tk') ∧
     (∀ p, dueL r s = [p] → ∀ (D T : Addr) (k k2 : Nat) (t1 t2 : Tok) (h' : Heap) (tk' : Nat), Fr h₀ L h' m → News h₀ L h' ((D, listOf #[.ref T] k) :: (T, tupOf #[.str (Str.ofString "a.b") t1, .int ((p : Nat) : Int) t2] k2) :: news) → (@Ne Nat D T) → AllNe D news → AllNe T news → K (.ref D) h' tk')) :=
  ct_kX w news P1 P2 P3 n1 n2 n3 vs (fun k => 1600 + s + 64 * k) 25 r s u1 u2 u3 u4 u5 u6 u7 (by decide) hs h1 h2 h3 (ks25 s ▸ hvs) (fun i hi => by omega) (kept25 hr hs)
section
variable {g h' : Heap} {L' I TD P : Addr} {it oS oR pobj : Obj} {xS xR : Option Value} {s : Shared} {tk c i : Nat} {m : Str → Option Value} {all nw tl pl : List (Addr × Obj)} {prs : List (Nat × Nat)} {q : Nat × Nat} {vs : List Value} {va vb : Value}
theorem told_end (F : Fr g L' h' m) (N : News g L' h' all) (hI : (I, it) ∈ all) (hTD : (TD, listOf ((vs.toArray.push va).push vb) c) ∈ all) (hS : (L' + 1 + 1, oS) ∈ all) (hR : (L' + 1, oR) ∈ all) (hP : (P, pobj) ∈ all) (htl : ∀ q ∈ tl, q ∈ all) (hnw : ∀ q ∈ nw, q ∈ all)
    (dS : oS.data = .cell xS) (dR : oR.data = .cell xR) (hm : m (Str.ofString "told") = some (.ref TD)) (hps : prs[i]? = some q) (off : OwnOff tl [TD, L' + 1 + 1, L' + 1, I]) (off2 : OwnOff nw [TD, L' + 1 + 1, L' + 1, I]) (hpl : ∀ q ∈ pl, q ∈ tl)
    (hD : DatAll tl vs (allD (prs.take i))) (hA : DatIn (nw ++ tl) va (dueD q)) (hB : DatIn (nw ++ tl) vb (dueD q)) (pL : @LT.lt Nat _ P L') (kS : @Ne Nat TD (L' + 1 + 1)) (kR : @Ne Nat TD (L' + 1)) (kP : @Ne Nat TD P) (i1 : @Ne Nat TD I) (i2 : @Ne Nat (L' + 1 + 1) I) (i3 : @Ne Nat (L' + 1) I) (i4 : @Ne Nat P I) :
    TurnEnd g L' I it (ToldJ L' P pobj pl prs (i + 1)) s .next { s with heap := h', toks := tk } := by
  have hv : (vs.toArray.push va).push vb = (vs ++ [va, vb]).toArray := by simp
  rw [hv] at hTD
  refine TurnEnd.intro ((TD, listOf (vs ++ [va, vb]).toArray c) :: (L' + 1 + 1, oS) :: (L' + 1, oR) :: (P, pobj) :: (nw ++ tl)) F N (fun q hq => ?_) (fun q hq => ?_) ⟨TD, vs ++ [va, vb], c, oS, oR, xS, xR, nw ++ tl, rfl, fun p hp b hb => ?_, pL, kS, kR, kP, dS, dR, fun q hq => List.mem_append_right _ (hpl q hq), ?_, hm⟩
  · rcases List.mem_cons.mp hq with rfl | hq
    · exact hI
    rcases List.mem_cons.mp hq with rfl | hq
    · exact hTD
    rcases List.mem_cons.mp hq with rfl | hq
    · exact hS
    rcases List.mem_cons.mp hq with rfl | hq
    · exact hR
    rcases List.mem_cons.mp hq with rfl | hq
    · exact hP
    exact (List.mem_append.mp hq).elim (hnw q) (htl q)
  · rcases List.mem_cons.mp hq with rfl | hq
    · exact i1
    rcases List.mem_cons.mp hq with rfl | hq
    · exact i2
    rcases List.mem_cons.mp hq with rfl | hq
    · exact i3
    rcases List.mem_cons.mp hq with rfl | hq
    · exact i4
    have hl : I ∈ [TD, L' + 1 + 1, L' + 1, I] := .tail _ (.tail _ (.tail _ (.head _)))
    exact (List.mem_append.mp hq).elim (fun h => off2 q h I hl) (fun h => off q h I hl)
  · have hb' : b ∈ [TD, L' + 1 + 1, L' + 1, I] := by
      simp only [List.mem_cons, List.not_mem_nil, or_false] at hb ⊢
      rcases hb with h | h | h
      · exact .inl h
      · exact .inr (.inl h)
      · exact .inr (.inr (.inl h))
    exact (List.mem_append.mp hp).elim (fun h => off2 p h b hb') (fun h => off p h b hb')
  · rw [allD_snoc hps]
    exact (hD.mono fun q hq => List.mem_append_right _ hq).append (.cons hA (.cons hB .nil))
theorem due_nil {news : List (Addr × Obj)} {D : Addr} {k r s : Nat} (e : dueL r s = []) (h : (D, listOf #[] k) ∈ news) : DatIn news (.ref D) (dueD (r, s)) := by
  unfold dueD
  rw [e]
  exact .list (vs := []) h .nil
theorem due_one {news : List (Addr × Obj)} {D T : Addr} {k k2 r s p : Nat} {t1 t2 : Tok} (e : dueL r s = [p]) (h : (D, listOf #[.ref T] k) ∈ news) (hT : (T, tupOf #[.str (Str.ofString "a.b") t1, .int ((p : Nat) : Int) t2] k2) ∈ news) : DatIn news (.ref D) (dueD (r, s)) := by
  unfold dueD
  rw [e]
  exact .list (vs := [.ref T]) h (.cons (.tuple (vs := [.str (Str.ofString "a.b") t1, .int ((p : Nat) : Int) t2]) hT (.cons (.str _ _) (.cons (.int _ _) .nil))) .nil)
theorem due_case (r s : Nat) : dueL r s = [] ∨ ∃ p, dueL r s = [p] := by
  unfold dueL
  split
  · exact .inr ⟨_, rfl⟩
  · exact .inl rfl
end
end Mine
end
section
open PySem PySem.W PySem.Spec PySem.Calls PyProof.Rows
set_option maxRecDepth 100000
set_option maxHeartbeats 16000000
namespace Mine
local macro_rules | `(tactic| walk_at "own padding") => `(tactic| fail)
local macro_rules | `(tactic| walk_at "own padding") => `(tactic| fail)
local macro_rules | `(tactic| walk_at "own padding") => `(tactic| fail)
local macro_rules | `(tactic| walk_at "own padding") => `(tactic| fail)
local macro_rules | `(tactic| walk_at "own padding") => `(tactic| fail)
local macro_rules | `(tactic| walk_at "own padding") => `(tactic| fail)
local macro_rules | `(tactic| walk_at "own padding") => `(tactic| fail)
local macro_rules | `(tactic| walk_at "own padding") => `(tactic| fail)
theorem str3 {prog : Program} {w : World} {A : Around} {E : Value → Shared → Prop} {s : Shared} {r : Nat} {v : Int} {t : Tok} {Q : Value → Shared → Prop} (e : v = 100 + ((r : Nat) : Int)) (h0 : r < 100)
    (h : Q (.str ⟨#[49, d1 r, d0 r]⟩ s.toks) { s with toks := s.toks + 1 }) : wpAny (model prog w) A (call (.type "str") [.int v t]) Q E s := by
  subst e
  refine P.str_of_int (shown (N := 2 ^ 1920) (by omega) (by omega) (Int.le_refl _)) ?_
  have := text3 h0
  rw [show (((100 + r : Nat)) : Int) = 100 + ((r : Nat) : Int) from by omega] at this
  rw [this]
  exact h
local macro_rules | `(tactic| k_room) => `(tactic| ktr_room)
local macro_rules | `(tactic| k_ne) => `(tactic| (refine neN ?_; (try dsimp only); (repeat (rename _ ∧ _ => hh; cases hh)); first | assumption | exact Ne.symm (by assumption) | exact Nat.ne_of_lt (by assumption) | exact Nat.ne_of_gt (by assumption) | omega))
local macro_rules | `(tactic| walk_at "my steps") => `(tactic| repeat' ((fail_if_success (with_reducible show Hold2 _)); (fail_if_success (with_reducible show TurnEnd _ _ _ _ _ _ _ _)); first | (k_unfold; (try dsimp only)) | (k_end; wrow_close) | walk1 | (dsimp only; walk1) | (leave1; walk_say "STEP leave1"; try dsimp only)))
local macro_rules | `(tactic| walk_at "exec For Tuple Name") => `(tactic| (k_here; (rename Fr _ _ _ _ => lF'); (with_unfolding_all refine' For_invTF lF' ?_ ?k1); (case k1 => intro _; with_unfolding_all rfl); k_whole))
local macro_rules | `(tactic| walk_at "pyIter ref") => `(tactic| (k_here; (with_reducible show wpAny _ _ (pyIter _) (fun _ _ => LoopAtT _ _ _ _ _ _ _ _ _ _ _) _ _); refine Hold2.out ?_))
local macro_rules | `(tactic| walk_at "call ref") => `(tactic| (k_here; (with_reducible show wpAny _ _ (call (Value.ref 155) _ _) _ _ _); refine Hold2.out ?_))
local macro_rules | `(tactic| walk_at "call ref") => `(tactic| (k_here; (with_reducible show wpAny _ _ (call (Value.ref 136) _ _) _ _ _); refine Hold2.out ?_))
local macro_rules | `(tactic| walk_at "call builtin:list.append") => `(tactic| (k_here; (with_reducible show wpAny _ _ (call (Value.builtin _) [Value.ref _, _]) _ _ _); k_dflt (refine' append_K ?k1 ?k2 ?k3 ?_ ?z; (case k1 => k_asm); (case k2 => k_asm); (case k3 => k_upd); (case z => (rw [sizeLine_eq]; simp only [List.size_toArray, Array.size_push]; omega)); k_whole); intro h' F' N'; (try k_sweep)))
local macro_rules | `(tactic| walk_at "call type:str") => `(tactic| (k_here; (refine str3 (by omega) (by assumption) ?_)))
theorem ct_told (w : World) (news : List (Addr × Obj)) (P : Addr) (nn : Nat) (vsP : List Value) (tlP : List (Addr × Obj)) (prs : List (Nat × Nat)) (hP : (P, listOf vsP.toArray nn) ∈ news) (hT : ∀ q ∈ tlP, q ∈ news) (hd : DatAll tlP vsP (prs.map pairD)) (hb : ∀ q ∈ prs, q.1 < 100 ∧ q.2 < 64) (hn : prs.length ≤ 6) :
   Ask w 32 160 news [.ref P] (fun h₀ L m K => ∀ (D : Addr) (vs : List Value) (c : Nat) (tl : List (Addr × Obj)) (h' : Heap) (tk' : Nat), Fr h₀ L h' m → News h₀ L h' ((D, listOf vs.toArray c) :: (tl ++ news)) → DatAll tl vs (allD prs) → K (.ref D) h' tk') := by
  unfold Ask
  k_fill
  w_top off
  intros; rename_i N _ _ _ _ hret
  have Nh : News _ _ _ ((P, listOf vsP.toArray nn) :: tlP) := fun p hp => N p ((List.mem_cons.mp hp).elim (fun e => e ▸ hP) (hT p))
  refine wpAny_call ?_
  k_dflt (refine' keep_defC (hid := ((P, listOf vsP.toArray nn) :: tlP)) (binds := [(Str.ofString "pairs", .ref P)]) N ?k1 ?k2 ?k3 Nh ?k5 ?kA ?kF ?kK ?k6 ?k7 ?k8 ?k9 ?kB ?kD ?_ ?c2 ?c3 ?c4)
  case kA => exact rfl
  case kF => exact rfl
  case kK => assumption
  case k1 => k_asm
  case k2 => k_asm
  case k3 => k_asm
  case k5 => k_asm
  case k6 => k_is
  case k7 => k_is
  case k8 => ktr_room
  case k9 => exact BindsTo.of_eq rfl
  case kB => exact rfl
  case kD => decide +kernel
  case c2 => exact rfl
  case c3 => exact rfl
  case c4 => exact rfl
  intro g' L' h' tk' cells' FG' F' N' Y' B' X' T' l1 hG'
  (try k_lt l1)
  k_cells Y'
  (try simp only [List.cons_append, List.nil_append] at N')
  (try dsimp only)
  (try k_lift B')
  (try k_fold)
  k_steps
  delta Hold2
  refine list_iterT (vs := vsP) (nn := nn) (ToldJ L' P (listOf vsP.toArray nn) tlP prs) rfl ?hl (by k_asm) (by k_asm) ?hj ?keep ?turn ?done
  case hl => k_mem
  case hj =>
    rename (_ ∧ _ ∧ _ ∧ AllLt _ _) => hl
    exact ⟨_, [], _, _, _, _, _, tlP, rfl, off_first l1.2 hl.2.2.2, l1.1, by omega, by omega, by omega, by assumption, by assumption, fun _ h => h, .nil, rfl⟩
  case keep =>
    rintro i m' nx ⟨TD, vs, c, oS, oR, xS, xR, tl, rfl, _⟩
    exact .tail _ (.tail _ (.tail _ (.head _)))
  case turn =>
    rintro i v m₁ nx ⟨h₁, g₁, d₁, t₁, o₁⟩ I it hv hI ⟨TD, vs, c, oS, oR, xS, xR, tl, rfl, off, pL, kS, kR, kP, hS, hR, hpl, hD, hm⟩ F₁ N₁
    rw [map_with hm] at F₁
    dsimp only at F₁ N₁
    obtain ⟨r, s, T, nT, tt1, tt2, hps, rfl, hTm⟩ := pair_get hd hv
    obtain ⟨hr, hs⟩ := hb _ (List.mem_of_getElem? hps)
    dsimp only at hr hs
    have i1 : @Ne Nat TD I := hI _ (.head _)
    have i2 : @Ne Nat (L' + 1 + 1) I := hI _ (.tail _ (.head _))
    have i3 : @Ne Nat (L' + 1) I := hI _ (.tail _ (.tail _ (.head _)))
    have i4 : @Ne Nat P I := hI _ (.tail _ (.tail _ (.tail _ (.head _))))
    have iT : OwnOff tl [I] := fun p hp b hb => (List.mem_singleton.mp hb) ▸ hI p (.tail _ (.tail _ (.tail _ (.tail _ hp))))
    have N₂ := news_dup N₁ (show (T, tupOf #[.int ((r : Nat) : Int) tt1, .int ((s : Nat) : Int) tt2] nT) ∈ (I, it) :: (TD, listOf vs.toArray c) :: (L' + 1 + 1, oS) :: (L' + 1, oR) :: (P, listOf vsP.toArray nn) :: tl from .tail _ (.tail _ (.tail _ (.tail _ (.tail _ (hpl _ hTm))))))
    have kT : @Ne Nat T TD := off _ (hpl _ hTm) TD (.head _)
    have kT1 : @Ne Nat T (L' + 1 + 1) := off _ (hpl _ hTm) _ (.tail _ (.head _))
    have kT2 : @Ne Nat T (L' + 1) := off _ (hpl _ hTm) _ (.tail _ (.tail _ (.head _)))
    have kTI : @Ne Nat T I := iT _ (hpl _ hTm) _ (.head _)
    have off2 : OwnOff tl [TD, L' + 1 + 1, L' + 1, I] := by
      intro p hp b hb
      simp only [List.mem_cons, List.not_mem_nil, or_false] at hb
      rcases hb with rfl | rfl | rfl | rfl
      · exact off p hp _ (.head _)
      · exact off p hp _ (.tail _ (.head _))
      · exact off p hp _ (.tail _ (.tail _ (.head _)))
      · exact iT p hp _ (.head _)
    have hvl : vs.length ≤ 12 := by
      have := hD.length
      rw [allD_len, List.length_take] at this
      omega
    clear hI hret N₁ hd hb off iT
    walk_at "my steps"
    delta Hold2
    k_dflt (refine' ask_use (ct_tr1X (r := r) _ _ (Str.ofString "*" ++ Txt.slice (Str.ofString (toString (100 + ((r : Nat) : Int)))) (some 1) none) _ _ _ rfl hr) ?B ?F ?X ?N ?T ?k ?d ?u ?_; (case B => k_asm); (case F => k_asm); (case X => k_asm); (case N => k_asm); (case T => k_asm); (case k => exact rfl); (case d => ktr_room); (case u => ktr_units))
    intro D1 a1 a2 a3 c1 h1 k1 F1 N1 l1
    try dsimp only
    simp only [AllNe, and_true] at l1
    walk_at "my steps"
    delta Hold2
    k_dflt (refine' ask_use (ct_tr2X (s := s) _ _ (Str.ofString "???" ++ Txt.item (Str.ofString "ABCDEFGHIJKLMNOPQRSTUVWXYZabcdefghijklmnopqrstuvwxyz0123456789+/") ((s : Nat) : Int)) _ _ _ rfl hs) ?B ?F ?X ?N ?T ?k ?d ?u ?_; (case B => k_asm); (case F => k_asm); (case X => k_asm); (case N => k_asm); (case T => k_asm); (case k => exact rfl); (case d => ktr_room); (case u => ktr_units))
    intro D2 b1 b2 b3 b4 c2 h2 k2 F2 N2 l2
    try dsimp only
    simp only [AllNe, and_true] at l2
    walk_at "my steps"
    delta Hold2
    have hcase : Hold2 (dueL r s = []) ∨ ∃ p, Hold2 (dueL r s = [p]) := due_case r s
    rcases hcase with hdue | ⟨p, hdue⟩
    ·
      k_dflt (refine' ask_use (ct_k16 (r := r) (s := s) _ _ _ _ _ _ _ _ _ _ _ _ _ _ _ _ hr hs ?h1 ?h2 ?h3 ?hvs) ?B ?F ?X ?N ?T ?k ?d ?u ?_; (case B => k_asm); (case F => k_asm); (case X => k_asm); (case N => k_asm); (case T => k_asm); (case k => exact rfl); (case d => ktr_room); (case u => ktr_units); (case h1 => k_mem); (case h2 => k_mem); (case h3 => k_mem); (case hvs => assumption))
      refine And.intro (fun _ => ?_) (fun p he => absurd ((Hold2.out hdue).symm.trans he) (by simp))
      intro D3 k3 h3 q3 F3 N3 l3
      try dsimp only
      simp only [AllNe, and_true] at l3
      walk_at "my steps"
      delta Hold2
      k_dflt (refine' ask_use (ct_k25 (r := r) (s := s) _ _ _ _ _ _ _ _ _ _ _ _ _ _ _ _ hr hs ?h1 ?h2 ?h3 ?hvs) ?B ?F ?X ?N ?T ?k ?d ?u ?_; (case B => k_asm); (case F => k_asm); (case X => k_asm); (case N => k_asm); (case T => k_asm); (case k => exact rfl); (case d => ktr_room); (case u => ktr_units); (case h1 => k_mem); (case h2 => k_mem); (case h3 => k_mem); (case hvs => assumption))
      refine And.intro (fun _ => ?_) (fun p he => absurd ((Hold2.out hdue).symm.trans he) (by simp))
      intro D4 k4 h4 q4 F4 N4 l4
      try dsimp only
      simp only [AllNe, and_true] at l4
      walk_at "my steps"
      k_dflt (refine' told_end (nw := [(D4, listOf #[] k4), (D3, listOf #[] k3)]) (va := .ref D3) (vb := .ref D4) (by assumption) (by assumption) ?e1 ?e2 ?e3 ?e4 ?e5 ?e6 ?e7 ?e9 ?e10 rfl hps off2 ?e8 hpl hD (due_nil hdue (.tail _ (.head _))) (due_nil hdue (.head _)) pL kS kR kP i1 i2 i3 i4; (case e1 => k_mem); (case e2 => k_mem); (case e3 => k_mem); (case e4 => k_mem); (case e9 => assumption); (case e10 => assumption); (case e5 => k_mem); (case e6 => (intro q hq; k_ownIn)); (case e7 => kcj_all))
      case e8 =>
        intro p hp b hb
        simp only [List.mem_cons, List.not_mem_nil, or_false] at hp hb
        rcases hp with rfl | rfl <;> rcases hb with rfl | rfl | rfl | rfl <;> k_ne
    ·
      k_dflt (refine' ask_use (ct_k16 (r := r) (s := s) _ _ _ _ _ _ _ _ _ _ _ _ _ _ _ _ hr hs ?h1 ?h2 ?h3 ?hvs) ?B ?F ?X ?N ?T ?k ?d ?u ?_; (case B => k_asm); (case F => k_asm); (case X => k_asm); (case N => k_asm); (case T => k_asm); (case k => exact rfl); (case d => ktr_room); (case u => ktr_units); (case h1 => k_mem); (case h2 => k_mem); (case h3 => k_mem); (case hvs => assumption))
      refine And.intro (fun he => absurd ((Hold2.out hdue).symm.trans he) (by simp)) (fun p' he => ?_)
      obtain rfl := (List.cons.inj ((Hold2.out hdue).symm.trans he)).1
      clear he
      intro D3 T3 k3 j3 x3 y3 h3 q3 F3 N3 m3 l3 n3
      try dsimp only
      simp only [AllNe, and_true] at l3 n3
      walk_at "my steps"
      delta Hold2
      k_dflt (refine' ask_use (ct_k25 (r := r) (s := s) _ _ _ _ _ _ _ _ _ _ _ _ _ _ _ _ hr hs ?h1 ?h2 ?h3 ?hvs) ?B ?F ?X ?N ?T ?k ?d ?u ?_; (case B => k_asm); (case F => k_asm); (case X => k_asm); (case N => k_asm); (case T => k_asm); (case k => exact rfl); (case d => ktr_room); (case u => ktr_units); (case h1 => k_mem); (case h2 => k_mem); (case h3 => k_mem); (case hvs => assumption))
      refine And.intro (fun he => absurd ((Hold2.out hdue).symm.trans he) (by simp)) (fun p' he => ?_)
      obtain rfl := (List.cons.inj ((Hold2.out hdue).symm.trans he)).1
      clear he
      intro D4 T4 k4 j4 x4 y4 h4 q4 F4 N4 m4 l4 n4
      try dsimp only
      simp only [AllNe, and_true] at l4 n4
      walk_at "my steps"
      k_dflt (refine' told_end (nw := [(D4, listOf #[.ref T4] k4), (T4, tupOf #[.str (Str.ofString "a.b") x4, .int ((p : Nat) : Int) y4] j4), (D3, listOf #[.ref T3] k3), (T3, tupOf #[.str (Str.ofString "a.b") x3, .int ((p : Nat) : Int) y3] j3)]) (va := .ref D3) (vb := .ref D4) (by assumption) (by assumption) ?e1 ?e2 ?e3 ?e4 ?e5 ?e6 ?e7 ?e9 ?e10 rfl hps off2 ?e8 hpl hD (due_one hdue (.tail _ (.tail _ (.head _))) (.tail _ (.tail _ (.tail _ (.head _))))) (due_one hdue (.head _) (.tail _ (.head _))) pL kS kR kP i1 i2 i3 i4; (case e1 => k_mem); (case e2 => k_mem); (case e3 => k_mem); (case e4 => k_mem); (case e9 => assumption); (case e10 => assumption); (case e5 => k_mem); (case e6 => (intro q hq; k_ownIn)); (case e7 => kcj_all))
      case e8 =>
        intro p hp b hb
        simp only [List.mem_cons, List.not_mem_nil, or_false] at hp hb
        rcases hp with rfl | rfl | rfl | rfl <;> rcases hb with rfl | rfl | rfl | rfl <;> k_ne
  case done =>
    rintro m₁ nx h₁ tk₁ ⟨TD, vs, c, oS, oR, xS, xR, tl, rfl, off, pL, kS, kR, kP, hS, hR, hpl, hD, hm⟩ F₁ N₁
    rw [show vsP.length = prs.length from by simpa using hd.length, List.take_length] at hD
    rw [map_with hm] at F₁
    k_steps
    rename News _ _ _ ((TD, _) :: _) => kN
    have hsub : ∀ q ∈ (P, listOf vsP.toArray nn) :: tlP, q ∈ (TD, listOf vs.toArray c) :: (L' + 1 + 1, oS) :: (L' + 1, oR) :: (P, listOf vsP.toArray nn) :: tl := fun q hq => (List.mem_cons.mp hq).elim (fun e => e ▸ .tail _ (.tail _ (.tail _ (.head _)))) fun h => .tail _ (.tail _ (.tail _ (.tail _ (hpl q h))))
    have NN := keep_back hG' N Nh (by assumption) (by assumption) hsub
    refine' hret TD vs c tl _ _ (by k_asm) (fun q hq => ?_) hD
    rcases List.mem_cons.mp hq with e | hq
    · exact e ▸ kN _ (.head _)
    rcases List.mem_append.mp hq with hq | hq
    · exact kN q (.tail _ (.tail _ (.tail _ (.tail _ hq))))
    · exact NN q hq
end Mine
end
section
open PySem PySem.W PySem.Spec PySem.Calls PyProof.Rows
set_option maxRecDepth 100000
set_option maxHeartbeats 1000000
namespace Mine
section
variable {M : Model} {prog : Program} {w : World} {A : Around} {E : Value → Shared → Prop} {s : Shared} {h₀ : Heap} {L D b : Addr} {m : Str → Option Value} {news news' : List (Addr × Obj)} {Q : Value → Shared → Prop}
theorem iadd_road {x y : Value} (ha : s.TypeIs x "list") (hb : s.TypeIs y "list") (hc : wpAny M A (call (.builtin "list.__iadd__") [x, y]) Q E s) : wpAny M A (inplaceOp .Add x y) Q E s := by
  unfold inplaceOp
  refine wpAny_holding ?_
  have hfi : fillsInplaceSlot (.type "list") "add" (Operator.Add == .Add) = pure false := by
    unfold fillsInplaceSlot
    show (typeLookup (.type "list") (dunderI "add") >>= fun fi => pure (fi.isSome && !isSeqSlot fi)) = pure false
    rw [F.slot_list_iadd.lookup]
    show (pure (true && !isSeqSlot (some (.builtin "list.__iadd__"))) : Sem Bool) = pure false
    rw [show isSeqSlot (some (.builtin "list.__iadd__")) = true from by decide +kernel]
    rfl
  have hsi : seqSlot? (.type "list") (dunderI "add") = pure (some (.builtin "list.__iadd__")) := PySem.seqSlot_of F.slot_list_iadd.lookup (by decide +kernel)
  refine wpAny_bind (wpAny_typeOf ha (wpAny_bind (wpAny_of_eq hfi ?_)))
  show wpAny M A (if false = true then _ else _) Q E s
  rw [if_neg Bool.false_ne_true]
  refine wpAny_bind (wpAny_binaryOp1_none (nm := "add") ha hb noFill_list_add ?_)
  refine wpAny_bind (wpAny_of_eq hsi ?_)
  exact wpAny_bind (wpAny_rule hc)
theorem iadd_K {its its2 : Array Value} {n n2 : Nat} {l : List Value} (F : Fr h₀ L s.heap m) (N : News h₀ L s.heap news) (hb : (b, listOf its2 n2) ∈ news) (e : its.toList ++ its2.toList = l) (hne : its2.toList.length ≠ 0)
    (U : Upd D (listOf its n) (listOf l.toArray (n + 1)) news news') (hd : its.size + its2.size ≤ 1000)
    (h : ∀ h', Fr h₀ L h' m → News h₀ L h' news' → Q (.ref D) { s with heap := h' }) : wpAny (model prog w) A (inplaceOp .Add (.ref D) (.ref b)) Q E s := by
  obtain ⟨pre, post, rfl, rfl, a, c⟩ := U.split
  have z := N (D, listOf its n) (List.mem_append.mpr (.inr (.head _)))
  have hd' : ¬(!its.isEmpty && Builtin.List.listTooLong (its.size + its2.size)) = true := by
    intro q
    have : Builtin.List.listTooLong (its.size + its2.size) = true := by
      rw [Bool.and_eq_true] at q; exact q.2
    unfold Builtin.List.listTooLong at this
    simp at this
    rw [sizeLine_eq] at this
    omega
  refine iadd_road ⟨_, z.1, rfl⟩ ⟨_, (N _ hb).1, rfl⟩ ?_
  refine call_meets PySem.F.slot_list_iadd ⟨_, z.1, rfl⟩ PySem.F.entry_list_iadd (PySem.F.args_list_iadd_2 _ _) (PySem.AutoSeq1.list___iadd___list_list_0 D its n b its2 n2 hd' (by rw [sizeLine_eq]; omega) (by rw [sizeLine_eq]; omega)) ⟨z.1, (N _ hb).1, h _ (F.change (Heap.SameBut.update ..) z.2.1 z.2.2) (kl_turn _ N a c ?_ ?_)⟩
  · subst e
    apply Array.toList_inj.mp
    simp
  · subst e
    simp at hne ⊢
    exact hne
theorem mul2 {l : Addr} {v : Value} {k : Nat} {u : Tok} (F : Fr h₀ L s.heap m) (N : News h₀ L s.heap news) (hm : (l, listOf #[v] k) ∈ news)
    (h : ∀ D c h', Fr h₀ L h' m → News h₀ L h' ((D, listOf #[v, v] c) :: news) → (∀ p ∈ news, p.1 < D) → Q (.ref D) { s with heap := h' }) : wpAny (model prog w) A (binaryOp .Mult (.ref l) (.int 2 u)) Q E s := by
  refine mul_list F N (N _ hm).1 (by decide) (by decide) (show 1 * 2 ≤ 2 ^ 24 from by decide) fun h' F' N' => ?_
  exact h _ 0 h' F' N' fun p hp => Heap.lt_size (N p hp).1
end
end Mine
end
section
open PySem PySem.W PySem.Spec PySem.Calls PyProof.Rows
set_option maxRecDepth 100000
set_option maxHeartbeats 4000000
namespace Mine
/-- what due keeps from turn to turn -/
def DueJ (P : Addr) (pobj : Obj) (pl : List (Addr × Obj)) (prs : List (Nat × Nat)) (i : Nat) (m : Str → Option Value) (news : List (Addr × Obj)) : Prop :=
  ∃ TD vs c tl, news = (TD, listOf vs.toArray c) :: (P, pobj) :: tl ∧ OwnOff tl [TD] ∧ (@Ne Nat TD P) ∧ (∀ q ∈ pl, q ∈ tl) ∧ DatAll tl vs (allD (prs.take i)) ∧ m (Str.ofString "due") = some (.ref TD)
theorem off_one {l : Addr} {tl : List (Addr × Obj)} (h2 : AllLt l tl) : OwnOff tl [l] := by
  intro p hp b hb
  rw [List.mem_singleton.mp hb]
  exact Nat.ne_of_lt (off_lt h2 p hp)
theorem port_is (r s : Nat) : 1600 + ((r : Nat) : Int) + 100 * ((((s : Nat) : Int) - ((r : Nat) : Int)).fdiv 4 * 9).fmod 16 = ((pn r s : Nat) : Int) := by
  rw [Int.fmod_eq_emod_of_nonneg _ (by decide), Int.fdiv_eq_ediv_of_nonneg _ (by decide)]
  unfold pn
  omega
theorem due_y {r s : Nat} (h : (((s : Nat) : Int) - ((r : Nat) : Int)).fmod 4 = 0) : dueL r s = [pn r s] := by
  rw [Int.fmod_eq_emod_of_nonneg _ (by decide)] at h
  unfold dueL
  rw [if_pos h]
theorem due_n {r s : Nat} (h : (((s : Nat) : Int) - ((r : Nat) : Int)).fmod 4 ≠ 0) : dueL r s = [] := by
  rw [Int.fmod_eq_emod_of_nonneg _ (by decide)] at h
  unfold dueL
  rw [if_neg h]
section
variable {g h' : Heap} {L' I TD P X T' : Addr} {it pobj : Obj} {st : Shared} {tk c i k k2 : Nat} {m : Str → Option Value} {all nw tl pl : List (Addr × Obj)} {prs : List (Nat × Nat)} {q : Nat × Nat} {vs : List Value} {va : Value} {r s : Nat} {t1 t2 : Tok} {v : Int}
theorem due_end0 (F : Fr g L' h' m) (N : News g L' h' all) (hI : (I, it) ∈ all) (hTD : (TD, listOf (vs.toArray.toList ++ #[va, va].toList).toArray c) ∈ all) (hP : (P, pobj) ∈ all) (htl : ∀ q ∈ tl, q ∈ all) (hnw : ∀ q ∈ nw, q ∈ all)
    (hm : m (Str.ofString "due") = some (.ref TD)) (hps : prs[i]? = some q) (off : OwnOff tl [TD, I]) (off2 : OwnOff nw [TD, I]) (hpl : ∀ q ∈ pl, q ∈ tl)
    (hD : DatAll tl vs (allD (prs.take i))) (hA : DatIn (nw ++ tl) va (dueD q)) (kP : @Ne Nat TD P) (i1 : @Ne Nat TD I) (i4 : @Ne Nat P I) :
    TurnEnd g L' I it (DueJ P pobj pl prs (i + 1)) st .next { st with heap := h', toks := tk } := by
  have hv : (vs.toArray.toList ++ #[va, va].toList).toArray = (vs ++ [va, va]).toArray := by simp
  rw [hv] at hTD
  refine TurnEnd.intro ((TD, listOf (vs ++ [va, va]).toArray c) :: (P, pobj) :: (nw ++ tl)) F N (fun q hq => ?_) (fun q hq => ?_) ⟨TD, vs ++ [va, va], c, nw ++ tl, rfl, fun p hp b hb => ?_, kP, fun q hq => List.mem_append_right _ (hpl q hq), ?_, hm⟩
  · rcases List.mem_cons.mp hq with rfl | hq
    · exact hI
    rcases List.mem_cons.mp hq with rfl | hq
    · exact hTD
    rcases List.mem_cons.mp hq with rfl | hq
    · exact hP
    exact (List.mem_append.mp hq).elim (hnw q) (htl q)
  · rcases List.mem_cons.mp hq with rfl | hq
    · exact i1
    rcases List.mem_cons.mp hq with rfl | hq
    · exact i4
    exact (List.mem_append.mp hq).elim (fun h => off2 q h I (.tail _ (.head _))) (fun h => off q h I (.tail _ (.head _)))
  · rw [List.mem_singleton.mp hb]
    exact (List.mem_append.mp hp).elim (fun h => off2 p h TD (.head _)) (fun h => off p h TD (.head _))
  · rw [allD_snoc hps]
    exact (hD.mono fun q hq => List.mem_append_right _ hq).append (.cons hA (.cons hA .nil))
theorem due_end_n (F : Fr g L' h' m) (N : News g L' h' all) (hI : (I, it) ∈ all) (hTD : (TD, listOf (vs.toArray.toList ++ #[Value.ref X, Value.ref X].toList).toArray c) ∈ all) (hX : (X, listOf #[] k) ∈ all) (hP : (P, pobj) ∈ all) (htl : ∀ q ∈ tl, q ∈ all)
    (hm : m (Str.ofString "due") = some (.ref TD)) (hps : prs[i]? = some (r, s)) (e : dueL r s = []) (off : OwnOff tl [TD, I]) (x1 : @Ne Nat X TD) (x2 : @Ne Nat X I) (hpl : ∀ q ∈ pl, q ∈ tl)
    (hD : DatAll tl vs (allD (prs.take i))) (kP : @Ne Nat TD P) (i1 : @Ne Nat TD I) (i4 : @Ne Nat P I) :
    TurnEnd g L' I it (DueJ P pobj pl prs (i + 1)) st .next { st with heap := h', toks := tk } := by
  refine due_end0 (nw := [(X, listOf #[] k)]) F N hI hTD hP htl (fun q hq => (List.mem_singleton.mp hq) ▸ hX) hm hps off (fun p hp b hb => ?_) hpl hD ?_ kP i1 i4
  · rw [List.mem_singleton.mp hp]
    simp only [List.mem_cons, List.not_mem_nil, or_false] at hb
    rcases hb with rfl | rfl
    · exact x1
    · exact x2
  · unfold dueD
    rw [e]
    exact .list (vs := []) (.head _) .nil
theorem due_end_y (F : Fr g L' h' m) (N : News g L' h' all) (hI : (I, it) ∈ all) (hTD : (TD, listOf (vs.toArray.toList ++ #[Value.ref X, Value.ref X].toList).toArray c) ∈ all) (hX : (X, listOf #[.ref T'] k) ∈ all) (hT : (T', tupOf #[.str (Str.ofString "a.b") t1, .int v t2] k2) ∈ all) (hP : (P, pobj) ∈ all) (htl : ∀ q ∈ tl, q ∈ all)
    (hm : m (Str.ofString "due") = some (.ref TD)) (hps : prs[i]? = some (r, s)) (e : dueL r s = [pn r s]) (hv : v = ((pn r s : Nat) : Int)) (off : OwnOff tl [TD, I]) (x1 : @Ne Nat X TD) (x2 : @Ne Nat X I) (y1 : @Ne Nat T' TD) (y2 : @Ne Nat T' I) (hpl : ∀ q ∈ pl, q ∈ tl)
    (hD : DatAll tl vs (allD (prs.take i))) (kP : @Ne Nat TD P) (i1 : @Ne Nat TD I) (i4 : @Ne Nat P I) :
    TurnEnd g L' I it (DueJ P pobj pl prs (i + 1)) st .next { st with heap := h', toks := tk } := by
  subst hv
  refine due_end0 (nw := [(X, listOf #[.ref T'] k), (T', tupOf #[.str (Str.ofString "a.b") t1, .int ((pn r s : Nat) : Int) t2] k2)]) F N hI hTD hP htl (fun q hq => ?_) hm hps off (fun p hp b hb => ?_) hpl hD ?_ kP i1 i4
  · simp only [List.mem_cons, List.not_mem_nil, or_false] at hq
    rcases hq with rfl | rfl <;> assumption
  · simp only [List.mem_cons, List.not_mem_nil, or_false] at hp hb
    rcases hp with rfl | rfl <;> rcases hb with rfl | rfl <;> assumption
  · unfold dueD
    rw [e]
    exact .list (vs := [.ref T']) (.head _) (.cons (.tuple (vs := [.str (Str.ofString "a.b") t1, .int ((pn r s : Nat) : Int) t2]) (.tail _ (.head _)) (.cons (.str _ _) (.cons (.int _ _) .nil))) .nil)
end
end Mine
end
section
open PySem PySem.W PySem.Spec PySem.Calls PyProof.Rows
set_option maxRecDepth 100000
set_option maxHeartbeats 16000000
namespace Mine
local macro_rules | `(tactic| walk_at "own padding") => `(tactic| fail)
local macro_rules | `(tactic| walk_at "own padding") => `(tactic| fail)
local macro_rules | `(tactic| walk_at "own padding") => `(tactic| fail)
local macro_rules | `(tactic| walk_at "own padding") => `(tactic| fail)
local macro_rules | `(tactic| walk_at "own padding") => `(tactic| fail)
local macro_rules | `(tactic| walk_at "own padding") => `(tactic| fail)
local macro_rules | `(tactic| walk_at "own padding") => `(tactic| fail)
local macro_rules | `(tactic| walk_at "own padding") => `(tactic| fail)
local macro_rules | `(tactic| walk_at "own padding") => `(tactic| fail)
local macro_rules | `(tactic| walk_at "own padding") => `(tactic| fail)
def Hold3 (P : Prop) : Prop := P
theorem Hold3.out {P : Prop} (h : Hold3 P) : P := h
local macro_rules | `(tactic| k_room) => `(tactic| ktr_room)
local macro_rules | `(tactic| k_ne) => `(tactic| (refine neN ?_; (try dsimp only); (repeat (rename _ ∧ _ => hh; cases hh)); first | assumption | exact Ne.symm (by assumption) | exact Nat.ne_of_lt (by assumption) | exact Nat.ne_of_gt (by assumption) | omega))
local macro_rules | `(tactic| walk_at "my steps") => `(tactic| repeat' ((fail_if_success (with_reducible show Hold3 _)); (fail_if_success (with_reducible show TurnEnd _ _ _ _ _ _ _ _)); first | (k_unfold; (try dsimp only)) | (k_end; wrow_close) | walk1 | (dsimp only; walk1) | (leave1; walk_say "STEP leave1"; try dsimp only)))
local macro_rules | `(tactic| walk_at "exec For Tuple Name") => `(tactic| (k_here; (rename Fr _ _ _ _ => lF'); (with_unfolding_all refine' For_invTF lF' ?_ ?k1); (case k1 => intro _; with_unfolding_all rfl); k_whole))
local macro_rules | `(tactic| walk_at "pyIter ref") => `(tactic| (k_here; (with_reducible show wpAny _ _ (pyIter _) (fun _ _ => LoopAtT _ _ _ _ _ _ _ _ _ _ _) _ _); refine Hold3.out ?_))
local macro_rules | `(tactic| walk_at "binaryOp Mult ref int") => `(tactic| (k_here; k_dflt (refine' mul2 ?F ?N ?m ?_; (case F => k_asm); (case N => k_asm); (case m => k_mem)); intro D' c' h' F' N' l1; (try k_lt l1); (try k_sweep)))
local macro_rules | `(tactic| walk_at "inplaceOp Add ref ref") => `(tactic| (k_here; k_dflt (refine' iadd_K ?F ?N ?b ?e ?ne ?U ?d ?_; (case F => k_asm); (case N => k_asm); (case b => k_mem); (case U => k_upd); (case e => exact rfl); (case ne => exact Nat.succ_ne_zero _); (case d => (simp only [List.size_toArray, List.length_cons, List.length_nil]; omega))); intro h' F' N'; (try k_sweep)))
local macro_rules | `(tactic| walk_at "inplaceOp Add ref") => `(tactic| (k_here; k_dflt (refine' iadd_K ?F ?N ?b ?e ?ne ?U ?d ?_; (case F => k_asm); (case N => k_asm); (case b => k_mem); (case U => k_upd); (case e => exact rfl); (case ne => exact Nat.succ_ne_zero _); (case d => (simp only [List.size_toArray, List.length_cons, List.length_nil]; omega))); intro h' F' N'; (try k_sweep)))
theorem ct_due (w : World) (news : List (Addr × Obj)) (P : Addr) (nn : Nat) (vsP : List Value) (tlP : List (Addr × Obj)) (prs : List (Nat × Nat)) (hP : (P, listOf vsP.toArray nn) ∈ news) (hT : ∀ q ∈ tlP, q ∈ news) (hd : DatAll tlP vsP (prs.map pairD)) (hb : ∀ q ∈ prs, q.1 < 100 ∧ q.2 < 64) (hn : prs.length ≤ 6) :
   Ask w 12 167 news [.ref P] (fun h₀ L m K => ∀ (D : Addr) (vs : List Value) (c : Nat) (tl : List (Addr × Obj)) (h' : Heap) (tk' : Nat), Fr h₀ L h' m → News h₀ L h' ((D, listOf vs.toArray c) :: (tl ++ news)) → DatAll tl vs (allD prs) → K (.ref D) h' tk') := by
  unfold Ask
  k_fill
  w_top off
  intros; rename_i N _ _ _ _ hret
  have Nh : News _ _ _ ((P, listOf vsP.toArray nn) :: tlP) := fun p hp => N p ((List.mem_cons.mp hp).elim (fun e => e ▸ hP) (hT p))
  refine wpAny_call ?_
  k_dflt (refine' keep_def (hid := ((P, listOf vsP.toArray nn) :: tlP)) (binds := [(Str.ofString "pairs", .ref P)]) N ?k1 ?k2 ?k3 Nh ?k5 ?kA ?kF ?kK ?k6 ?k7 ?k8 ?k9 ?kB ?_ ?c2 ?c3 ?c4 ?c5)
  case kA => exact rfl
  case kF => exact rfl
  case kK => assumption
  case k1 => k_asm
  case k2 => k_asm
  case k3 => k_asm
  case k5 => k_asm
  case k6 => k_is
  case k7 => k_is
  case k8 => ktr_room
  case k9 => exact BindsTo.of_eq rfl
  case c5 => decide
  case kB => exact locs rfl
  case c2 => exact rfl
  case c3 => exact rfl
  case c4 => exact rfl
  intro g' L' h' FG' F' N' B' X' T' hG'
  (try dsimp only)
  (try k_lift B')
  (try k_fold)
  k_steps
  delta Hold3
  refine list_iterT (vs := vsP) (nn := nn) (DueJ P (listOf vsP.toArray nn) tlP prs) rfl ?hl (by k_asm) (by k_asm) ?hj ?keep ?turn ?done
  case hl => k_mem
  case hj =>
    rename (_ ∧ AllLt _ _) => hl
    exact ⟨_, [], _, tlP, rfl, off_one hl.2, by omega, fun _ h => h, .nil, rfl⟩
  case keep =>
    rintro i m' nx ⟨TD, vs, c, tl, rfl, _⟩
    exact .tail _ (.head _)
  case turn =>
    rintro i v m₁ nx ⟨h₁, g₁, d₁, t₁, o₁⟩ I it hv hI ⟨TD, vs, c, tl, rfl, off, kP, hpl, hD, hm⟩ F₁ N₁
    rw [map_with hm] at F₁
    dsimp only at F₁ N₁
    obtain ⟨r, s, T, nT, tt1, tt2, hps, rfl, hTm⟩ := pair_get hd hv
    obtain ⟨hr, hs⟩ := hb _ (List.mem_of_getElem? hps)
    dsimp only at hr hs
    have i1 : @Ne Nat TD I := hI _ (.head _)
    have i4 : @Ne Nat P I := hI _ (.tail _ (.head _))
    have iT : OwnOff tl [I] := fun p hp b hb => (List.mem_singleton.mp hb) ▸ hI p (.tail _ (.tail _ hp))
    have N₂ := news_dup N₁ (show (T, tupOf #[.int ((r : Nat) : Int) tt1, .int ((s : Nat) : Int) tt2] nT) ∈ (I, it) :: (TD, listOf vs.toArray c) :: (P, listOf vsP.toArray nn) :: tl from .tail _ (.tail _ (.tail _ (hpl _ hTm))))
    have kT : @Ne Nat T TD := off _ (hpl _ hTm) TD (.head _)
    have kTI : @Ne Nat T I := iT _ (hpl _ hTm) _ (.head _)
    have off2 : OwnOff tl [TD, I] := by
      intro p hp b hb
      simp only [List.mem_cons, List.not_mem_nil, or_false] at hb
      rcases hb with rfl | rfl
      · exact off p hp _ (.head _)
      · exact iT p hp _ (.head _)
    have hvl : vs.length ≤ 12 := by
      have := hD.length
      rw [show (allD (prs.take i)).length = 2 * (prs.take i).length from allD_len, List.length_take] at this
      omega
    clear hI hret N₁ hd hb off iT
    walk_at "my steps"
    · k_dflt (refine' due_end_y (by assumption) (by assumption) ?e1 ?e2 ?e3 ?e4 ?e5 ?e6 rfl hps (due_y (by assumption)) (port_is r s) off2 ?n1 ?n2 ?n3 ?n4 hpl hD kP i1 i4; (case e1 => k_mem); (case e2 => k_mem); (case e3 => k_mem); (case e4 => k_mem); (case e5 => k_mem); (case e6 => (intro q hq; k_ownIn)))
      all_goals k_ne
    · k_dflt (refine' due_end_n (by assumption) (by assumption) ?e1 ?e2 ?e3 ?e4 ?e5 rfl hps (due_n (by assumption)) off2 ?p1 ?p2 hpl hD kP i1 i4; (case e1 => k_mem); (case e2 => k_mem); (case e3 => k_mem); (case e4 => k_mem); (case e5 => (intro q hq; k_ownIn)))
      all_goals k_ne
  case done =>
    rintro m₁ nx h₁ tk₁ ⟨TD, vs, c, tl, rfl, off, kP, hpl, hD, hm⟩ F₁ N₁
    rw [show vsP.length = prs.length from by simpa using hd.length, List.take_length] at hD
    rw [map_with hm] at F₁
    k_steps
    rename News _ _ _ ((TD, _) :: _) => kN
    have hsub : ∀ q ∈ (P, listOf vsP.toArray nn) :: tlP, q ∈ (TD, listOf vs.toArray c) :: (P, listOf vsP.toArray nn) :: tl := fun q hq => (List.mem_cons.mp hq).elim (fun e => e ▸ .tail _ (.head _)) fun h => .tail _ (.tail _ (hpl q h))
    have NN := keep_back hG' N Nh (by assumption) (by assumption) hsub
    refine' hret TD vs c tl _ _ (by k_asm) (fun q hq => ?_) hD
    rcases List.mem_cons.mp hq with e | hq
    · exact e ▸ kN _ (.head _)
    rcases List.mem_append.mp hq with hq | hq
    · exact kN q (.tail _ (.tail _ hq))
    · exact NN q hq
end Mine
end
section
open PySem PySem.W PySem.Spec PySem.Calls PyProof.Rows
set_option maxRecDepth 100000
set_option maxHeartbeats 1000000
namespace Mine
section
variable {prog : Program} {w : World} {A : Around} {E : Value → Shared → Prop} {s : Shared} {env : Env} {h₀ : Heap} {x : Str} {body : List Stmt} {Q : Flow → Shared → Prop}
set_option maxHeartbeats 3200000 in
/-- a for over a list of the ledger, its target a plain name, by an invariant over the turn's number -/
theorem list_iterV {l : Addr} {vs : List Value} {nn : Nat} {m₀ : Str → Option Value} {news : List (Addr × Obj)} (J : Nat → (Str → Option Value) → List (Addr × Obj) → Prop)
    (hh : A.handled = none) (hl : (l, listOf vs.toArray nn) ∈ news) (F : Fr h₀ env.locals s.heap m₀) (N : News h₀ env.locals s.heap news) (hj : J 0 m₀ news)
    (keepL : ∀ i m news, J i m news → (l, listOf vs.toArray nn) ∈ news)
    (turn : ∀ i v m₁ news₁ s₁ I it, vs[i]? = some v → (∃ h k, s₁ = { s with heap := h, toks := k }) → (∀ p ∈ news₁, p.1 ≠ I) → J i m₁ news₁ → Fr h₀ env.locals s₁.heap (fun y => if y = x then some v else m₁ y) → News h₀ env.locals s₁.heap ((I, it) :: news₁) →
      wpAny (model prog w) A (execs body env) (TurnEnd h₀ env.locals I it (J (i + 1)) s₁) E s₁)
    (done : ∀ m₁ news₁ h tk, J vs.length m₁ news₁ → Fr h₀ env.locals h m₁ → News h₀ env.locals h news₁ → Q .next { s with heap := h, toks := tk }) :
    wpAny (model prog w) A (pyIter (.ref l)) (fun it s₂ => LoopAtV prog w A h₀ env x body Q E it s₂) E s := by
  have hol : s.heap.get? l = some (listOf vs.toArray nn) := (N _ hl).1
  have hls : s.heap.IsList l vs.toArray := ⟨_, hol, rfl, nn, rfl⟩
  have hne : l ≠ s.heap.objs.size := Nat.ne_of_lt (Heap.lt_size hol)
  refine wpAny_pyIter_list hls ?_
  have W := Walks.list (prog := prog) (w := w) hh s.heap.objs.size l hne vs.toArray
  have hlen : vs.toArray.size = vs.length := by simp
  rw [hlen] at W
  refine ⟨_, _, _, vs.length, _, _, m₀, news, J, rfl, W, ?_, ?_, ?_, ⟨⟨_, Heap.get?_push_size _ rfl, rfl, rfl⟩, hls.at fun o e => Heap.get?_push_of_some _ e⟩, F.push _, (fun p hp => ⟨Heap.get?_push_of_some _ (N p hp).1, (N p hp).2⟩), hj, ?_, ?_⟩
  · intro hm
    rcases List.mem_cons.mp hm with e | hm
    · exact absurd F.ns.lt (e ▸ Nat.lt_irrefl _)
    · exact (N _ hl).2.1 ((List.mem_singleton.mp hm).symm)
  · intro b hb
    rw [List.mem_singleton.mp hb]
    exact next_is_new F
  · intro p hp hI
    exact absurd (Heap.lt_size (N p hp).1) ((List.mem_singleton.mp hI) ▸ Nat.lt_irrefl _)
  · intro i v m₁ news₁ s₁ own hs₁ hin hP hJ hoff hown hget hfp hst F₁ N₁
    have hP' : vs[i]? = some v := by simpa using hP
    have hI0 : h₀.get? s.heap.objs.size = none := next_is_new F
    obtain ⟨⟨oI, hoI, _⟩, _⟩ := id hst
    have hIown : (s.heap.objs.size, oI) ∈ own := hfp _ (List.mem_cons.mpr (.inl rfl)) hI0 _ hoI
    have hoffI : ∀ p ∈ news₁, p.1 ≠ s.heap.objs.size := fun p hp e => hoff p hp (List.mem_singleton.mpr e)
    have N₂ : News h₀ env.locals s₁.heap ((s.heap.objs.size, oI) :: news₁) := fun p hp => (List.mem_cons.mp hp).elim (fun e => e ▸ N₁ _ (List.mem_append_left _ hIown)) fun h => N₁ p (List.mem_append_right _ h)
    refine wpAny_mono (turn i v m₁ news₁ s₁ _ oI hP' hs₁ hoffI hJ F₁ N₂) (fun f s₃ h₃ => ?_) fun _ _ e => e
    obtain ⟨rfl, h', tk, m₂, news₂, e, F₃, N₃, hI₃, hJ₃⟩ := h₃
    refine .next ⟨rfl, h', tk, m₂, news₂, e, F₃, fun p hp => ?_, fun p hp hq => hI₃ p hp (List.mem_singleton.mp hq), hJ₃⟩
    rcases List.mem_append.mp hp with hp | hp
    · have h2 : s₁.heap.get? p.1 = some p.2 := hget p hp
      rcases List.mem_cons.mp (hown p hp) with e1 | e1
      · have e2 : p = (s.heap.objs.size, oI) := Prod.ext e1 (by rw [e1, hoI] at h2; exact (Option.some.inj h2).symm)
        rw [e2]
        exact N₃ _ (.head _)
      · have e1 := List.mem_singleton.mp e1
        have h3 := (N₂ _ (List.mem_cons_of_mem _ (keepL i m₁ news₁ hJ))).1
        have e2 : p = (l, listOf vs.toArray nn) := Prod.ext e1 (by rw [e1] at h2; exact Option.some.inj (h2.symm.trans h3))
        rw [e2]
        exact N₃ _ (List.mem_cons_of_mem _ (keepL (i + 1) m₂ news₂ hJ₃))
    · exact N₃ p (List.mem_cons_of_mem _ hp)
  · rintro h' tk m' news' F' N' _ hJ
    exact done m' news' h' tk hJ F' N'
end
end Mine
end
section
open PySem PySem.W PySem.Spec PySem.Calls PyProof.Rows
set_option maxRecDepth 100000
set_option maxHeartbeats 4000000
namespace Mine
def rN (n : Int) : Nat := (n.fmod 100).toNat
def sN (n : Int) : Nat := ((n.fdiv 100).fmod 64).toNat
def prs2 (n : Int) : List (Nat × Nat) := [(rN n, sN n), (rN n, sN n - sN n % 4 + rN n % 4)]
def prsOf (ns : List Int) : List (Nat × Nat) := ns.flatMap prs2
theorem rN_lt (n : Int) : rN n < 100 := by
  unfold rN
  rw [Int.fmod_eq_emod_of_nonneg _ (by decide)]
  omega
theorem sN_lt (n : Int) : sN n < 64 := by
  unfold sN
  rw [Int.fmod_eq_emod_of_nonneg _ (by decide)]
  omega
theorem rN_is (n : Int) : n.fmod 100 = ((rN n : Nat) : Int) := by
  unfold rN
  rw [Int.fmod_eq_emod_of_nonneg _ (by decide)]
  omega
theorem sN_is (n : Int) : (n.fdiv 100).fmod 64 = ((sN n : Nat) : Int) := by
  unfold sN
  rw [Int.fmod_eq_emod_of_nonneg _ (by decide)]
  omega
theorem s2_is (n : Int) : (n.fdiv 100).fmod 64 - ((n.fdiv 100).fmod 64).fmod 4 + (n.fmod 100).fmod 4 = ((sN n - sN n % 4 + rN n % 4 : Nat) : Int) := by
  rw [rN_is, sN_is, Int.fmod_eq_emod_of_nonneg _ (by decide), Int.fmod_eq_emod_of_nonneg _ (by decide)]
  have := sN_lt n
  omega
theorem prs_lt {ns : List Int} : ∀ q ∈ prsOf ns, q.1 < 100 ∧ q.2 < 64 := by
  intro q hq
  obtain ⟨n, _, hq⟩ := List.mem_flatMap.mp hq
  have a := rN_lt n
  have b := sN_lt n
  simp only [prs2, List.mem_cons, List.not_mem_nil, or_false] at hq
  rcases hq with rfl | rfl
  · exact ⟨a, b⟩
  · refine ⟨a, ?_⟩
    show sN n - sN n % 4 + rN n % 4 < 64
    omega
theorem prs_len {ns : List Int} : (prsOf ns).length = 2 * ns.length := by
  unfold prsOf
  induction ns with
  | nil => rfl
  | cons q r ih => rw [List.flatMap_cons, List.length_append, ih]; simp only [prs2, List.length_cons, List.length_nil]; omega
theorem prs_snoc {ns : List Int} {i : Nat} {n : Int} (h : ns[i]? = some n) : (prsOf (ns.take (i + 1))).map pairD = (prsOf (ns.take i)).map pairD ++ [pairD (rN n, sN n), pairD (rN n, sN n - sN n % 4 + rN n % 4)] := by
  have : ns.take (i + 1) = ns.take i ++ [n] := by simp [List.take_add_one, h]
  rw [this]
  unfold prsOf
  simp [prs2]
/-- what pairs keeps from turn to turn -/
def PairsJ (P D : Addr) (dobj : Obj) (pl : List (Addr × Obj)) (ns : List Int) (i : Nat) (m : Str → Option Value) (news : List (Addr × Obj)) : Prop :=
  ∃ vs c tl, news = (P, listOf vs.toArray c) :: (D, dobj) :: tl ∧ OwnOff tl [P] ∧ (∀ q ∈ pl, q ∈ tl) ∧ DatAll tl vs ((prsOf (ns.take i)).map pairD) ∧ m (Str.ofString "pairs") = some (.ref P)
section
variable {g h' : Heap} {L' I D P X A1 A2 : Addr} {it dobj : Obj} {st : Shared} {tk c i k k1 k2 : Nat} {m : Str → Option Value} {all tl pl : List (Addr × Obj)} {ns : List Int} {vs : List Value} {t1 t2 t3 t4 : Tok} {n x1 y1 x2 y2 : Int}
theorem pairs_end (F : Fr g L' h' m) (N : News g L' h' all) (hI : (I, it) ∈ all) (hP : (P, listOf (vs.toArray.toList ++ #[Value.ref A1, Value.ref A2].toList).toArray c) ∈ all)
    (h1 : (A1, tupOf #[.int x1 t1, .int y1 t2] k1) ∈ all) (h2 : (A2, tupOf #[.int x2 t3, .int y2 t4] k2) ∈ all) (hD : (D, dobj) ∈ all) (htl : ∀ q ∈ tl, q ∈ all)
    (hm : m (Str.ofString "pairs") = some (.ref P)) (hps : ns[i]? = some n) (off : OwnOff tl [P, I]) (a1 : @Ne Nat A1 P) (a2 : @Ne Nat A1 I) (a3 : @Ne Nat A2 P) (a4 : @Ne Nat A2 I) (hpl : ∀ q ∈ pl, q ∈ tl)
    (hA : DatAll tl vs ((prsOf (ns.take i)).map pairD)) (i1 : @Ne Nat P I) (i4 : @Ne Nat D I) (e1 : x1 = ((rN n : Nat) : Int)) (e2 : y1 = ((sN n : Nat) : Int)) (e3 : x2 = ((rN n : Nat) : Int)) (e4 : y2 = ((sN n - sN n % 4 + rN n % 4 : Nat) : Int)) :
    TurnEnd g L' I it (PairsJ P D dobj pl ns (i + 1)) st .next { st with heap := h', toks := tk } := by
  subst e1 e2 e3 e4
  have hv : (vs.toArray.toList ++ #[Value.ref A1, .ref A2].toList).toArray = (vs ++ [Value.ref A1, Value.ref A2]).toArray := by simp
  rw [hv] at hP
  refine TurnEnd.intro ((P, listOf (vs ++ [Value.ref A1, Value.ref A2]).toArray c) :: (D, dobj) :: ((A1, tupOf #[.int ((rN n : Nat) : Int) t1, .int ((sN n : Nat) : Int) t2] k1) :: (A2, tupOf #[.int ((rN n : Nat) : Int) t3, .int ((sN n - sN n % 4 + rN n % 4 : Nat) : Int) t4] k2) :: tl)) F N (fun q hq => ?_) (fun q hq => ?_) ⟨vs ++ [Value.ref A1, Value.ref A2], c, _, rfl, fun p hp b hb => ?_, fun q hq => .tail _ (.tail _ (hpl q hq)), ?_, hm⟩
  · simp only [List.mem_cons] at hq
    rcases hq with rfl | rfl | rfl | rfl | rfl | hq
    · exact hI
    · exact hP
    · exact hD
    · exact h1
    · exact h2
    · exact htl q hq
  · simp only [List.mem_cons] at hq
    rcases hq with rfl | rfl | rfl | rfl | hq
    · exact i1
    · exact i4
    · exact a2
    · exact a4
    · exact off q hq I (.tail _ (.head _))
  · rw [List.mem_singleton.mp hb]
    simp only [List.mem_cons] at hp
    rcases hp with rfl | rfl | hp
    · exact a1
    · exact a3
    · exact off p hp P (.head _)
  · rw [prs_snoc hps]
    refine (hA.mono fun q hq => .tail _ (.tail _ hq)).append (.cons ?_ (.cons ?_ .nil))
    · exact .tuple (vs := [_, _]) (.head _) (.cons (.int _ _) (.cons (.int _ _) .nil))
    · exact .tuple (vs := [_, _]) (.tail _ (.head _)) (.cons (.int _ _) (.cons (.int _ _) .nil))
end
theorem mem_get {vs : List Value} {ns : List Int} {i : Nat} {v : Value} (h : IntsAre vs ns) (hv : vs[i]? = some v) : ∃ n t, ns[i]? = some n ∧ v = .int n t := by
  have hl := h.length
  have hi : i < vs.length := by
    rcases Nat.lt_or_ge i vs.length with c | c
    · exact c
    · rw [List.getElem?_eq_none c] at hv; cases hv
  have hi2 : i < ns.length := by omega
  obtain ⟨t, ht⟩ := h.get i ns[i] (by simp [hi2])
  rw [hv] at ht
  exact ⟨ns[i], t, by simp [hi2], Option.some.inj ht⟩
theorem due_ok (r s : Nat) : kqdOk 8 (dueD (r, s)) = true := by
  have e : PyData.strOk (Str.ofString "a.b") = true := by decide +kernel
  unfold dueD
  unfold dueL
  split
  · simp [kqdOk, e]
  · simp [kqdOk]
theorem all_ok {prs : List (Nat × Nat)} : ∀ d ∈ allD prs, kqdOk 8 d = true := by
  intro d hd
  unfold allD at hd
  obtain ⟨q, _, hd⟩ := List.mem_flatMap.mp hd
  simp only [List.mem_cons, List.not_mem_nil, or_false, or_self] at hd
  subst hd
  exact due_ok q.1 q.2
end Mine
end
section
open PySem PySem.W PySem.Spec PySem.Calls PyProof.Rows
set_option maxRecDepth 100000
set_option maxHeartbeats 16000000
namespace Mine
local macro_rules | `(tactic| walk_at "own padding") => `(tactic| fail)
local macro_rules | `(tactic| walk_at "own padding") => `(tactic| fail)
local macro_rules | `(tactic| walk_at "own padding") => `(tactic| fail)
local macro_rules | `(tactic| walk_at "own padding") => `(tactic| fail)
local macro_rules | `(tactic| walk_at "own padding") => `(tactic| fail)
local macro_rules | `(tactic| walk_at "own padding") => `(tactic| fail)
local macro_rules | `(tactic| walk_at "own padding") => `(tactic| fail)
local macro_rules | `(tactic| walk_at "own padding") => `(tactic| fail)
local macro_rules | `(tactic| walk_at "own padding") => `(tactic| fail)
def Hold4 (P : Prop) : Prop := P
theorem Hold4.out {P : Prop} (h : Hold4 P) : P := h
local macro_rules | `(tactic| k_ne) => `(tactic| (refine neN ?_; (try dsimp only); (repeat (rename _ ∧ _ => hh; cases hh)); first | assumption | exact Ne.symm (by assumption) | exact Nat.ne_of_lt (by assumption) | exact Nat.ne_of_gt (by assumption) | omega))
local macro_rules | `(tactic| walk_at "my steps") => `(tactic| repeat' ((fail_if_success (with_reducible show Hold4 _)); (fail_if_success (with_reducible show TurnEnd _ _ _ _ _ _ _ _)); first | (k_unfold; (try dsimp only)) | (k_end; wrow_close) | walk1 | (dsimp only; walk1) | (leave1; walk_say "STEP leave1"; try dsimp only)))
local macro_rules | `(tactic| walk_at "exec For Name BinOp cons nil") => `(tactic| (k_here; (rename Fr _ _ _ _ => lF'); (with_unfolding_all refine' For_invVF lF' ?k1 ?k2 ?_; (case k1 => exact rfl); (case k2 => exact rfl); k_whole)))
local macro_rules | `(tactic| walk_at "pyIter ref") => `(tactic| (k_here; (with_reducible show wpAny _ _ (pyIter _) (fun _ _ => LoopAtV _ _ _ _ _ _ _ _ _ _ _) _ _); refine Hold4.out ?_))
local macro_rules | `(tactic| walk_at "call ref") => `(tactic| (k_here; (with_reducible show wpAny _ _ (call (Value.ref 160) _ _) _ _ _); refine Hold4.out ?_))
local macro_rules | `(tactic| walk_at "call ref") => `(tactic| (k_here; (with_reducible show wpAny _ _ (call (Value.ref 167) _ _) _ _ _); refine Hold4.out ?_))
local macro_rules | `(tactic| walk_at "compareOp Eq ref ref") => `(tactic| (k_here; refine Hold4.out ?_))
local macro_rules | `(tactic| walk_at "inplaceOp Add ref ref") => `(tactic| (k_here; k_dflt (refine' iadd_K ?F ?N ?b ?e ?ne ?U ?d ?_; (case F => k_asm); (case N => k_asm); (case b => k_mem); (case U => k_upd); (case e => exact rfl); (case ne => exact Nat.succ_ne_zero _); (case d => (simp only [List.size_toArray, List.length_cons, List.length_nil]; omega))); intro h' F' N'; (try k_sweep)))
local macro_rules | `(tactic| walk_at "inplaceOp Add ref") => `(tactic| (k_here; k_dflt (refine' iadd_K ?F ?N ?b ?e ?ne ?U ?d ?_; (case F => k_asm); (case N => k_asm); (case b => k_mem); (case U => k_upd); (case e => exact rfl); (case ne => exact Nat.succ_ne_zero _); (case d => (simp only [List.size_toArray, List.length_cons, List.length_nil]; omega))); intro h' F' N'; (try k_sweep)))
theorem dec_true (p : Prop) (i : Decidable p) (h : p) : @decide p i = true := decide_eq_true h
theorem law_holds (hl : ∀ w, Left w) : PySem.Challenge.rw_kl0068_01.Holds := by
  w_on
  o_law
  refine holds_open (q := vw) (loose := lo) (Xt := xt) (XP := XL vw []) (Yf := Hook.obs hk) (Ya := Hook.val hk) (YP := Hook.says hk) (N := 5064) hl (Hook.of hk) (Hook.keeps hk) (fun s e => xl_of s (Bool.and_eq_true_iff.mp e).1) XL.keeps (by rfl) (by rfl) (by rfl) (fun s e => recFacts_of (Bool.and_eq_true_iff.mp e).2) (by rfl) (by first | assumption | decide +kernel) (by decide +kernel) ⟨rfl, rfl, rfl, rfl, rfl, by decide +kernel⟩ ?hw ?hc
  case hw => w_witness2
  rename_i said
  clear hl said
  delta hk lo
  k_go0
  (all_goals try k_fold)
  k_steps
  rename_i P _ _ _ _ _ _ _ _ _ _ _ _ _ D ws _ F₀ N₀ hv l0
  delta Hold4
  have N₁ : News _ _ _ [(P, listOf ([] : List Value).toArray 0), (D, listOf ws.toArray 0), (131, tabObj #[])] := fun p hp => N₀ p (by simp only [List.mem_cons, List.not_mem_nil, or_false] at hp ⊢; rcases hp with rfl | rfl | rfl <;> simp)
  clear N₀
  obtain ⟨ns, hv, hn3⟩ : ∃ ns, IntsAre ws ns ∧ ns.length ≤ 3 := ⟨_, hv, by simp only [List.length_append, List.length_take, List.length_cons, List.length_nil]; omega⟩
  refine list_iterV (vs := ws) (nn := 0) (PairsJ P D (listOf ws.toArray 0) [(131, tabObj #[])] ns) rfl (.tail _ (.head _)) F₀ N₁ ⟨[], 0, [(131, tabObj #[])], rfl, ?off, fun _ h => h, .nil, rfl⟩ ?keep ?turn ?done
  case off =>
    intro p hp b hb
    rw [List.mem_singleton.mp hp, List.mem_singleton.mp hb]
    exact Nat.ne_of_lt (by assumption)
  case keep =>
    rintro i m' nx ⟨vs, c, tl, rfl, _⟩
    exact .tail _ (.head _)
  case turn =>
    rintro i v m₁ nx s₁ I it hvi ⟨h₁, k₁, rfl⟩ hI ⟨vs, c, tl, rfl, off, hpl, hA, hm⟩ F₁ N₁
    obtain ⟨n, t, hn, rfl⟩ := mem_get hv hvi
    rw [map_with hm] at F₁
    dsimp only at F₁ N₁
    have i1 : @Ne Nat P I := hI _ (.head _)
    have i4 : @Ne Nat D I := hI _ (.tail _ (.head _))
    have iPD : @Ne Nat P D := Nat.ne_of_lt l0.2.2.1
    have off2 : OwnOff tl [P, I] := by
      intro p hp b hb
      simp only [List.mem_cons, List.not_mem_nil, or_false] at hb
      rcases hb with rfl | rfl
      · exact off p hp _ (.head _)
      · exact hI p (.tail _ (.tail _ hp))
    have hvl : vs.length ≤ 6 := by
      have := hA.length
      rw [List.length_map, prs_len, List.length_take] at this
      omega
    clear hI off l0
    walk_at "my steps"
    k_dflt (refine' pairs_end (by assumption) (by assumption) ?e1 ?e2 ?e3 ?e4 ?e5 ?e6 rfl hn off2 ?n1 ?n2 ?n3 ?n4 hpl hA i1 i4 (rN_is n) (sN_is n) (rN_is n) (s2_is n); (case e1 => k_mem); (case e2 => k_mem); (case e3 => k_mem); (case e4 => k_mem); (case e5 => k_mem); (case e6 => (intro q hq; k_ownIn)))
    all_goals k_ne
  case done =>
    rintro m₁ nx h₁ tk₁ ⟨vs, c, tl, rfl, off, hpl, hA, hm⟩ F₁ N₁
    rw [show ws.length = ns.length from hv.length, List.take_length] at hA
    rw [map_with hm] at F₁
    have N₂ : News _ _ _ ((P, listOf vs.toArray c) :: (131, tabObj #[]) :: tl) := fun p hp => N₁ p (by
      simp only [List.mem_cons] at hp ⊢
      rcases hp with rfl | rfl | hp
      · exact .inl rfl
      · exact .inr (.inr (hpl _ (.head _)))
      · exact .inr (.inr hp))
    clear N₁ off
    walk_at "my steps"
    delta Hold4
    rename News _ _ _ ((P, _) :: _) => N₃
    k_dflt (refine' ask_use (ct_told _ _ P c vs tl (prsOf ns) ?a1 ?a2 hA prs_lt ?a3) ?aB ?aF ?aX ?aN ?aT ?ak ?ad ?au ?_; (case aB => k_asm); (case aF => k_asm); (case aX => k_asm); (case aN => exact N₃); (case aT => k_asm); (case ak => exact rfl); (case ad => ktr_room); (case au => ktr_units); (case a1 => exact .head _); (case a2 => exact fun q hq => .tail _ (.tail _ hq)); (case a3 => (rw [prs_len]; omega)))
    intro D1 vs1 c1 tl1 h1 q1 F1 N4 hD1
    try dsimp only
    have N5 : News _ _ _ ((D1, listOf vs1.toArray c1) :: (P, listOf vs.toArray c) :: (131, tabObj #[]) :: (tl1 ++ tl)) := fun p hp => N4 p (by
      simp only [List.mem_cons, List.mem_append] at hp ⊢
      rcases hp with hp | hp | hp | hp | hp
      · exact .inl hp
      · exact .inr (.inr (.inl hp))
      · exact .inr (.inr (.inr (.inl hp)))
      · exact .inr (.inl hp)
      · exact .inr (.inr (.inr (.inr hp))))
    clear N4 N₃
    generalize hE : tl1 ++ tl = tl3 at N5
    have s1 : ∀ q ∈ tl1, q ∈ tl3 := fun q hq => hE ▸ List.mem_append_left _ hq
    have s2 : ∀ q ∈ tl, q ∈ tl3 := fun q hq => hE ▸ List.mem_append_right _ hq
    clear hE
    walk_at "my steps"
    delta Hold4
    rename News _ _ _ ((D1, _) :: _) => N6
    k_dflt (refine' ask_use (ct_due _ _ P c vs tl (prsOf ns) ?b1 ?b2 hA prs_lt ?b3) ?bB ?bF ?bX ?bN ?bT ?bk ?bd ?bu ?_; (case bB => k_asm); (case bF => k_asm); (case bX => k_asm); (case bN => exact N6); (case bT => k_asm); (case bk => exact rfl); (case bd => ktr_room); (case bu => ktr_units); (case b1 => exact .tail _ (.head _)); (case b2 => exact fun q hq => .tail _ (.tail _ (.tail _ (s2 q hq)))); (case b3 => (rw [prs_len]; omega)))
    intro D2 vs2 c2 tl2 h2 q2 F2 N7 hD2
    try dsimp only
    have N8 : News _ _ _ [(131, tabObj #[])] := fun p hp => N7 p (.tail _ (List.mem_append_right _ (.tail _ (.tail _ (List.mem_singleton.mp hp ▸ .head _)))))
    walk_at "my steps"
    delta Hold4
    refine kqd_eq (oa := listOf vs1.toArray c1) (ob := listOf vs2.toArray c2) (ka := c1) (kb := c2) (xs := vs1) (ys := vs2) (n₁ := tl1) (n₂ := tl2) (ds := allD (prsOf ns)) (es := allD (prsOf ns)) N7 ?m1 rfl rfl hD1 ?m2 (.head _) rfl rfl hD2 ?m3 all_ok all_ok ?m4 ?_
    case m1 => exact .tail _ (List.mem_append_right _ (.head _))
    case m2 => exact fun q hq => .tail _ (List.mem_append_right _ (.tail _ (.tail _ (.tail _ (s1 q hq)))))
    case m3 => exact fun q hq => .tail _ (List.mem_append_left _ hq)
    case m4 => ke_room
    rw [dec_true _ _ rfl]
    clear N7
    walk_at "my steps"
end Mine
end
set_option maxRecDepth 100000 in
set_option maxHeartbeats 8000000 in
theorem PySem.Challenge.cw_kl0068_01_holds : PySem.Challenge.rw_kl0068_01.Holds := by
  exact Mine.law_holds Mine.left_all
