import PyProof.Rows.All
import Wide.All
import OpenK.AllK
import Wide.FinOn
import Lean
import PySem.Challenge.RW_qy0005_08
section
open PySem PySem.W PyProof.Rows
set_option Elab.async false
set_option linter.unusedVariables false
namespace Mine
/- the parts of the given program: by place, never copied -/
def nth : List Stmt → Nat → Stmt
  | [], _ => .Pass ⟨0, 0, 0, 0⟩
  | s :: _, 0 => s
  | _ :: r, n + 1 => nth r n
def dArgs : Stmt → Arguments
  | .FunctionDef _ a _ _ _ _ _ _ _ _ => a
  | _ => ⟨[], [], none, [], [], none, []⟩
def dBody : Stmt → List Stmt
  | .FunctionDef _ _ b _ _ _ _ _ _ _ => b
  | .ClassDef _ _ _ b _ _ _ _ _ _ _ => b
  | _ => []
def dScope : Stmt → Scope
  | .FunctionDef _ _ _ _ _ _ s _ _ _ => s
  | _ => PySem.Challenge.pw_qy0005_08.main.scope
def D1 (i : Nat) : Stmt := nth PySem.Challenge.pw_qy0005_08.main.body i
def D2 (i j : Nat) : Stmt := nth (dBody (D1 i)) j
set_option maxRecDepth 100000
@[reducible] noncomputable def o11 (P : Params) : Obj := ⟨(.type "tuple"), none, (.seq #[] 0), #[]⟩
@[reducible] noncomputable def o12 (P : Params) : Obj := ⟨.none, none, (.fields #[]), #[]⟩
@[reducible] noncomputable def o13 (P : Params) : Obj := ⟨(.type "code"), none, (.fields #[(.str (Str.ofString "<module>") 182), (.str (Str.ofString "<module>") 183), (.str (Str.ofString "/claim/cut.py") 184), (.int 1 0), (.int 0 0), (.int 0 0), (.int 0 0), (.int 0 0), (.ref 11), (.bool false), (.int 181 0), (.ref 12), .none, .none, .none, .none, (.int 185 0), (.int 1 0), (.str (Str.ofString "/claim/cut.py") 186)]), #[]⟩
@[reducible] noncomputable def o14 (P : Params) : Obj := ⟨(.type "frame"), none, .plain, #[(some (.ref 13)), (some (.ref 3)), (some (.ref 3)), none, (some (.str (Str.ofString "__main__") 164)), none, (some (.ref 0))]⟩
@[reducible] noncomputable def heapA (P : Params) : Heap := ⟨⟨[boot_o_0 P, boot_o_1 P, boot_o_2 P, boot_o_3 P, boot_o_4 P, boot_o_5 P, boot_o_6 P, boot_o_7 P, boot_o_8 P, boot_o_9 P, boot_o_10 P, o11 P, o12 P, o13 P, o14 P]⟩, {}⟩
@[reducible] noncomputable def t0 (P : Params) : BT := (.node (boot_o_0 P) (.node (boot_o_1 P) (.node (boot_o_3 P) (.node (boot_o_7 P) .nil .nil) (.node (o11 P) .nil .nil)) (.node (boot_o_5 P) (.node (boot_o_9 P) .nil .nil) (.node (o13 P) .nil .nil))) (.node (boot_o_2 P) (.node (boot_o_4 P) (.node (boot_o_8 P) .nil .nil) (.node (o12 P) .nil .nil)) (.node (boot_o_6 P) (.node (boot_o_10 P) .nil .nil) (.node (o14 P) .nil .nil))))
@[reducible] noncomputable def o3 (P : Params) : Obj := ⟨(.type "dict"), none, (.dict #[⟨(PyData.keyHash P (Str.ofString "__name__")), (.str (Str.ofString "__name__") 165), (.str (Str.ofString "html5lib.constants") 194)⟩, ⟨(PyData.keyHash P (Str.ofString "__doc__")), (.str (Str.ofString "__doc__") 166), .none⟩, ⟨(PyData.keyHash P (Str.ofString "__package__")), (.str (Str.ofString "__package__") 167), .none⟩, ⟨(PyData.keyHash P (Str.ofString "__loader__")), (.str (Str.ofString "__loader__") 168), (.builtin "__main__.__loader__#opaque")⟩, ⟨(PyData.keyHash P (Str.ofString "__spec__")), (.str (Str.ofString "__spec__") 169), .none⟩, ⟨(PyData.keyHash P (Str.ofString "__annotations__")), (.str (Str.ofString "__annotations__") 170), (.ref 6)⟩, ⟨(PyData.keyHash P (Str.ofString "__builtins__")), (.str (Str.ofString "__builtins__") 171), (.ref 4)⟩, ⟨(PyData.keyHash P (Str.ofString "__file__")), (.str (Str.ofString "__file__") 173), (.str (Str.ofString "/claim/cut.py") 172)⟩, ⟨(PyData.keyHash P (Str.ofString "__cached__")), (.str (Str.ofString "__cached__") 174), .none⟩, ⟨(PyData.keyHash P (Str.ofString "_wall")), (.str (Str.ofString "_wall") 193), (.ref 21)⟩, ⟨(PyData.keyHash P (Str.ofString "EOF")), (.str (Str.ofString "EOF") 196), .none⟩, ⟨(PyData.keyHash P (Str.ofString "spaceCharacters")), (.str (Str.ofString "spaceCharacters") 202), (.ref 22)⟩, ⟨(PyData.keyHash P (Str.ofString "asciiLetters")), (.str (Str.ofString "asciiLetters") 256), (.ref 27)⟩, ⟨(PyData.keyHash P (Str.ofString "digits")), (.str (Str.ofString "digits") 268), (.ref 32)⟩, ⟨(PyData.keyHash P (Str.ofString "hexDigits")), (.str (Str.ofString "hexDigits") 292), (.ref 37)⟩, ⟨(PyData.keyHash P (Str.ofString "asciiLower")), (.str (Str.ofString "asciiLower") 298), (.ref 42)⟩, ⟨(PyData.keyHash P (Str.ofString "entities")), (.str (Str.ofString "entities") 428), (.ref 43)⟩, ⟨(PyData.keyHash P (Str.ofString "replacementCharacters")), (.str (Str.ofString "replacementCharacters") 531), (.ref 46)⟩, ⟨(PyData.keyHash P (Str.ofString "tokenTypes")), (.str (Str.ofString "tokenTypes") 556), (.ref 48)⟩, ⟨(PyData.keyHash P (Str.ofString "tagTokenTypes")), (.str (Str.ofString "tagTokenTypes") 563), (.ref 49)⟩] 20), #[]⟩
@[reducible] noncomputable def o12' (P : Params) : Obj := ⟨.none, none, (.fields #[(.int 1 0), (.int 0 0), (.ref 20), (.int 10 0), (.int 0 0), (.ref 41)]), #[]⟩
@[reducible] noncomputable def o15 (P : Params) : Obj := ⟨(.type "tuple"), none, (.seq #[] 0), #[]⟩
@[reducible] noncomputable def o16 (P : Params) : Obj := ⟨.none, none, (.fields #[]), #[]⟩
@[reducible] noncomputable def o17 (P : Params) : Obj := ⟨(.type "tuple"), none, (.seq #[(.str (Str.ofString "k") 190)] 0), #[]⟩
@[reducible] noncomputable def o18 (P : Params) : Obj := ⟨(.type "tuple"), none, (.seq #[] 0), #[]⟩
@[reducible] noncomputable def o19 (P : Params) : Obj := ⟨.none, none, (.func ⟨(Str.ofString "_wall"), (Str.ofString "_wall"), (dArgs (D1 0)), .stmts (dBody (D1 0)), (dScope (D1 0)), 0, [], .none, .none, .none, .none, none, .none, .none, 0⟩), #[]⟩
@[reducible] noncomputable def o20 (P : Params) : Obj := ⟨(.type "code"), none, (.fields #[(.str (Str.ofString "_wall") 187), (.str (Str.ofString "_wall") 188), (.str (Str.ofString "/claim/cut.py") 189), (.int 1 0), (.int 1 0), (.int 0 0), (.int 0 0), (.int 3 0), (.ref 15), (.bool true), (.int 181 0), (.ref 16), .none, (.ref 17), (.ref 18), (.ref 19), (.int 191 0), (.int 1 0), (.str (Str.ofString "/claim/cut.py") 192)]), #[]⟩
@[reducible] noncomputable def o21 (P : Params) : Obj := ⟨(.type "function"), none, (.func ⟨(Str.ofString "_wall"), (Str.ofString "_wall"), (dArgs (D1 0)), .stmts (dBody (D1 0)), (dScope (D1 0)), 3, [], .none, .none, .none, (.str (Str.ofString "__main__") 164), none, (.ref 20), .none, 0⟩), #[]⟩
@[reducible] noncomputable def o22 (P : Params) : Obj := ⟨(.type "tuple"), none, (.seq #[(.str (Str.ofString "\x09") 197), (.str (Str.ofString "\x0a") 198), (.str (Str.ofString "\x0c") 199), (.str (Str.ofString " ") 200), (.str (Str.ofString "\x0d") 201)] 0), #[]⟩
@[reducible] noncomputable def o23 (P : Params) : Obj := ⟨(.type "list"), none, (.seq #[(.str (Str.ofString "a") 204), (.str (Str.ofString "b") 205), (.str (Str.ofString "c") 206), (.str (Str.ofString "d") 207), (.str (Str.ofString "e") 208), (.str (Str.ofString "f") 209), (.str (Str.ofString "g") 210), (.str (Str.ofString "h") 211), (.str (Str.ofString "i") 212), (.str (Str.ofString "j") 213), (.str (Str.ofString "k") 214), (.str (Str.ofString "l") 215), (.str (Str.ofString "m") 216), (.str (Str.ofString "n") 217), (.str (Str.ofString "o") 218), (.str (Str.ofString "p") 219), (.str (Str.ofString "q") 220), (.str (Str.ofString "r") 221), (.str (Str.ofString "s") 222), (.str (Str.ofString "t") 223), (.str (Str.ofString "u") 224), (.str (Str.ofString "v") 225), (.str (Str.ofString "w") 226), (.str (Str.ofString "x") 227), (.str (Str.ofString "y") 228), (.str (Str.ofString "z") 229), (.str (Str.ofString "A") 230), (.str (Str.ofString "B") 231), (.str (Str.ofString "C") 232), (.str (Str.ofString "D") 233), (.str (Str.ofString "E") 234), (.str (Str.ofString "F") 235), (.str (Str.ofString "G") 236), (.str (Str.ofString "H") 237), (.str (Str.ofString "I") 238), (.str (Str.ofString "J") 239), (.str (Str.ofString "K") 240), (.str (Str.ofString "L") 241), (.str (Str.ofString "M") 242), (.str (Str.ofString "N") 243), (.str (Str.ofString "O") 244), (.str (Str.ofString "P") 245), (.str (Str.ofString "Q") 246), (.str (Str.ofString "R") 247), (.str (Str.ofString "S") 248), (.str (Str.ofString "T") 249), (.str (Str.ofString "U") 250), (.str (Str.ofString "V") 251), (.str (Str.ofString "W") 252), (.str (Str.ofString "X") 253), (.str (Str.ofString "Y") 254), (.str (Str.ofString "Z") 255)] 52), #[]⟩
@[reducible] noncomputable def o24 (P : Params) : Obj := ⟨(.type "str_ascii_iterator"), none, (.fields #[.none, (.int 52 0)]), #[]⟩
@[reducible] noncomputable def o25 (P : Params) : Obj := ⟨(.type "tuple"), none, (.seq #[] 0), #[]⟩
@[reducible] noncomputable def o26 (P : Params) : Obj := ⟨(.type "StopIteration"), none, (.fields #[(.ref 25), .none, .none, .none, (.bool false), .none]), #[]⟩
@[reducible] noncomputable def o27 (P : Params) : Obj := ⟨(.type "tuple"), none, (.seq #[(.str (Str.ofString "a") 204), (.str (Str.ofString "b") 205), (.str (Str.ofString "c") 206), (.str (Str.ofString "d") 207), (.str (Str.ofString "e") 208), (.str (Str.ofString "f") 209), (.str (Str.ofString "g") 210), (.str (Str.ofString "h") 211), (.str (Str.ofString "i") 212), (.str (Str.ofString "j") 213), (.str (Str.ofString "k") 214), (.str (Str.ofString "l") 215), (.str (Str.ofString "m") 216), (.str (Str.ofString "n") 217), (.str (Str.ofString "o") 218), (.str (Str.ofString "p") 219), (.str (Str.ofString "q") 220), (.str (Str.ofString "r") 221), (.str (Str.ofString "s") 222), (.str (Str.ofString "t") 223), (.str (Str.ofString "u") 224), (.str (Str.ofString "v") 225), (.str (Str.ofString "w") 226), (.str (Str.ofString "x") 227), (.str (Str.ofString "y") 228), (.str (Str.ofString "z") 229), (.str (Str.ofString "A") 230), (.str (Str.ofString "B") 231), (.str (Str.ofString "C") 232), (.str (Str.ofString "D") 233), (.str (Str.ofString "E") 234), (.str (Str.ofString "F") 235), (.str (Str.ofString "G") 236), (.str (Str.ofString "H") 237), (.str (Str.ofString "I") 238), (.str (Str.ofString "J") 239), (.str (Str.ofString "K") 240), (.str (Str.ofString "L") 241), (.str (Str.ofString "M") 242), (.str (Str.ofString "N") 243), (.str (Str.ofString "O") 244), (.str (Str.ofString "P") 245), (.str (Str.ofString "Q") 246), (.str (Str.ofString "R") 247), (.str (Str.ofString "S") 248), (.str (Str.ofString "T") 249), (.str (Str.ofString "U") 250), (.str (Str.ofString "V") 251), (.str (Str.ofString "W") 252), (.str (Str.ofString "X") 253), (.str (Str.ofString "Y") 254), (.str (Str.ofString "Z") 255)] 0), #[]⟩
@[reducible] noncomputable def o28 (P : Params) : Obj := ⟨(.type "list"), none, (.seq #[(.str (Str.ofString "0") 258), (.str (Str.ofString "1") 259), (.str (Str.ofString "2") 260), (.str (Str.ofString "3") 261), (.str (Str.ofString "4") 262), (.str (Str.ofString "5") 263), (.str (Str.ofString "6") 264), (.str (Str.ofString "7") 265), (.str (Str.ofString "8") 266), (.str (Str.ofString "9") 267)] 10), #[]⟩
@[reducible] noncomputable def o29 (P : Params) : Obj := ⟨(.type "str_ascii_iterator"), none, (.fields #[.none, (.int 10 0)]), #[]⟩
@[reducible] noncomputable def o30 (P : Params) : Obj := ⟨(.type "tuple"), none, (.seq #[] 0), #[]⟩
@[reducible] noncomputable def o31 (P : Params) : Obj := ⟨(.type "StopIteration"), none, (.fields #[(.ref 30), .none, .none, .none, (.bool false), .none]), #[]⟩
@[reducible] noncomputable def o32 (P : Params) : Obj := ⟨(.type "tuple"), none, (.seq #[(.str (Str.ofString "0") 258), (.str (Str.ofString "1") 259), (.str (Str.ofString "2") 260), (.str (Str.ofString "3") 261), (.str (Str.ofString "4") 262), (.str (Str.ofString "5") 263), (.str (Str.ofString "6") 264), (.str (Str.ofString "7") 265), (.str (Str.ofString "8") 266), (.str (Str.ofString "9") 267)] 0), #[]⟩
@[reducible] noncomputable def o33 (P : Params) : Obj := ⟨(.type "list"), none, (.seq #[(.str (Str.ofString "0") 270), (.str (Str.ofString "1") 271), (.str (Str.ofString "2") 272), (.str (Str.ofString "3") 273), (.str (Str.ofString "4") 274), (.str (Str.ofString "5") 275), (.str (Str.ofString "6") 276), (.str (Str.ofString "7") 277), (.str (Str.ofString "8") 278), (.str (Str.ofString "9") 279), (.str (Str.ofString "a") 280), (.str (Str.ofString "b") 281), (.str (Str.ofString "c") 282), (.str (Str.ofString "d") 283), (.str (Str.ofString "e") 284), (.str (Str.ofString "f") 285), (.str (Str.ofString "A") 286), (.str (Str.ofString "B") 287), (.str (Str.ofString "C") 288), (.str (Str.ofString "D") 289), (.str (Str.ofString "E") 290), (.str (Str.ofString "F") 291)] 22), #[]⟩
@[reducible] noncomputable def o34 (P : Params) : Obj := ⟨(.type "str_ascii_iterator"), none, (.fields #[.none, (.int 22 0)]), #[]⟩
@[reducible] noncomputable def o35 (P : Params) : Obj := ⟨(.type "tuple"), none, (.seq #[] 0), #[]⟩
@[reducible] noncomputable def o36 (P : Params) : Obj := ⟨(.type "StopIteration"), none, (.fields #[(.ref 35), .none, .none, .none, (.bool false), .none]), #[]⟩
@[reducible] noncomputable def o37 (P : Params) : Obj := ⟨(.type "tuple"), none, (.seq #[(.str (Str.ofString "0") 270), (.str (Str.ofString "1") 271), (.str (Str.ofString "2") 272), (.str (Str.ofString "3") 273), (.str (Str.ofString "4") 274), (.str (Str.ofString "5") 275), (.str (Str.ofString "6") 276), (.str (Str.ofString "7") 277), (.str (Str.ofString "8") 278), (.str (Str.ofString "9") 279), (.str (Str.ofString "a") 280), (.str (Str.ofString "b") 281), (.str (Str.ofString "c") 282), (.str (Str.ofString "d") 283), (.str (Str.ofString "e") 284), (.str (Str.ofString "f") 285), (.str (Str.ofString "A") 286), (.str (Str.ofString "B") 287), (.str (Str.ofString "C") 288), (.str (Str.ofString "D") 289), (.str (Str.ofString "E") 290), (.str (Str.ofString "F") 291)] 0), #[]⟩
@[reducible] noncomputable def o38 (P : Params) : Obj := ⟨(.type "tuple"), none, (.seq #[] 0), #[]⟩
@[reducible] noncomputable def o39 (P : Params) : Obj := ⟨.none, none, (.fields #[]), #[]⟩
@[reducible] noncomputable def o40 (P : Params) : Obj := ⟨.none, none, (.func ⟨(Str.ofString "asciiLower"), (Str.ofString "asciiLower"), (dArgs (D1 7)), .stmts (dBody (D1 7)), (dScope (D1 7)), 0, [], .none, .none, .none, .none, none, .none, .none, 0⟩), #[]⟩
@[reducible] noncomputable def o41 (P : Params) : Obj := ⟨(.type "code"), none, (.fields #[(.str (Str.ofString "asciiLower") 293), (.str (Str.ofString "asciiLower") 294), (.str (Str.ofString "/claim/cut.py") 295), (.int 10 0), (.int 1 0), (.int 0 0), (.int 0 0), (.int 3 0), (.ref 38), (.bool true), (.int 181 0), (.ref 39), .none, .none, .none, (.ref 40), (.int 296 0), (.int 10 0), (.str (Str.ofString "/claim/cut.py") 297)]), #[]⟩
@[reducible] noncomputable def o42 (P : Params) : Obj := ⟨(.type "function"), none, (.func ⟨(Str.ofString "asciiLower"), (Str.ofString "asciiLower"), (dArgs (D1 7)), .stmts (dBody (D1 7)), (dScope (D1 7)), 3, [], .none, .none, .none, (.str (Str.ofString "html5lib.constants") 194), none, (.ref 41), .none, 0⟩), #[]⟩
@[reducible] noncomputable def o43 (P : Params) : Obj := ⟨(.type "dict"), none, (.dict #[⟨(PyData.keyHash P (Str.ofString "AMP")), (.str (Str.ofString "AMP") 299), (.str (Str.ofString "&") 300)⟩, ⟨(PyData.keyHash P (Str.ofString "AMP;")), (.str (Str.ofString "AMP;") 302), (.str (Str.ofString "&") 303)⟩, ⟨(PyData.keyHash P (Str.ofString "Eacute")), (.str (Str.ofString "Eacute") 305), (.str (Str.ofString "É") 306)⟩, ⟨(PyData.keyHash P (Str.ofString "Eacute;")), (.str (Str.ofString "Eacute;") 308), (.str (Str.ofString "É") 309)⟩, ⟨(PyData.keyHash P (Str.ofString "Mopf;")), (.str (Str.ofString "Mopf;") 311), (.str (Str.ofString "𝕄") 312)⟩, ⟨(PyData.keyHash P (Str.ofString "ac;")), (.str (Str.ofString "ac;") 314), (.str (Str.ofString "∾") 315)⟩, ⟨(PyData.keyHash P (Str.ofString "acE;")), (.str (Str.ofString "acE;") 317), (.str (Str.ofString "∾̳") 318)⟩, ⟨(PyData.keyHash P (Str.ofString "acute")), (.str (Str.ofString "acute") 320), (.str (Str.ofString "´") 321)⟩, ⟨(PyData.keyHash P (Str.ofString "acute;")), (.str (Str.ofString "acute;") 323), (.str (Str.ofString "´") 324)⟩, ⟨(PyData.keyHash P (Str.ofString "amp")), (.str (Str.ofString "amp") 326), (.str (Str.ofString "&") 327)⟩, ⟨(PyData.keyHash P (Str.ofString "amp;")), (.str (Str.ofString "amp;") 329), (.str (Str.ofString "&") 330)⟩, ⟨(PyData.keyHash P (Str.ofString "ang;")), (.str (Str.ofString "ang;") 332), (.str (Str.ofString "∠") 333)⟩, ⟨(PyData.keyHash P (Str.ofString "angle;")), (.str (Str.ofString "angle;") 335), (.str (Str.ofString "∠") 336)⟩, ⟨(PyData.keyHash P (Str.ofString "bne;")), (.str (Str.ofString "bne;") 338), (.str (Str.ofString "=⃥") 339)⟩, ⟨(PyData.keyHash P (Str.ofString "copy")), (.str (Str.ofString "copy") 341), (.str (Str.ofString "©") 342)⟩, ⟨(PyData.keyHash P (Str.ofString "copy;")), (.str (Str.ofString "copy;") 344), (.str (Str.ofString "©") 345)⟩, ⟨(PyData.keyHash P (Str.ofString "eacute")), (.str (Str.ofString "eacute") 347), (.str (Str.ofString "é") 348)⟩, ⟨(PyData.keyHash P (Str.ofString "eacute;")), (.str (Str.ofString "eacute;") 350), (.str (Str.ofString "é") 351)⟩, ⟨(PyData.keyHash P (Str.ofString "frac12")), (.str (Str.ofString "frac12") 353), (.str (Str.ofString "½") 354)⟩, ⟨(PyData.keyHash P (Str.ofString "frac12;")), (.str (Str.ofString "frac12;") 356), (.str (Str.ofString "½") 357)⟩, ⟨(PyData.keyHash P (Str.ofString "gt")), (.str (Str.ofString "gt") 359), (.str (Str.ofString ">") 360)⟩, ⟨(PyData.keyHash P (Str.ofString "gt;")), (.str (Str.ofString "gt;") 362), (.str (Str.ofString ">") 363)⟩, ⟨(PyData.keyHash P (Str.ofString "lt")), (.str (Str.ofString "lt") 365), (.str (Str.ofString "<") 366)⟩, ⟨(PyData.keyHash P (Str.ofString "lt;")), (.str (Str.ofString "lt;") 368), (.str (Str.ofString "<") 369)⟩, ⟨(PyData.keyHash P (Str.ofString "nbsp")), (.str (Str.ofString "nbsp") 371), (.str (Str.ofString " ") 372)⟩, ⟨(PyData.keyHash P (Str.ofString "nbsp;")), (.str (Str.ofString "nbsp;") 374), (.str (Str.ofString " ") 375)⟩, ⟨(PyData.keyHash P (Str.ofString "not")), (.str (Str.ofString "not") 377), (.str (Str.ofString "¬") 378)⟩, ⟨(PyData.keyHash P (Str.ofString "not;")), (.str (Str.ofString "not;") 380), (.str (Str.ofString "¬") 381)⟩, ⟨(PyData.keyHash P (Str.ofString "notin;")), (.str (Str.ofString "notin;") 383), (.str (Str.ofString "∉") 384)⟩, ⟨(PyData.keyHash P (Str.ofString "notni;")), (.str (Str.ofString "notni;") 386), (.str (Str.ofString "∌") 387)⟩, ⟨(PyData.keyHash P (Str.ofString "para")), (.str (Str.ofString "para") 389), (.str (Str.ofString "¶") 390)⟩, ⟨(PyData.keyHash P (Str.ofString "para;")), (.str (Str.ofString "para;") 392), (.str (Str.ofString "¶") 393)⟩, ⟨(PyData.keyHash P (Str.ofString "parallel;")), (.str (Str.ofString "parallel;") 395), (.str (Str.ofString "∥") 396)⟩, ⟨(PyData.keyHash P (Str.ofString "quot")), (.str (Str.ofString "quot") 398), (.str (Str.ofString "\"") 399)⟩, ⟨(PyData.keyHash P (Str.ofString "quot;")), (.str (Str.ofString "quot;") 401), (.str (Str.ofString "\"") 402)⟩, ⟨(PyData.keyHash P (Str.ofString "sup1")), (.str (Str.ofString "sup1") 403), (.str (Str.ofString "¹") 404)⟩, ⟨(PyData.keyHash P (Str.ofString "sup1;")), (.str (Str.ofString "sup1;") 405), (.str (Str.ofString "¹") 406)⟩, ⟨(PyData.keyHash P (Str.ofString "sup2")), (.str (Str.ofString "sup2") 407), (.str (Str.ofString "²") 408)⟩, ⟨(PyData.keyHash P (Str.ofString "sup2;")), (.str (Str.ofString "sup2;") 409), (.str (Str.ofString "²") 410)⟩, ⟨(PyData.keyHash P (Str.ofString "sup;")), (.str (Str.ofString "sup;") 411), (.str (Str.ofString "⊃") 412)⟩, ⟨(PyData.keyHash P (Str.ofString "times")), (.str (Str.ofString "times") 413), (.str (Str.ofString "×") 414)⟩, ⟨(PyData.keyHash P (Str.ofString "times;")), (.str (Str.ofString "times;") 415), (.str (Str.ofString "×") 416)⟩, ⟨(PyData.keyHash P (Str.ofString "timesb;")), (.str (Str.ofString "timesb;") 417), (.str (Str.ofString "⊠") 418)⟩] 43), #[]⟩
@[reducible] noncomputable def o44 (P : Params) : Obj := ⟨(.type "dict"), none, (.dict #[⟨(PyData.keyHash P (Str.ofString "eacute;")), (.str (Str.ofString "eacute;") 350), (.str (Str.ofString "é") 351)⟩, ⟨(PyData.keyHash P (Str.ofString "frac12")), (.str (Str.ofString "frac12") 353), (.str (Str.ofString "½") 354)⟩, ⟨(PyData.keyHash P (Str.ofString "frac12;")), (.str (Str.ofString "frac12;") 356), (.str (Str.ofString "½") 357)⟩, ⟨(PyData.keyHash P (Str.ofString "gt")), (.str (Str.ofString "gt") 359), (.str (Str.ofString ">") 360)⟩, ⟨(PyData.keyHash P (Str.ofString "gt;")), (.str (Str.ofString "gt;") 362), (.str (Str.ofString ">") 363)⟩, ⟨(PyData.keyHash P (Str.ofString "lt")), (.str (Str.ofString "lt") 365), (.str (Str.ofString "<") 366)⟩, ⟨(PyData.keyHash P (Str.ofString "lt;")), (.str (Str.ofString "lt;") 368), (.str (Str.ofString "<") 369)⟩, ⟨(PyData.keyHash P (Str.ofString "nbsp")), (.str (Str.ofString "nbsp") 371), (.str (Str.ofString " ") 372)⟩, ⟨(PyData.keyHash P (Str.ofString "nbsp;")), (.str (Str.ofString "nbsp;") 374), (.str (Str.ofString " ") 375)⟩, ⟨(PyData.keyHash P (Str.ofString "not")), (.str (Str.ofString "not") 377), (.str (Str.ofString "¬") 378)⟩, ⟨(PyData.keyHash P (Str.ofString "not;")), (.str (Str.ofString "not;") 380), (.str (Str.ofString "¬") 381)⟩, ⟨(PyData.keyHash P (Str.ofString "notin;")), (.str (Str.ofString "notin;") 383), (.str (Str.ofString "∉") 384)⟩, ⟨(PyData.keyHash P (Str.ofString "notni;")), (.str (Str.ofString "notni;") 386), (.str (Str.ofString "∌") 387)⟩, ⟨(PyData.keyHash P (Str.ofString "para")), (.str (Str.ofString "para") 389), (.str (Str.ofString "¶") 390)⟩, ⟨(PyData.keyHash P (Str.ofString "para;")), (.str (Str.ofString "para;") 392), (.str (Str.ofString "¶") 393)⟩, ⟨(PyData.keyHash P (Str.ofString "parallel;")), (.str (Str.ofString "parallel;") 395), (.str (Str.ofString "∥") 396)⟩, ⟨(PyData.keyHash P (Str.ofString "quot")), (.str (Str.ofString "quot") 398), (.str (Str.ofString "\"") 399)⟩] 17), #[]⟩
@[reducible] noncomputable def o45 (P : Params) : Obj := ⟨(.type "dict"), none, (.dict #[⟨(PyData.keyHash P (Str.ofString "quot;")), (.str (Str.ofString "quot;") 401), (.str (Str.ofString "\"") 402)⟩, ⟨(PyData.keyHash P (Str.ofString "sup1")), (.str (Str.ofString "sup1") 403), (.str (Str.ofString "¹") 404)⟩, ⟨(PyData.keyHash P (Str.ofString "sup1;")), (.str (Str.ofString "sup1;") 405), (.str (Str.ofString "¹") 406)⟩, ⟨(PyData.keyHash P (Str.ofString "sup2")), (.str (Str.ofString "sup2") 407), (.str (Str.ofString "²") 408)⟩, ⟨(PyData.keyHash P (Str.ofString "sup2;")), (.str (Str.ofString "sup2;") 409), (.str (Str.ofString "²") 410)⟩, ⟨(PyData.keyHash P (Str.ofString "sup;")), (.str (Str.ofString "sup;") 411), (.str (Str.ofString "⊃") 412)⟩, ⟨(PyData.keyHash P (Str.ofString "times")), (.str (Str.ofString "times") 413), (.str (Str.ofString "×") 414)⟩, ⟨(PyData.keyHash P (Str.ofString "times;")), (.str (Str.ofString "times;") 415), (.str (Str.ofString "×") 416)⟩, ⟨(PyData.keyHash P (Str.ofString "timesb;")), (.str (Str.ofString "timesb;") 417), (.str (Str.ofString "⊠") 418)⟩] 9), #[]⟩
@[reducible] noncomputable def o46 (P : Params) : Obj := ⟨(.type "dict"), none, (.dict #[⟨0, (.int 0 429), (.str (Str.ofString "�") 430)⟩, ⟨13, (.int 13 432), (.str (Str.ofString "\x0d") 433)⟩, ⟨128, (.int 128 435), (.str (Str.ofString "€") 436)⟩, ⟨129, (.int 129 438), (.str (Str.ofString "\x81") 439)⟩, ⟨130, (.int 130 441), (.str (Str.ofString "‚") 442)⟩, ⟨131, (.int 131 444), (.str (Str.ofString "ƒ") 445)⟩, ⟨132, (.int 132 447), (.str (Str.ofString "„") 448)⟩, ⟨133, (.int 133 450), (.str (Str.ofString "…") 451)⟩, ⟨134, (.int 134 453), (.str (Str.ofString "†") 454)⟩, ⟨135, (.int 135 456), (.str (Str.ofString "‡") 457)⟩, ⟨136, (.int 136 459), (.str (Str.ofString "ˆ") 460)⟩, ⟨137, (.int 137 462), (.str (Str.ofString "‰") 463)⟩, ⟨138, (.int 138 465), (.str (Str.ofString "Š") 466)⟩, ⟨139, (.int 139 468), (.str (Str.ofString "‹") 469)⟩, ⟨140, (.int 140 471), (.str (Str.ofString "Œ") 472)⟩, ⟨141, (.int 141 474), (.str (Str.ofString "\x8d") 475)⟩, ⟨142, (.int 142 477), (.str (Str.ofString "Ž") 478)⟩, ⟨143, (.int 143 480), (.str (Str.ofString "\x8f") 481)⟩, ⟨144, (.int 144 483), (.str (Str.ofString "\x90") 484)⟩, ⟨145, (.int 145 486), (.str (Str.ofString "‘") 487)⟩, ⟨146, (.int 146 489), (.str (Str.ofString "’") 490)⟩, ⟨147, (.int 147 492), (.str (Str.ofString "“") 493)⟩, ⟨148, (.int 148 495), (.str (Str.ofString "”") 496)⟩, ⟨149, (.int 149 498), (.str (Str.ofString "•") 499)⟩, ⟨150, (.int 150 501), (.str (Str.ofString "–") 502)⟩, ⟨151, (.int 151 504), (.str (Str.ofString "—") 505)⟩, ⟨152, (.int 152 507), (.str (Str.ofString "˜") 508)⟩, ⟨153, (.int 153 510), (.str (Str.ofString "™") 511)⟩, ⟨154, (.int 154 513), (.str (Str.ofString "š") 514)⟩, ⟨155, (.int 155 516), (.str (Str.ofString "›") 517)⟩, ⟨156, (.int 156 519), (.str (Str.ofString "œ") 520)⟩, ⟨157, (.int 157 522), (.str (Str.ofString "\x9d") 523)⟩, ⟨158, (.int 158 525), (.str (Str.ofString "ž") 526)⟩, ⟨159, (.int 159 528), (.str (Str.ofString "Ÿ") 529)⟩] 34), #[]⟩
@[reducible] noncomputable def o47 (P : Params) : Obj := ⟨(.type "dict"), none, (.dict #[⟨143, (.int 143 480), (.str (Str.ofString "\x8f") 481)⟩, ⟨144, (.int 144 483), (.str (Str.ofString "\x90") 484)⟩, ⟨145, (.int 145 486), (.str (Str.ofString "‘") 487)⟩, ⟨146, (.int 146 489), (.str (Str.ofString "’") 490)⟩, ⟨147, (.int 147 492), (.str (Str.ofString "“") 493)⟩, ⟨148, (.int 148 495), (.str (Str.ofString "”") 496)⟩, ⟨149, (.int 149 498), (.str (Str.ofString "•") 499)⟩, ⟨150, (.int 150 501), (.str (Str.ofString "–") 502)⟩, ⟨151, (.int 151 504), (.str (Str.ofString "—") 505)⟩, ⟨152, (.int 152 507), (.str (Str.ofString "˜") 508)⟩, ⟨153, (.int 153 510), (.str (Str.ofString "™") 511)⟩, ⟨154, (.int 154 513), (.str (Str.ofString "š") 514)⟩, ⟨155, (.int 155 516), (.str (Str.ofString "›") 517)⟩, ⟨156, (.int 156 519), (.str (Str.ofString "œ") 520)⟩, ⟨157, (.int 157 522), (.str (Str.ofString "\x9d") 523)⟩, ⟨158, (.int 158 525), (.str (Str.ofString "ž") 526)⟩, ⟨159, (.int 159 528), (.str (Str.ofString "Ÿ") 529)⟩] 17), #[]⟩
@[reducible] noncomputable def o48 (P : Params) : Obj := ⟨(.type "dict"), none, (.dict #[⟨(PyData.keyHash P (Str.ofString "Doctype")), (.str (Str.ofString "Doctype") 532), (.int 0 533)⟩, ⟨(PyData.keyHash P (Str.ofString "Characters")), (.str (Str.ofString "Characters") 534), (.int 1 535)⟩, ⟨(PyData.keyHash P (Str.ofString "SpaceCharacters")), (.str (Str.ofString "SpaceCharacters") 536), (.int 2 537)⟩, ⟨(PyData.keyHash P (Str.ofString "StartTag")), (.str (Str.ofString "StartTag") 538), (.int 3 539)⟩, ⟨(PyData.keyHash P (Str.ofString "EndTag")), (.str (Str.ofString "EndTag") 540), (.int 4 541)⟩, ⟨(PyData.keyHash P (Str.ofString "EmptyTag")), (.str (Str.ofString "EmptyTag") 542), (.int 5 543)⟩, ⟨(PyData.keyHash P (Str.ofString "Comment")), (.str (Str.ofString "Comment") 544), (.int 6 545)⟩, ⟨(PyData.keyHash P (Str.ofString "ParseError")), (.str (Str.ofString "ParseError") 546), (.int 7 547)⟩] 8), #[]⟩
@[reducible] noncomputable def o49 (P : Params) : Obj := ⟨(.type "tuple"), none, (.seq #[(.int 3 539), (.int 4 541), (.int 5 543)] 0), #[]⟩
@[reducible] noncomputable def t1 (P : Params) : BT := (.node (boot_o_0 P) (.node (boot_o_1 P) (.node (o3 P) (.node (boot_o_7 P) (.node (o15 P) (.node (o31 P) .nil .nil) (.node (o47 P) .nil .nil)) (.node (o23 P) (.node (o39 P) .nil .nil) .nil)) (.node (o11 P) (.node (o19 P) (.node (o35 P) .nil .nil) .nil) (.node (o27 P) (.node (o43 P) .nil .nil) .nil))) (.node (boot_o_5 P) (.node (boot_o_9 P) (.node (o17 P) (.node (o33 P) .nil .nil) (.node (o49 P) .nil .nil)) (.node (o25 P) (.node (o41 P) .nil .nil) .nil)) (.node (o13 P) (.node (o21 P) (.node (o37 P) .nil .nil) .nil) (.node (o29 P) (.node (o45 P) .nil .nil) .nil)))) (.node (boot_o_2 P) (.node (boot_o_4 P) (.node (boot_o_8 P) (.node (o16 P) (.node (o32 P) .nil .nil) (.node (o48 P) .nil .nil)) (.node (o24 P) (.node (o40 P) .nil .nil) .nil)) (.node (o12' P) (.node (o20 P) (.node (o36 P) .nil .nil) .nil) (.node (o28 P) (.node (o44 P) .nil .nil) .nil))) (.node (boot_o_6 P) (.node (boot_o_10 P) (.node (o18 P) (.node (o34 P) .nil .nil) .nil) (.node (o26 P) (.node (o42 P) .nil .nil) .nil)) (.node (o14 P) (.node (o22 P) (.node (o38 P) .nil .nil) .nil) (.node (o30 P) (.node (o46 P) .nil .nil) .nil)))))
@[reducible] noncomputable def o3' (P : Params) : Obj := ⟨(.type "dict"), none, (.dict #[⟨(PyData.keyHash P (Str.ofString "__name__")), (.str (Str.ofString "__name__") 165), (.str (Str.ofString "html5lib._tokenizer") 827)⟩, ⟨(PyData.keyHash P (Str.ofString "__doc__")), (.str (Str.ofString "__doc__") 166), .none⟩, ⟨(PyData.keyHash P (Str.ofString "__package__")), (.str (Str.ofString "__package__") 167), .none⟩, ⟨(PyData.keyHash P (Str.ofString "__loader__")), (.str (Str.ofString "__loader__") 168), (.builtin "__main__.__loader__#opaque")⟩, ⟨(PyData.keyHash P (Str.ofString "__spec__")), (.str (Str.ofString "__spec__") 169), .none⟩, ⟨(PyData.keyHash P (Str.ofString "__annotations__")), (.str (Str.ofString "__annotations__") 170), (.ref 6)⟩, ⟨(PyData.keyHash P (Str.ofString "__builtins__")), (.str (Str.ofString "__builtins__") 171), (.ref 4)⟩, ⟨(PyData.keyHash P (Str.ofString "__file__")), (.str (Str.ofString "__file__") 173), (.str (Str.ofString "/claim/cut.py") 172)⟩, ⟨(PyData.keyHash P (Str.ofString "__cached__")), (.str (Str.ofString "__cached__") 174), .none⟩, ⟨(PyData.keyHash P (Str.ofString "_wall")), (.str (Str.ofString "_wall") 193), (.ref 21)⟩, ⟨(PyData.keyHash P (Str.ofString "EOF")), (.str (Str.ofString "EOF") 196), .none⟩, ⟨(PyData.keyHash P (Str.ofString "spaceCharacters")), (.str (Str.ofString "spaceCharacters") 202), (.ref 22)⟩, ⟨(PyData.keyHash P (Str.ofString "asciiLetters")), (.str (Str.ofString "asciiLetters") 256), (.ref 27)⟩, ⟨(PyData.keyHash P (Str.ofString "digits")), (.str (Str.ofString "digits") 268), (.ref 32)⟩, ⟨(PyData.keyHash P (Str.ofString "hexDigits")), (.str (Str.ofString "hexDigits") 292), (.ref 37)⟩, ⟨(PyData.keyHash P (Str.ofString "asciiLower")), (.str (Str.ofString "asciiLower") 298), (.ref 42)⟩, ⟨(PyData.keyHash P (Str.ofString "entities")), (.str (Str.ofString "entities") 428), (.ref 43)⟩, ⟨(PyData.keyHash P (Str.ofString "replacementCharacters")), (.str (Str.ofString "replacementCharacters") 531), (.ref 46)⟩, ⟨(PyData.keyHash P (Str.ofString "tokenTypes")), (.str (Str.ofString "tokenTypes") 556), (.ref 48)⟩, ⟨(PyData.keyHash P (Str.ofString "tagTokenTypes")), (.str (Str.ofString "tagTokenTypes") 563), (.ref 49)⟩, ⟨(PyData.keyHash P (Str.ofString "Text")), (.str (Str.ofString "Text") 604), (.ref 73)⟩, ⟨(PyData.keyHash P (Str.ofString "_is_invalid")), (.str (Str.ofString "_is_invalid") 611), (.ref 84)⟩, ⟨(PyData.keyHash P (Str.ofString "HTMLUnicodeInputStream")), (.str (Str.ofString "HTMLUnicodeInputStream") 737), (.ref 166)⟩, ⟨(PyData.keyHash P (Str.ofString "bisect_left")), (.str (Str.ofString "bisect_left") 751), (.ref 178)⟩, ⟨(PyData.keyHash P (Str.ofString "Trie")), (.str (Str.ofString "Trie") 826), (.ref 230)⟩] 25), #[]⟩
@[reducible] noncomputable def o12'' (P : Params) : Obj := ⟨.none, none, (.fields #[(.int 1 0), (.int 0 0), (.ref 20), (.int 10 0), (.int 0 0), (.ref 41), (.int 17 0), (.int 0 0), (.ref 55), (.int 27 0), (.int 0 0), (.ref 83), (.int 29 0), (.int 0 0), (.ref 90), (.int 134 0), (.int 0 0), (.ref 177), (.int 144 0), (.int 0 0), (.ref 184)]), #[]⟩
@[reducible] noncomputable def o50 (P : Params) : Obj := ⟨(.type "tuple"), none, (.seq #[(.type "object")] 0), #[]⟩
@[reducible] noncomputable def o51 (P : Params) : Obj := ⟨(.type "builtin_function_or_method"), none, (.fields #[(.builtin "type.__prepare__"), (.type "type")]), #[]⟩
@[reducible] noncomputable def o52 (P : Params) : Obj := ⟨(.type "dict"), none, (.dict #[⟨(PyData.keyHash P (Str.ofString "__module__")), (.str (Str.ofString "__module__") 573), (.str (Str.ofString "html5lib._inputstream") 564)⟩, ⟨(PyData.keyHash P (Str.ofString "__qualname__")), (.str (Str.ofString "__qualname__") 575), (.str (Str.ofString "Text") 574)⟩, ⟨(PyData.keyHash P (Str.ofString "__firstlineno__")), (.str (Str.ofString "__firstlineno__") 577), (.int 17 576)⟩, ⟨(PyData.keyHash P (Str.ofString "__init__")), (.str (Str.ofString "__init__") 585), (.ref 63)⟩, ⟨(PyData.keyHash P (Str.ofString "read")), (.str (Str.ofString "read") 594), (.ref 70)⟩, ⟨(PyData.keyHash P (Str.ofString "__static_attributes__")), (.str (Str.ofString "__static_attributes__") 597), (.ref 71)⟩] 6), #[]⟩
@[reducible] noncomputable def o53 (P : Params) : Obj := ⟨(.type "tuple"), none, (.seq #[] 0), #[]⟩
@[reducible] noncomputable def o54 (P : Params) : Obj := ⟨.none, none, (.fields #[(.int 19 0), (.int 4 0), (.ref 62), (.int 23 0), (.int 4 0), (.ref 69)]), #[]⟩
@[reducible] noncomputable def o55 (P : Params) : Obj := ⟨(.type "code"), none, (.fields #[(.str (Str.ofString "Text") 568), (.str (Str.ofString "Text") 569), (.str (Str.ofString "/claim/cut.py") 570), (.int 17 0), (.int 0 0), (.int 0 0), (.int 0 0), (.int 0 0), (.ref 53), (.bool false), (.int 181 0), (.ref 54), .none, .none, .none, .none, (.int 571 0), (.int 17 0), (.str (Str.ofString "/claim/cut.py") 572)]), #[]⟩
@[reducible] noncomputable def o56 (P : Params) : Obj := ⟨(.type "frame"), none, .plain, #[(some (.ref 55)), (some (.ref 3)), (some (.ref 52)), none, (some (.str (Str.ofString "html5lib._inputstream") 564)), none, (some (.ref 0))]⟩
@[reducible] noncomputable def o57 (P : Params) : Obj := ⟨(.type "tuple"), none, (.seq #[] 0), #[]⟩
@[reducible] noncomputable def o58 (P : Params) : Obj := ⟨.none, none, (.fields #[]), #[]⟩
@[reducible] noncomputable def o59 (P : Params) : Obj := ⟨(.type "tuple"), none, (.seq #[(.str (Str.ofString "self") 581), (.str (Str.ofString "text") 582)] 0), #[]⟩
@[reducible] noncomputable def o60 (P : Params) : Obj := ⟨(.type "tuple"), none, (.seq #[] 0), #[]⟩
@[reducible] noncomputable def a_Text___init__ : Arguments := (fun x (_ : x = dArgs (D2 13 0)) => x) _ (by conv => rhs; whnf)
@[reducible] noncomputable def b_Text___init__ : List Stmt := (fun x (_ : x = dBody (D2 13 0)) => x) _ (by conv => rhs; whnf)
@[reducible] noncomputable def c_Text___init__ : Scope := (fun x (_ : x = dScope (D2 13 0)) => x) _ (by conv => rhs; whnf)
@[reducible] noncomputable def o61 (P : Params) : Obj := ⟨.none, none, (.func ⟨(Str.ofString "__init__"), (Str.ofString "Text.__init__"), a_Text___init__, .stmts b_Text___init__, c_Text___init__, 0, [], .none, .none, .none, .none, none, .none, .none, 0⟩), #[]⟩
@[reducible] noncomputable def o62 (P : Params) : Obj := ⟨(.type "code"), none, (.fields #[(.str (Str.ofString "__init__") 578), (.str (Str.ofString "Text.__init__") 579), (.str (Str.ofString "/claim/cut.py") 580), (.int 19 0), (.int 2 0), (.int 0 0), (.int 0 0), (.int 3 0), (.ref 57), (.bool true), (.int 181 0), (.ref 58), .none, (.ref 59), (.ref 60), (.ref 61), (.int 583 0), (.int 19 0), (.str (Str.ofString "/claim/cut.py") 584)]), #[]⟩
@[reducible] noncomputable def o63 (P : Params) : Obj := ⟨(.type "function"), none, (.func ⟨(Str.ofString "__init__"), (Str.ofString "Text.__init__"), a_Text___init__, .stmts b_Text___init__, c_Text___init__, 3, [], .none, .none, .none, (.str (Str.ofString "html5lib._inputstream") 564), none, (.ref 62), .none, 0⟩), #[]⟩
@[reducible] noncomputable def o64 (P : Params) : Obj := ⟨(.type "tuple"), none, (.seq #[] 0), #[]⟩
@[reducible] noncomputable def o65 (P : Params) : Obj := ⟨.none, none, (.fields #[]), #[]⟩
@[reducible] noncomputable def o66 (P : Params) : Obj := ⟨(.type "tuple"), none, (.seq #[(.str (Str.ofString "self") 589), (.str (Str.ofString "size") 590), (.str (Str.ofString "part") 591)] 0), #[]⟩
@[reducible] noncomputable def o67 (P : Params) : Obj := ⟨(.type "tuple"), none, (.seq #[] 0), #[]⟩
@[reducible] noncomputable def a_Text_read : Arguments := (fun x (_ : x = dArgs (D2 13 1)) => x) _ (by conv => rhs; whnf)
@[reducible] noncomputable def b_Text_read : List Stmt := (fun x (_ : x = dBody (D2 13 1)) => x) _ (by conv => rhs; whnf)
@[reducible] noncomputable def c_Text_read : Scope := (fun x (_ : x = dScope (D2 13 1)) => x) _ (by conv => rhs; whnf)
@[reducible] noncomputable def o68 (P : Params) : Obj := ⟨.none, none, (.func ⟨(Str.ofString "read"), (Str.ofString "Text.read"), a_Text_read, .stmts b_Text_read, c_Text_read, 0, [], .none, .none, .none, .none, none, .none, .none, 0⟩), #[]⟩
@[reducible] noncomputable def o69 (P : Params) : Obj := ⟨(.type "code"), none, (.fields #[(.str (Str.ofString "read") 586), (.str (Str.ofString "Text.read") 587), (.str (Str.ofString "/claim/cut.py") 588), (.int 23 0), (.int 2 0), (.int 0 0), (.int 0 0), (.int 3 0), (.ref 64), (.bool true), (.int 181 0), (.ref 65), .none, (.ref 66), (.ref 67), (.ref 68), (.int 592 0), (.int 23 0), (.str (Str.ofString "/claim/cut.py") 593)]), #[]⟩
@[reducible] noncomputable def o70 (P : Params) : Obj := ⟨(.type "function"), none, (.func ⟨(Str.ofString "read"), (Str.ofString "Text.read"), a_Text_read, .stmts b_Text_read, c_Text_read, 3, [], .none, .none, .none, (.str (Str.ofString "html5lib._inputstream") 564), none, (.ref 69), .none, 0⟩), #[]⟩
@[reducible] noncomputable def o71 (P : Params) : Obj := ⟨(.type "tuple"), none, (.seq #[(.str (Str.ofString "place") 595), (.str (Str.ofString "text") 596)] 0), #[]⟩
@[reducible] noncomputable def o72 (P : Params) : Obj := ⟨(.type "dict"), none, (.dict #[⟨(PyData.keyHash P (Str.ofString "__module__")), (.str (Str.ofString "__module__") 573), (.str (Str.ofString "html5lib._inputstream") 564)⟩, ⟨(PyData.keyHash P (Str.ofString "__firstlineno__")), (.str (Str.ofString "__firstlineno__") 577), (.int 17 576)⟩, ⟨(PyData.keyHash P (Str.ofString "__init__")), (.str (Str.ofString "__init__") 585), (.ref 63)⟩, ⟨(PyData.keyHash P (Str.ofString "read")), (.str (Str.ofString "read") 594), (.ref 70)⟩, ⟨(PyData.keyHash P (Str.ofString "__static_attributes__")), (.str (Str.ofString "__static_attributes__") 597), (.ref 71)⟩, ⟨(PyData.keyHash P (Str.ofString "__dict__")), (.str (Str.ofString "__dict__") 599), (.ref 74)⟩, ⟨(PyData.keyHash P (Str.ofString "__weakref__")), (.str (Str.ofString "__weakref__") 601), (.ref 75)⟩, ⟨(PyData.keyHash P (Str.ofString "__doc__")), (.str (Str.ofString "__doc__") 602), .none⟩] 4), #[]⟩
@[reducible] noncomputable def o73 (P : Params) : Obj := ⟨(.type "type"), none, (.cls ⟨(Str.ofString "Text"), [(.type "object")], [(.ref 73), (.type "object")], 72, (Str.ofString "Text"), true, [], [], false, none, false⟩), #[(some (.ref 50)), none, (some (.str (Str.ofString "Text") 566)), (some (.str (Str.ofString "Text") 574)), (some (.builtin "object.__new__")), (some (.bool true))]⟩
@[reducible] noncomputable def o74 (P : Params) : Obj := ⟨(.type "getset_descriptor"), none, (.fields #[(.str (Str.ofString "__dict__") 598), (.ref 73), (.builtin "function.__dict__"), (.builtin "function.__dict__#set")]), #[]⟩
@[reducible] noncomputable def o75 (P : Params) : Obj := ⟨(.type "getset_descriptor"), none, (.fields #[(.str (Str.ofString "__weakref__") 600), (.ref 73), (.builtin "ExceptionGroup.__weakref__"), .none]), #[]⟩
@[reducible] noncomputable def o76 (P : Params) : Obj := ⟨(.type "super"), none, (.fields #[(.ref 73), (.ref 73), (.ref 73)]), #[]⟩
@[reducible] noncomputable def o77 (P : Params) : Obj := ⟨(.type "builtin_function_or_method"), none, (.fields #[(.builtin "object.__init_subclass__"), (.ref 73)]), #[]⟩
@[reducible] noncomputable def o78 (P : Params) : Obj := ⟨(.type "tuple"), none, (.seq #[] 0), #[]⟩
@[reducible] noncomputable def o79 (P : Params) : Obj := ⟨.none, none, (.fields #[]), #[]⟩
@[reducible] noncomputable def o80 (P : Params) : Obj := ⟨(.type "tuple"), none, (.seq #[(.str (Str.ofString "codepoint") 608)] 0), #[]⟩
@[reducible] noncomputable def o81 (P : Params) : Obj := ⟨(.type "tuple"), none, (.seq #[] 0), #[]⟩
@[reducible] noncomputable def a__is_invalid : Arguments := (fun x (_ : x = dArgs (D1 14)) => x) _ (by conv => rhs; whnf)
@[reducible] noncomputable def b__is_invalid : List Stmt := (fun x (_ : x = dBody (D1 14)) => x) _ (by conv => rhs; whnf)
@[reducible] noncomputable def c__is_invalid : Scope := (fun x (_ : x = dScope (D1 14)) => x) _ (by conv => rhs; whnf)
@[reducible] noncomputable def o82 (P : Params) : Obj := ⟨.none, none, (.func ⟨(Str.ofString "_is_invalid"), (Str.ofString "_is_invalid"), a__is_invalid, .stmts b__is_invalid, c__is_invalid, 0, [], .none, .none, .none, .none, none, .none, .none, 0⟩), #[]⟩
@[reducible] noncomputable def o83 (P : Params) : Obj := ⟨(.type "code"), none, (.fields #[(.str (Str.ofString "_is_invalid") 605), (.str (Str.ofString "_is_invalid") 606), (.str (Str.ofString "/claim/cut.py") 607), (.int 27 0), (.int 1 0), (.int 0 0), (.int 0 0), (.int 3 0), (.ref 78), (.bool true), (.int 181 0), (.ref 79), .none, (.ref 80), (.ref 81), (.ref 82), (.int 609 0), (.int 27 0), (.str (Str.ofString "/claim/cut.py") 610)]), #[]⟩
@[reducible] noncomputable def o84 (P : Params) : Obj := ⟨(.type "function"), none, (.func ⟨(Str.ofString "_is_invalid"), (Str.ofString "_is_invalid"), a__is_invalid, .stmts b__is_invalid, c__is_invalid, 3, [], .none, .none, .none, (.str (Str.ofString "html5lib._inputstream") 564), none, (.ref 83), .none, 0⟩), #[]⟩
@[reducible] noncomputable def o85 (P : Params) : Obj := ⟨(.type "tuple"), none, (.seq #[(.type "object")] 0), #[]⟩
@[reducible] noncomputable def o86 (P : Params) : Obj := ⟨(.type "builtin_function_or_method"), none, (.fields #[(.builtin "type.__prepare__"), (.type "type")]), #[]⟩
@[reducible] noncomputable def o87 (P : Params) : Obj := ⟨(.type "dict"), none, (.dict #[⟨(PyData.keyHash P (Str.ofString "__module__")), (.str (Str.ofString "__module__") 619), (.str (Str.ofString "html5lib._inputstream") 564)⟩, ⟨(PyData.keyHash P (Str.ofString "__qualname__")), (.str (Str.ofString "__qualname__") 621), (.str (Str.ofString "HTMLUnicodeInputStream") 620)⟩, ⟨(PyData.keyHash P (Str.ofString "__firstlineno__")), (.str (Str.ofString "__firstlineno__") 623), (.int 29 622)⟩, ⟨(PyData.keyHash P (Str.ofString "_defaultChunkSize")), (.str (Str.ofString "_defaultChunkSize") 625), (.int 10240 624)⟩, ⟨(PyData.keyHash P (Str.ofString "__init__")), (.str (Str.ofString "__init__") 633), (.ref 98)⟩, ⟨(PyData.keyHash P (Str.ofString "reset")), (.str (Str.ofString "reset") 640), (.ref 105)⟩, ⟨(PyData.keyHash P (Str.ofString "openStream")), (.str (Str.ofString "openStream") 649), (.ref 112)⟩, ⟨(PyData.keyHash P (Str.ofString "_position")), (.str (Str.ofString "_position") 662), (.ref 119)⟩, ⟨(PyData.keyHash P (Str.ofString "position")), (.str (Str.ofString "position") 671), (.ref 126)⟩, ⟨(PyData.keyHash P (Str.ofString "char")), (.str (Str.ofString "char") 680), (.ref 133)⟩, ⟨(PyData.keyHash P (Str.ofString "readChunk")), (.str (Str.ofString "readChunk") 690), (.ref 141)⟩, ⟨(PyData.keyHash P (Str.ofString "characterErrorsUCS4")), (.str (Str.ofString "characterErrorsUCS4") 699), (.ref 148)⟩, ⟨(PyData.keyHash P (Str.ofString "charsUntil")), (.str (Str.ofString "charsUntil") 711), (.ref 156)⟩, ⟨(PyData.keyHash P (Str.ofString "unget")), (.str (Str.ofString "unget") 719), (.ref 163)⟩, ⟨(PyData.keyHash P (Str.ofString "__static_attributes__")), (.str (Str.ofString "__static_attributes__") 730), (.ref 164)⟩] 15), #[]⟩
@[reducible] noncomputable def o88 (P : Params) : Obj := ⟨(.type "tuple"), none, (.seq #[] 0), #[]⟩
@[reducible] noncomputable def o89 (P : Params) : Obj := ⟨.none, none, (.fields #[(.int 32 0), (.int 4 0), (.ref 97), (.int 38 0), (.int 4 0), (.ref 104), (.int 47 0), (.int 4 0), (.ref 111), (.int 51 0), (.int 4 0), (.ref 118), (.int 62 0), (.int 4 0), (.ref 125), (.int 66 0), (.int 4 0), (.ref 132), (.int 75 0), (.int 4 0), (.ref 140), (.int 101 0), (.int 4 0), (.ref 147), (.int 106 0), (.int 4 0), (.ref 155), (.int 125 0), (.int 4 0), (.ref 162)]), #[]⟩
@[reducible] noncomputable def o90 (P : Params) : Obj := ⟨(.type "code"), none, (.fields #[(.str (Str.ofString "HTMLUnicodeInputStream") 614), (.str (Str.ofString "HTMLUnicodeInputStream") 615), (.str (Str.ofString "/claim/cut.py") 616), (.int 29 0), (.int 0 0), (.int 0 0), (.int 0 0), (.int 0 0), (.ref 88), (.bool false), (.int 181 0), (.ref 89), .none, .none, .none, .none, (.int 617 0), (.int 29 0), (.str (Str.ofString "/claim/cut.py") 618)]), #[]⟩
@[reducible] noncomputable def o91 (P : Params) : Obj := ⟨(.type "frame"), none, .plain, #[(some (.ref 90)), (some (.ref 3)), (some (.ref 87)), none, (some (.str (Str.ofString "html5lib._inputstream") 564)), none, (some (.ref 0))]⟩
@[reducible] noncomputable def o92 (P : Params) : Obj := ⟨(.type "tuple"), none, (.seq #[] 0), #[]⟩
@[reducible] noncomputable def o93 (P : Params) : Obj := ⟨.none, none, (.fields #[]), #[]⟩
@[reducible] noncomputable def o94 (P : Params) : Obj := ⟨(.type "tuple"), none, (.seq #[(.str (Str.ofString "self") 629), (.str (Str.ofString "source") 630)] 0), #[]⟩
@[reducible] noncomputable def o95 (P : Params) : Obj := ⟨(.type "tuple"), none, (.seq #[] 0), #[]⟩
@[reducible] noncomputable def a_HTMLUnicodeInputStream___init__ : Arguments := (fun x (_ : x = dArgs (D2 15 1)) => x) _ (by conv => rhs; whnf)
@[reducible] noncomputable def b_HTMLUnicodeInputStream___init__ : List Stmt := (fun x (_ : x = dBody (D2 15 1)) => x) _ (by conv => rhs; whnf)
@[reducible] noncomputable def c_HTMLUnicodeInputStream___init__ : Scope := (fun x (_ : x = dScope (D2 15 1)) => x) _ (by conv => rhs; whnf)
@[reducible] noncomputable def o96 (P : Params) : Obj := ⟨.none, none, (.func ⟨(Str.ofString "__init__"), (Str.ofString "HTMLUnicodeInputStream.__init__"), a_HTMLUnicodeInputStream___init__, .stmts b_HTMLUnicodeInputStream___init__, c_HTMLUnicodeInputStream___init__, 0, [], .none, .none, .none, .none, none, .none, .none, 0⟩), #[]⟩
@[reducible] noncomputable def o97 (P : Params) : Obj := ⟨(.type "code"), none, (.fields #[(.str (Str.ofString "__init__") 626), (.str (Str.ofString "HTMLUnicodeInputStream.__init__") 627), (.str (Str.ofString "/claim/cut.py") 628), (.int 32 0), (.int 2 0), (.int 0 0), (.int 0 0), (.int 3 0), (.ref 92), (.bool true), (.int 181 0), (.ref 93), .none, (.ref 94), (.ref 95), (.ref 96), (.int 631 0), (.int 32 0), (.str (Str.ofString "/claim/cut.py") 632)]), #[]⟩
@[reducible] noncomputable def o98 (P : Params) : Obj := ⟨(.type "function"), none, (.func ⟨(Str.ofString "__init__"), (Str.ofString "HTMLUnicodeInputStream.__init__"), a_HTMLUnicodeInputStream___init__, .stmts b_HTMLUnicodeInputStream___init__, c_HTMLUnicodeInputStream___init__, 3, [], .none, .none, .none, (.str (Str.ofString "html5lib._inputstream") 564), none, (.ref 97), .none, 0⟩), #[]⟩
@[reducible] noncomputable def o99 (P : Params) : Obj := ⟨(.type "tuple"), none, (.seq #[] 0), #[]⟩
@[reducible] noncomputable def o100 (P : Params) : Obj := ⟨.none, none, (.fields #[]), #[]⟩
@[reducible] noncomputable def o101 (P : Params) : Obj := ⟨(.type "tuple"), none, (.seq #[(.str (Str.ofString "self") 637)] 0), #[]⟩
@[reducible] noncomputable def o102 (P : Params) : Obj := ⟨(.type "tuple"), none, (.seq #[] 0), #[]⟩
@[reducible] noncomputable def a_HTMLUnicodeInputStream_reset : Arguments := (fun x (_ : x = dArgs (D2 15 2)) => x) _ (by conv => rhs; whnf)
@[reducible] noncomputable def b_HTMLUnicodeInputStream_reset : List Stmt := (fun x (_ : x = dBody (D2 15 2)) => x) _ (by conv => rhs; whnf)
@[reducible] noncomputable def c_HTMLUnicodeInputStream_reset : Scope := (fun x (_ : x = dScope (D2 15 2)) => x) _ (by conv => rhs; whnf)
@[reducible] noncomputable def o103 (P : Params) : Obj := ⟨.none, none, (.func ⟨(Str.ofString "reset"), (Str.ofString "HTMLUnicodeInputStream.reset"), a_HTMLUnicodeInputStream_reset, .stmts b_HTMLUnicodeInputStream_reset, c_HTMLUnicodeInputStream_reset, 0, [], .none, .none, .none, .none, none, .none, .none, 0⟩), #[]⟩
@[reducible] noncomputable def o104 (P : Params) : Obj := ⟨(.type "code"), none, (.fields #[(.str (Str.ofString "reset") 634), (.str (Str.ofString "HTMLUnicodeInputStream.reset") 635), (.str (Str.ofString "/claim/cut.py") 636), (.int 38 0), (.int 1 0), (.int 0 0), (.int 0 0), (.int 3 0), (.ref 99), (.bool true), (.int 181 0), (.ref 100), .none, (.ref 101), (.ref 102), (.ref 103), (.int 638 0), (.int 38 0), (.str (Str.ofString "/claim/cut.py") 639)]), #[]⟩
@[reducible] noncomputable def o105 (P : Params) : Obj := ⟨(.type "function"), none, (.func ⟨(Str.ofString "reset"), (Str.ofString "HTMLUnicodeInputStream.reset"), a_HTMLUnicodeInputStream_reset, .stmts b_HTMLUnicodeInputStream_reset, c_HTMLUnicodeInputStream_reset, 3, [], .none, .none, .none, (.str (Str.ofString "html5lib._inputstream") 564), none, (.ref 104), .none, 0⟩), #[]⟩
@[reducible] noncomputable def o106 (P : Params) : Obj := ⟨(.type "tuple"), none, (.seq #[] 0), #[]⟩
@[reducible] noncomputable def o107 (P : Params) : Obj := ⟨.none, none, (.fields #[]), #[]⟩
@[reducible] noncomputable def o108 (P : Params) : Obj := ⟨(.type "tuple"), none, (.seq #[(.str (Str.ofString "self") 644), (.str (Str.ofString "source") 645), (.str (Str.ofString "stream") 646)] 0), #[]⟩
@[reducible] noncomputable def o109 (P : Params) : Obj := ⟨(.type "tuple"), none, (.seq #[] 0), #[]⟩
@[reducible] noncomputable def a_HTMLUnicodeInputStream_openStream : Arguments := (fun x (_ : x = dArgs (D2 15 3)) => x) _ (by conv => rhs; whnf)
@[reducible] noncomputable def b_HTMLUnicodeInputStream_openStream : List Stmt := (fun x (_ : x = dBody (D2 15 3)) => x) _ (by conv => rhs; whnf)
@[reducible] noncomputable def c_HTMLUnicodeInputStream_openStream : Scope := (fun x (_ : x = dScope (D2 15 3)) => x) _ (by conv => rhs; whnf)
@[reducible] noncomputable def o110 (P : Params) : Obj := ⟨.none, none, (.func ⟨(Str.ofString "openStream"), (Str.ofString "HTMLUnicodeInputStream.openStream"), a_HTMLUnicodeInputStream_openStream, .stmts b_HTMLUnicodeInputStream_openStream, c_HTMLUnicodeInputStream_openStream, 0, [], .none, .none, .none, .none, none, .none, .none, 0⟩), #[]⟩
@[reducible] noncomputable def o111 (P : Params) : Obj := ⟨(.type "code"), none, (.fields #[(.str (Str.ofString "openStream") 641), (.str (Str.ofString "HTMLUnicodeInputStream.openStream") 642), (.str (Str.ofString "/claim/cut.py") 643), (.int 47 0), (.int 2 0), (.int 0 0), (.int 0 0), (.int 3 0), (.ref 106), (.bool true), (.int 181 0), (.ref 107), .none, (.ref 108), (.ref 109), (.ref 110), (.int 647 0), (.int 47 0), (.str (Str.ofString "/claim/cut.py") 648)]), #[]⟩
@[reducible] noncomputable def o112 (P : Params) : Obj := ⟨(.type "function"), none, (.func ⟨(Str.ofString "openStream"), (Str.ofString "HTMLUnicodeInputStream.openStream"), a_HTMLUnicodeInputStream_openStream, .stmts b_HTMLUnicodeInputStream_openStream, c_HTMLUnicodeInputStream_openStream, 3, [], .none, .none, .none, (.str (Str.ofString "html5lib._inputstream") 564), none, (.ref 111), .none, 0⟩), #[]⟩
@[reducible] noncomputable def o113 (P : Params) : Obj := ⟨(.type "tuple"), none, (.seq #[] 0), #[]⟩
@[reducible] noncomputable def o114 (P : Params) : Obj := ⟨.none, none, (.fields #[]), #[]⟩
@[reducible] noncomputable def o115 (P : Params) : Obj := ⟨(.type "tuple"), none, (.seq #[(.str (Str.ofString "self") 653), (.str (Str.ofString "offset") 654), (.str (Str.ofString "chunk") 655), (.str (Str.ofString "nLines") 656), (.str (Str.ofString "positionLine") 657), (.str (Str.ofString "lastLinePos") 658), (.str (Str.ofString "positionColumn") 659)] 0), #[]⟩
@[reducible] noncomputable def o116 (P : Params) : Obj := ⟨(.type "tuple"), none, (.seq #[] 0), #[]⟩
@[reducible] noncomputable def a_HTMLUnicodeInputStream__position : Arguments := (fun x (_ : x = dArgs (D2 15 4)) => x) _ (by conv => rhs; whnf)
@[reducible] noncomputable def b_HTMLUnicodeInputStream__position : List Stmt := (fun x (_ : x = dBody (D2 15 4)) => x) _ (by conv => rhs; whnf)
@[reducible] noncomputable def c_HTMLUnicodeInputStream__position : Scope := (fun x (_ : x = dScope (D2 15 4)) => x) _ (by conv => rhs; whnf)
@[reducible] noncomputable def o117 (P : Params) : Obj := ⟨.none, none, (.func ⟨(Str.ofString "_position"), (Str.ofString "HTMLUnicodeInputStream._position"), a_HTMLUnicodeInputStream__position, .stmts b_HTMLUnicodeInputStream__position, c_HTMLUnicodeInputStream__position, 0, [], .none, .none, .none, .none, none, .none, .none, 0⟩), #[]⟩
@[reducible] noncomputable def o118 (P : Params) : Obj := ⟨(.type "code"), none, (.fields #[(.str (Str.ofString "_position") 650), (.str (Str.ofString "HTMLUnicodeInputStream._position") 651), (.str (Str.ofString "/claim/cut.py") 652), (.int 51 0), (.int 2 0), (.int 0 0), (.int 0 0), (.int 3 0), (.ref 113), (.bool true), (.int 181 0), (.ref 114), .none, (.ref 115), (.ref 116), (.ref 117), (.int 660 0), (.int 51 0), (.str (Str.ofString "/claim/cut.py") 661)]), #[]⟩
@[reducible] noncomputable def o119 (P : Params) : Obj := ⟨(.type "function"), none, (.func ⟨(Str.ofString "_position"), (Str.ofString "HTMLUnicodeInputStream._position"), a_HTMLUnicodeInputStream__position, .stmts b_HTMLUnicodeInputStream__position, c_HTMLUnicodeInputStream__position, 3, [], .none, .none, .none, (.str (Str.ofString "html5lib._inputstream") 564), none, (.ref 118), .none, 0⟩), #[]⟩
@[reducible] noncomputable def o120 (P : Params) : Obj := ⟨(.type "tuple"), none, (.seq #[] 0), #[]⟩
@[reducible] noncomputable def o121 (P : Params) : Obj := ⟨.none, none, (.fields #[]), #[]⟩
@[reducible] noncomputable def o122 (P : Params) : Obj := ⟨(.type "tuple"), none, (.seq #[(.str (Str.ofString "self") 666), (.str (Str.ofString "line") 667), (.str (Str.ofString "col") 668)] 0), #[]⟩
@[reducible] noncomputable def o123 (P : Params) : Obj := ⟨(.type "tuple"), none, (.seq #[] 0), #[]⟩
@[reducible] noncomputable def a_HTMLUnicodeInputStream_position : Arguments := (fun x (_ : x = dArgs (D2 15 5)) => x) _ (by conv => rhs; whnf)
@[reducible] noncomputable def b_HTMLUnicodeInputStream_position : List Stmt := (fun x (_ : x = dBody (D2 15 5)) => x) _ (by conv => rhs; whnf)
@[reducible] noncomputable def c_HTMLUnicodeInputStream_position : Scope := (fun x (_ : x = dScope (D2 15 5)) => x) _ (by conv => rhs; whnf)
@[reducible] noncomputable def o124 (P : Params) : Obj := ⟨.none, none, (.func ⟨(Str.ofString "position"), (Str.ofString "HTMLUnicodeInputStream.position"), a_HTMLUnicodeInputStream_position, .stmts b_HTMLUnicodeInputStream_position, c_HTMLUnicodeInputStream_position, 0, [], .none, .none, .none, .none, none, .none, .none, 0⟩), #[]⟩
@[reducible] noncomputable def o125 (P : Params) : Obj := ⟨(.type "code"), none, (.fields #[(.str (Str.ofString "position") 663), (.str (Str.ofString "HTMLUnicodeInputStream.position") 664), (.str (Str.ofString "/claim/cut.py") 665), (.int 62 0), (.int 1 0), (.int 0 0), (.int 0 0), (.int 3 0), (.ref 120), (.bool true), (.int 181 0), (.ref 121), .none, (.ref 122), (.ref 123), (.ref 124), (.int 669 0), (.int 62 0), (.str (Str.ofString "/claim/cut.py") 670)]), #[]⟩
@[reducible] noncomputable def o126 (P : Params) : Obj := ⟨(.type "function"), none, (.func ⟨(Str.ofString "position"), (Str.ofString "HTMLUnicodeInputStream.position"), a_HTMLUnicodeInputStream_position, .stmts b_HTMLUnicodeInputStream_position, c_HTMLUnicodeInputStream_position, 3, [], .none, .none, .none, (.str (Str.ofString "html5lib._inputstream") 564), none, (.ref 125), .none, 0⟩), #[]⟩
@[reducible] noncomputable def o127 (P : Params) : Obj := ⟨(.type "tuple"), none, (.seq #[] 0), #[]⟩
@[reducible] noncomputable def o128 (P : Params) : Obj := ⟨.none, none, (.fields #[]), #[]⟩
@[reducible] noncomputable def o129 (P : Params) : Obj := ⟨(.type "tuple"), none, (.seq #[(.str (Str.ofString "self") 675), (.str (Str.ofString "chunkOffset") 676), (.str (Str.ofString "char") 677)] 0), #[]⟩
@[reducible] noncomputable def o130 (P : Params) : Obj := ⟨(.type "tuple"), none, (.seq #[] 0), #[]⟩
@[reducible] noncomputable def a_HTMLUnicodeInputStream_char : Arguments := (fun x (_ : x = dArgs (D2 15 6)) => x) _ (by conv => rhs; whnf)
@[reducible] noncomputable def b_HTMLUnicodeInputStream_char : List Stmt := (fun x (_ : x = dBody (D2 15 6)) => x) _ (by conv => rhs; whnf)
@[reducible] noncomputable def c_HTMLUnicodeInputStream_char : Scope := (fun x (_ : x = dScope (D2 15 6)) => x) _ (by conv => rhs; whnf)
@[reducible] noncomputable def o131 (P : Params) : Obj := ⟨.none, none, (.func ⟨(Str.ofString "char"), (Str.ofString "HTMLUnicodeInputStream.char"), a_HTMLUnicodeInputStream_char, .stmts b_HTMLUnicodeInputStream_char, c_HTMLUnicodeInputStream_char, 0, [], .none, .none, .none, .none, none, .none, .none, 0⟩), #[]⟩
@[reducible] noncomputable def o132 (P : Params) : Obj := ⟨(.type "code"), none, (.fields #[(.str (Str.ofString "char") 672), (.str (Str.ofString "HTMLUnicodeInputStream.char") 673), (.str (Str.ofString "/claim/cut.py") 674), (.int 66 0), (.int 1 0), (.int 0 0), (.int 0 0), (.int 3 0), (.ref 127), (.bool true), (.int 181 0), (.ref 128), .none, (.ref 129), (.ref 130), (.ref 131), (.int 678 0), (.int 66 0), (.str (Str.ofString "/claim/cut.py") 679)]), #[]⟩
@[reducible] noncomputable def o133 (P : Params) : Obj := ⟨(.type "function"), none, (.func ⟨(Str.ofString "char"), (Str.ofString "HTMLUnicodeInputStream.char"), a_HTMLUnicodeInputStream_char, .stmts b_HTMLUnicodeInputStream_char, c_HTMLUnicodeInputStream_char, 3, [], .none, .none, .none, (.str (Str.ofString "html5lib._inputstream") 564), none, (.ref 132), .none, 0⟩), #[]⟩
@[reducible] noncomputable def o134 (P : Params) : Obj := ⟨(.type "tuple"), none, (.seq #[.none] 0), #[]⟩
@[reducible] noncomputable def o135 (P : Params) : Obj := ⟨(.type "tuple"), none, (.seq #[] 0), #[]⟩
@[reducible] noncomputable def o136 (P : Params) : Obj := ⟨.none, none, (.fields #[]), #[]⟩
@[reducible] noncomputable def o137 (P : Params) : Obj := ⟨(.type "tuple"), none, (.seq #[(.str (Str.ofString "self") 684), (.str (Str.ofString "chunkSize") 685), (.str (Str.ofString "data") 686), (.str (Str.ofString "lastv") 687)] 0), #[]⟩
@[reducible] noncomputable def o138 (P : Params) : Obj := ⟨(.type "tuple"), none, (.seq #[] 0), #[]⟩
@[reducible] noncomputable def a_HTMLUnicodeInputStream_readChunk : Arguments := (fun x (_ : x = dArgs (D2 15 7)) => x) _ (by conv => rhs; whnf)
@[reducible] noncomputable def b_HTMLUnicodeInputStream_readChunk : List Stmt := (fun x (_ : x = dBody (D2 15 7)) => x) _ (by conv => rhs; whnf)
@[reducible] noncomputable def c_HTMLUnicodeInputStream_readChunk : Scope := (fun x (_ : x = dScope (D2 15 7)) => x) _ (by conv => rhs; whnf)
@[reducible] noncomputable def o139 (P : Params) : Obj := ⟨.none, none, (.func ⟨(Str.ofString "readChunk"), (Str.ofString "HTMLUnicodeInputStream.readChunk"), a_HTMLUnicodeInputStream_readChunk, .stmts b_HTMLUnicodeInputStream_readChunk, c_HTMLUnicodeInputStream_readChunk, 0, [], .none, .none, .none, .none, none, .none, .none, 0⟩), #[]⟩
@[reducible] noncomputable def o140 (P : Params) : Obj := ⟨(.type "code"), none, (.fields #[(.str (Str.ofString "readChunk") 681), (.str (Str.ofString "HTMLUnicodeInputStream.readChunk") 682), (.str (Str.ofString "/claim/cut.py") 683), (.int 75 0), (.int 2 0), (.int 0 0), (.int 0 0), (.int 3 0), (.ref 135), (.bool true), (.int 181 0), (.ref 136), .none, (.ref 137), (.ref 138), (.ref 139), (.int 688 0), (.int 75 0), (.str (Str.ofString "/claim/cut.py") 689)]), #[]⟩
@[reducible] noncomputable def o141 (P : Params) : Obj := ⟨(.type "function"), none, (.func ⟨(Str.ofString "readChunk"), (Str.ofString "HTMLUnicodeInputStream.readChunk"), a_HTMLUnicodeInputStream_readChunk, .stmts b_HTMLUnicodeInputStream_readChunk, c_HTMLUnicodeInputStream_readChunk, 3, [], (.ref 134), .none, .none, (.str (Str.ofString "html5lib._inputstream") 564), none, (.ref 140), .none, 0⟩), #[]⟩
@[reducible] noncomputable def o142 (P : Params) : Obj := ⟨(.type "tuple"), none, (.seq #[] 0), #[]⟩
@[reducible] noncomputable def o143 (P : Params) : Obj := ⟨.none, none, (.fields #[]), #[]⟩
@[reducible] noncomputable def o144 (P : Params) : Obj := ⟨(.type "tuple"), none, (.seq #[(.str (Str.ofString "self") 694), (.str (Str.ofString "data") 695), (.str (Str.ofString "c") 696)] 0), #[]⟩
@[reducible] noncomputable def o145 (P : Params) : Obj := ⟨(.type "tuple"), none, (.seq #[] 0), #[]⟩
@[reducible] noncomputable def a_HTMLUnicodeInputStream_characterErrorsUCS4 : Arguments := (fun x (_ : x = dArgs (D2 15 8)) => x) _ (by conv => rhs; whnf)
@[reducible] noncomputable def b_HTMLUnicodeInputStream_characterErrorsUCS4 : List Stmt := (fun x (_ : x = dBody (D2 15 8)) => x) _ (by conv => rhs; whnf)
@[reducible] noncomputable def c_HTMLUnicodeInputStream_characterErrorsUCS4 : Scope := (fun x (_ : x = dScope (D2 15 8)) => x) _ (by conv => rhs; whnf)
@[reducible] noncomputable def o146 (P : Params) : Obj := ⟨.none, none, (.func ⟨(Str.ofString "characterErrorsUCS4"), (Str.ofString "HTMLUnicodeInputStream.characterErrorsUCS4"), a_HTMLUnicodeInputStream_characterErrorsUCS4, .stmts b_HTMLUnicodeInputStream_characterErrorsUCS4, c_HTMLUnicodeInputStream_characterErrorsUCS4, 0, [], .none, .none, .none, .none, none, .none, .none, 0⟩), #[]⟩
@[reducible] noncomputable def o147 (P : Params) : Obj := ⟨(.type "code"), none, (.fields #[(.str (Str.ofString "characterErrorsUCS4") 691), (.str (Str.ofString "HTMLUnicodeInputStream.characterErrorsUCS4") 692), (.str (Str.ofString "/claim/cut.py") 693), (.int 101 0), (.int 2 0), (.int 0 0), (.int 0 0), (.int 3 0), (.ref 142), (.bool true), (.int 181 0), (.ref 143), .none, (.ref 144), (.ref 145), (.ref 146), (.int 697 0), (.int 101 0), (.str (Str.ofString "/claim/cut.py") 698)]), #[]⟩
@[reducible] noncomputable def o148 (P : Params) : Obj := ⟨(.type "function"), none, (.func ⟨(Str.ofString "characterErrorsUCS4"), (Str.ofString "HTMLUnicodeInputStream.characterErrorsUCS4"), a_HTMLUnicodeInputStream_characterErrorsUCS4, .stmts b_HTMLUnicodeInputStream_characterErrorsUCS4, c_HTMLUnicodeInputStream_characterErrorsUCS4, 3, [], .none, .none, .none, (.str (Str.ofString "html5lib._inputstream") 564), none, (.ref 147), .none, 0⟩), #[]⟩
@[reducible] noncomputable def o149 (P : Params) : Obj := ⟨(.type "tuple"), none, (.seq #[(.bool false)] 0), #[]⟩
@[reducible] noncomputable def o150 (P : Params) : Obj := ⟨(.type "tuple"), none, (.seq #[] 0), #[]⟩
@[reducible] noncomputable def o151 (P : Params) : Obj := ⟨.none, none, (.fields #[]), #[]⟩
@[reducible] noncomputable def o152 (P : Params) : Obj := ⟨(.type "tuple"), none, (.seq #[(.str (Str.ofString "self") 703), (.str (Str.ofString "characters") 704), (.str (Str.ofString "opposite") 705), (.str (Str.ofString "rv") 706), (.str (Str.ofString "end") 707), (.str (Str.ofString "r") 708)] 0), #[]⟩
@[reducible] noncomputable def o153 (P : Params) : Obj := ⟨(.type "tuple"), none, (.seq #[] 0), #[]⟩
@[reducible] noncomputable def a_HTMLUnicodeInputStream_charsUntil : Arguments := (fun x (_ : x = dArgs (D2 15 9)) => x) _ (by conv => rhs; whnf)
@[reducible] noncomputable def b_HTMLUnicodeInputStream_charsUntil : List Stmt := (fun x (_ : x = dBody (D2 15 9)) => x) _ (by conv => rhs; whnf)
@[reducible] noncomputable def c_HTMLUnicodeInputStream_charsUntil : Scope := (fun x (_ : x = dScope (D2 15 9)) => x) _ (by conv => rhs; whnf)
@[reducible] noncomputable def o154 (P : Params) : Obj := ⟨.none, none, (.func ⟨(Str.ofString "charsUntil"), (Str.ofString "HTMLUnicodeInputStream.charsUntil"), a_HTMLUnicodeInputStream_charsUntil, .stmts b_HTMLUnicodeInputStream_charsUntil, c_HTMLUnicodeInputStream_charsUntil, 0, [], .none, .none, .none, .none, none, .none, .none, 0⟩), #[]⟩
@[reducible] noncomputable def o155 (P : Params) : Obj := ⟨(.type "code"), none, (.fields #[(.str (Str.ofString "charsUntil") 700), (.str (Str.ofString "HTMLUnicodeInputStream.charsUntil") 701), (.str (Str.ofString "/claim/cut.py") 702), (.int 106 0), (.int 3 0), (.int 0 0), (.int 0 0), (.int 3 0), (.ref 150), (.bool true), (.int 181 0), (.ref 151), .none, (.ref 152), (.ref 153), (.ref 154), (.int 709 0), (.int 106 0), (.str (Str.ofString "/claim/cut.py") 710)]), #[]⟩
@[reducible] noncomputable def o156 (P : Params) : Obj := ⟨(.type "function"), none, (.func ⟨(Str.ofString "charsUntil"), (Str.ofString "HTMLUnicodeInputStream.charsUntil"), a_HTMLUnicodeInputStream_charsUntil, .stmts b_HTMLUnicodeInputStream_charsUntil, c_HTMLUnicodeInputStream_charsUntil, 3, [], (.ref 149), .none, .none, (.str (Str.ofString "html5lib._inputstream") 564), none, (.ref 155), .none, 0⟩), #[]⟩
@[reducible] noncomputable def o157 (P : Params) : Obj := ⟨(.type "tuple"), none, (.seq #[] 0), #[]⟩
@[reducible] noncomputable def o158 (P : Params) : Obj := ⟨.none, none, (.fields #[]), #[]⟩
@[reducible] noncomputable def o159 (P : Params) : Obj := ⟨(.type "tuple"), none, (.seq #[(.str (Str.ofString "self") 715), (.str (Str.ofString "char") 716)] 0), #[]⟩
@[reducible] noncomputable def o160 (P : Params) : Obj := ⟨(.type "tuple"), none, (.seq #[] 0), #[]⟩
@[reducible] noncomputable def a_HTMLUnicodeInputStream_unget : Arguments := (fun x (_ : x = dArgs (D2 15 10)) => x) _ (by conv => rhs; whnf)
@[reducible] noncomputable def b_HTMLUnicodeInputStream_unget : List Stmt := (fun x (_ : x = dBody (D2 15 10)) => x) _ (by conv => rhs; whnf)
@[reducible] noncomputable def c_HTMLUnicodeInputStream_unget : Scope := (fun x (_ : x = dScope (D2 15 10)) => x) _ (by conv => rhs; whnf)
@[reducible] noncomputable def o161 (P : Params) : Obj := ⟨.none, none, (.func ⟨(Str.ofString "unget"), (Str.ofString "HTMLUnicodeInputStream.unget"), a_HTMLUnicodeInputStream_unget, .stmts b_HTMLUnicodeInputStream_unget, c_HTMLUnicodeInputStream_unget, 0, [], .none, .none, .none, .none, none, .none, .none, 0⟩), #[]⟩
@[reducible] noncomputable def o162 (P : Params) : Obj := ⟨(.type "code"), none, (.fields #[(.str (Str.ofString "unget") 712), (.str (Str.ofString "HTMLUnicodeInputStream.unget") 713), (.str (Str.ofString "/claim/cut.py") 714), (.int 125 0), (.int 2 0), (.int 0 0), (.int 0 0), (.int 3 0), (.ref 157), (.bool true), (.int 181 0), (.ref 158), .none, (.ref 159), (.ref 160), (.ref 161), (.int 717 0), (.int 125 0), (.str (Str.ofString "/claim/cut.py") 718)]), #[]⟩
@[reducible] noncomputable def o163 (P : Params) : Obj := ⟨(.type "function"), none, (.func ⟨(Str.ofString "unget"), (Str.ofString "HTMLUnicodeInputStream.unget"), a_HTMLUnicodeInputStream_unget, .stmts b_HTMLUnicodeInputStream_unget, c_HTMLUnicodeInputStream_unget, 3, [], .none, .none, .none, (.str (Str.ofString "html5lib._inputstream") 564), none, (.ref 162), .none, 0⟩), #[]⟩
@[reducible] noncomputable def o164 (P : Params) : Obj := ⟨(.type "tuple"), none, (.seq #[(.str (Str.ofString "_bufferedCharacter") 720), (.str (Str.ofString "chunk") 721), (.str (Str.ofString "chunkOffset") 722), (.str (Str.ofString "chunkSize") 723), (.str (Str.ofString "dataStream") 724), (.str (Str.ofString "errors") 725), (.str (Str.ofString "newLines") 726), (.str (Str.ofString "prevNumCols") 727), (.str (Str.ofString "prevNumLines") 728), (.str (Str.ofString "reportCharacterErrors") 729)] 0), #[]⟩
@[reducible] noncomputable def o165 (P : Params) : Obj := ⟨(.type "dict"), none, (.dict #[⟨(PyData.keyHash P (Str.ofString "__module__")), (.str (Str.ofString "__module__") 619), (.str (Str.ofString "html5lib._inputstream") 564)⟩, ⟨(PyData.keyHash P (Str.ofString "__firstlineno__")), (.str (Str.ofString "__firstlineno__") 623), (.int 29 622)⟩, ⟨(PyData.keyHash P (Str.ofString "_defaultChunkSize")), (.str (Str.ofString "_defaultChunkSize") 625), (.int 10240 624)⟩, ⟨(PyData.keyHash P (Str.ofString "__init__")), (.str (Str.ofString "__init__") 633), (.ref 98)⟩, ⟨(PyData.keyHash P (Str.ofString "reset")), (.str (Str.ofString "reset") 640), (.ref 105)⟩, ⟨(PyData.keyHash P (Str.ofString "openStream")), (.str (Str.ofString "openStream") 649), (.ref 112)⟩, ⟨(PyData.keyHash P (Str.ofString "_position")), (.str (Str.ofString "_position") 662), (.ref 119)⟩, ⟨(PyData.keyHash P (Str.ofString "position")), (.str (Str.ofString "position") 671), (.ref 126)⟩, ⟨(PyData.keyHash P (Str.ofString "char")), (.str (Str.ofString "char") 680), (.ref 133)⟩, ⟨(PyData.keyHash P (Str.ofString "readChunk")), (.str (Str.ofString "readChunk") 690), (.ref 141)⟩, ⟨(PyData.keyHash P (Str.ofString "characterErrorsUCS4")), (.str (Str.ofString "characterErrorsUCS4") 699), (.ref 148)⟩, ⟨(PyData.keyHash P (Str.ofString "charsUntil")), (.str (Str.ofString "charsUntil") 711), (.ref 156)⟩, ⟨(PyData.keyHash P (Str.ofString "unget")), (.str (Str.ofString "unget") 719), (.ref 163)⟩, ⟨(PyData.keyHash P (Str.ofString "__static_attributes__")), (.str (Str.ofString "__static_attributes__") 730), (.ref 164)⟩, ⟨(PyData.keyHash P (Str.ofString "__dict__")), (.str (Str.ofString "__dict__") 732), (.ref 167)⟩, ⟨(PyData.keyHash P (Str.ofString "__weakref__")), (.str (Str.ofString "__weakref__") 734), (.ref 168)⟩, ⟨(PyData.keyHash P (Str.ofString "__doc__")), (.str (Str.ofString "__doc__") 735), .none⟩] 4), #[]⟩
@[reducible] noncomputable def o166 (P : Params) : Obj := ⟨(.type "type"), none, (.cls ⟨(Str.ofString "HTMLUnicodeInputStream"), [(.type "object")], [(.ref 166), (.type "object")], 165, (Str.ofString "HTMLUnicodeInputStream"), true, [], [], false, none, false⟩), #[(some (.ref 85)), none, (some (.str (Str.ofString "HTMLUnicodeInputStream") 612)), (some (.str (Str.ofString "HTMLUnicodeInputStream") 620)), (some (.builtin "object.__new__")), (some (.bool true))]⟩
@[reducible] noncomputable def o167 (P : Params) : Obj := ⟨(.type "getset_descriptor"), none, (.fields #[(.str (Str.ofString "__dict__") 731), (.ref 166), (.builtin "function.__dict__"), (.builtin "function.__dict__#set")]), #[]⟩
@[reducible] noncomputable def o168 (P : Params) : Obj := ⟨(.type "getset_descriptor"), none, (.fields #[(.str (Str.ofString "__weakref__") 733), (.ref 166), (.builtin "ExceptionGroup.__weakref__"), .none]), #[]⟩
@[reducible] noncomputable def o169 (P : Params) : Obj := ⟨(.type "super"), none, (.fields #[(.ref 166), (.ref 166), (.ref 166)]), #[]⟩
@[reducible] noncomputable def o170 (P : Params) : Obj := ⟨(.type "builtin_function_or_method"), none, (.fields #[(.builtin "object.__init_subclass__"), (.ref 166)]), #[]⟩
@[reducible] noncomputable def o171 (P : Params) : Obj := ⟨(.type "tuple"), none, (.seq #[(.int 0 740), .none] 0), #[]⟩
@[reducible] noncomputable def o172 (P : Params) : Obj := ⟨(.type "tuple"), none, (.seq #[] 0), #[]⟩
@[reducible] noncomputable def o173 (P : Params) : Obj := ⟨.none, none, (.fields #[]), #[]⟩
@[reducible] noncomputable def o174 (P : Params) : Obj := ⟨(.type "tuple"), none, (.seq #[(.str (Str.ofString "rows") 744), (.str (Str.ofString "key") 745), (.str (Str.ofString "low") 746), (.str (Str.ofString "high") 747), (.str (Str.ofString "middle") 748)] 0), #[]⟩
@[reducible] noncomputable def o175 (P : Params) : Obj := ⟨(.type "tuple"), none, (.seq #[] 0), #[]⟩
@[reducible] noncomputable def o176 (P : Params) : Obj := ⟨.none, none, (.func ⟨(Str.ofString "bisect_left"), (Str.ofString "bisect_left"), (dArgs (D1 17)), .stmts (dBody (D1 17)), (dScope (D1 17)), 0, [], .none, .none, .none, .none, none, .none, .none, 0⟩), #[]⟩
@[reducible] noncomputable def o177 (P : Params) : Obj := ⟨(.type "code"), none, (.fields #[(.str (Str.ofString "bisect_left") 741), (.str (Str.ofString "bisect_left") 742), (.str (Str.ofString "/claim/cut.py") 743), (.int 134 0), (.int 4 0), (.int 0 0), (.int 0 0), (.int 3 0), (.ref 172), (.bool true), (.int 181 0), (.ref 173), .none, (.ref 174), (.ref 175), (.ref 176), (.int 749 0), (.int 134 0), (.str (Str.ofString "/claim/cut.py") 750)]), #[]⟩
@[reducible] noncomputable def o178 (P : Params) : Obj := ⟨(.type "function"), none, (.func ⟨(Str.ofString "bisect_left"), (Str.ofString "bisect_left"), (dArgs (D1 17)), .stmts (dBody (D1 17)), (dScope (D1 17)), 3, [], (.ref 171), .none, .none, (.str (Str.ofString "html5lib._trie.py") 738), none, (.ref 177), .none, 0⟩), #[]⟩
@[reducible] noncomputable def o179 (P : Params) : Obj := ⟨(.type "tuple"), none, (.seq #[(.type "object")] 0), #[]⟩
@[reducible] noncomputable def o180 (P : Params) : Obj := ⟨(.type "builtin_function_or_method"), none, (.fields #[(.builtin "type.__prepare__"), (.type "type")]), #[]⟩
@[reducible] noncomputable def o181 (P : Params) : Obj := ⟨(.type "dict"), none, (.dict #[⟨(PyData.keyHash P (Str.ofString "__module__")), (.str (Str.ofString "__module__") 759), (.str (Str.ofString "html5lib._trie.py") 738)⟩, ⟨(PyData.keyHash P (Str.ofString "__qualname__")), (.str (Str.ofString "__qualname__") 761), (.str (Str.ofString "Trie") 760)⟩, ⟨(PyData.keyHash P (Str.ofString "__firstlineno__")), (.str (Str.ofString "__firstlineno__") 763), (.int 144 762)⟩, ⟨(PyData.keyHash P (Str.ofString "__init__")), (.str (Str.ofString "__init__") 771), (.ref 192)⟩, ⟨(PyData.keyHash P (Str.ofString "__contains__")), (.str (Str.ofString "__contains__") 779), (.ref 199)⟩, ⟨(PyData.keyHash P (Str.ofString "__len__")), (.str (Str.ofString "__len__") 786), (.ref 206)⟩, ⟨(PyData.keyHash P (Str.ofString "__getitem__")), (.str (Str.ofString "__getitem__") 794), (.ref 213)⟩, ⟨(PyData.keyHash P (Str.ofString "has_keys_with_prefix")), (.str (Str.ofString "has_keys_with_prefix") 805), (.ref 220)⟩, ⟨(PyData.keyHash P (Str.ofString "longest_prefix")), (.str (Str.ofString "longest_prefix") 814), (.ref 227)⟩, ⟨(PyData.keyHash P (Str.ofString "__static_attributes__")), (.str (Str.ofString "__static_attributes__") 819), (.ref 228)⟩] 10), #[]⟩
@[reducible] noncomputable def o182 (P : Params) : Obj := ⟨(.type "tuple"), none, (.seq #[] 0), #[]⟩
@[reducible] noncomputable def o183 (P : Params) : Obj := ⟨.none, none, (.fields #[(.int 146 0), (.int 4 0), (.ref 191), (.int 152 0), (.int 4 0), (.ref 198), (.int 155 0), (.int 4 0), (.ref 205), (.int 158 0), (.int 4 0), (.ref 212), (.int 161 0), (.int 4 0), (.ref 219), (.int 173 0), (.int 4 0), (.ref 226)]), #[]⟩
@[reducible] noncomputable def o184 (P : Params) : Obj := ⟨(.type "code"), none, (.fields #[(.str (Str.ofString "Trie") 754), (.str (Str.ofString "Trie") 755), (.str (Str.ofString "/claim/cut.py") 756), (.int 144 0), (.int 0 0), (.int 0 0), (.int 0 0), (.int 0 0), (.ref 182), (.bool false), (.int 181 0), (.ref 183), .none, .none, .none, .none, (.int 757 0), (.int 144 0), (.str (Str.ofString "/claim/cut.py") 758)]), #[]⟩
@[reducible] noncomputable def o185 (P : Params) : Obj := ⟨(.type "frame"), none, .plain, #[(some (.ref 184)), (some (.ref 3)), (some (.ref 181)), none, (some (.str (Str.ofString "html5lib._trie.py") 738)), none, (some (.ref 0))]⟩
@[reducible] noncomputable def o186 (P : Params) : Obj := ⟨(.type "tuple"), none, (.seq #[] 0), #[]⟩
@[reducible] noncomputable def o187 (P : Params) : Obj := ⟨.none, none, (.fields #[]), #[]⟩
@[reducible] noncomputable def o188 (P : Params) : Obj := ⟨(.type "tuple"), none, (.seq #[(.str (Str.ofString "self") 767), (.str (Str.ofString "data") 768)] 0), #[]⟩
@[reducible] noncomputable def o189 (P : Params) : Obj := ⟨(.type "tuple"), none, (.seq #[] 0), #[]⟩
@[reducible] noncomputable def o190 (P : Params) : Obj := ⟨.none, none, (.func ⟨(Str.ofString "__init__"), (Str.ofString "Trie.__init__"), (dArgs (D2 18 0)), .stmts (dBody (D2 18 0)), (dScope (D2 18 0)), 0, [], .none, .none, .none, .none, none, .none, .none, 0⟩), #[]⟩
@[reducible] noncomputable def o191 (P : Params) : Obj := ⟨(.type "code"), none, (.fields #[(.str (Str.ofString "__init__") 764), (.str (Str.ofString "Trie.__init__") 765), (.str (Str.ofString "/claim/cut.py") 766), (.int 146 0), (.int 2 0), (.int 0 0), (.int 0 0), (.int 3 0), (.ref 186), (.bool true), (.int 181 0), (.ref 187), .none, (.ref 188), (.ref 189), (.ref 190), (.int 769 0), (.int 146 0), (.str (Str.ofString "/claim/cut.py") 770)]), #[]⟩
@[reducible] noncomputable def o192 (P : Params) : Obj := ⟨(.type "function"), none, (.func ⟨(Str.ofString "__init__"), (Str.ofString "Trie.__init__"), (dArgs (D2 18 0)), .stmts (dBody (D2 18 0)), (dScope (D2 18 0)), 3, [], .none, .none, .none, (.str (Str.ofString "html5lib._trie.py") 738), none, (.ref 191), .none, 0⟩), #[]⟩
@[reducible] noncomputable def o193 (P : Params) : Obj := ⟨(.type "tuple"), none, (.seq #[] 0), #[]⟩
@[reducible] noncomputable def o194 (P : Params) : Obj := ⟨.none, none, (.fields #[]), #[]⟩
@[reducible] noncomputable def o195 (P : Params) : Obj := ⟨(.type "tuple"), none, (.seq #[(.str (Str.ofString "self") 775), (.str (Str.ofString "key") 776)] 0), #[]⟩
@[reducible] noncomputable def o196 (P : Params) : Obj := ⟨(.type "tuple"), none, (.seq #[] 0), #[]⟩
@[reducible] noncomputable def o197 (P : Params) : Obj := ⟨.none, none, (.func ⟨(Str.ofString "__contains__"), (Str.ofString "Trie.__contains__"), (dArgs (D2 18 1)), .stmts (dBody (D2 18 1)), (dScope (D2 18 1)), 0, [], .none, .none, .none, .none, none, .none, .none, 0⟩), #[]⟩
@[reducible] noncomputable def o198 (P : Params) : Obj := ⟨(.type "code"), none, (.fields #[(.str (Str.ofString "__contains__") 772), (.str (Str.ofString "Trie.__contains__") 773), (.str (Str.ofString "/claim/cut.py") 774), (.int 152 0), (.int 2 0), (.int 0 0), (.int 0 0), (.int 3 0), (.ref 193), (.bool true), (.int 181 0), (.ref 194), .none, (.ref 195), (.ref 196), (.ref 197), (.int 777 0), (.int 152 0), (.str (Str.ofString "/claim/cut.py") 778)]), #[]⟩
@[reducible] noncomputable def o199 (P : Params) : Obj := ⟨(.type "function"), none, (.func ⟨(Str.ofString "__contains__"), (Str.ofString "Trie.__contains__"), (dArgs (D2 18 1)), .stmts (dBody (D2 18 1)), (dScope (D2 18 1)), 3, [], .none, .none, .none, (.str (Str.ofString "html5lib._trie.py") 738), none, (.ref 198), .none, 0⟩), #[]⟩
@[reducible] noncomputable def o200 (P : Params) : Obj := ⟨(.type "tuple"), none, (.seq #[] 0), #[]⟩
@[reducible] noncomputable def o201 (P : Params) : Obj := ⟨.none, none, (.fields #[]), #[]⟩
@[reducible] noncomputable def o202 (P : Params) : Obj := ⟨(.type "tuple"), none, (.seq #[(.str (Str.ofString "self") 783)] 0), #[]⟩
@[reducible] noncomputable def o203 (P : Params) : Obj := ⟨(.type "tuple"), none, (.seq #[] 0), #[]⟩
@[reducible] noncomputable def o204 (P : Params) : Obj := ⟨.none, none, (.func ⟨(Str.ofString "__len__"), (Str.ofString "Trie.__len__"), (dArgs (D2 18 2)), .stmts (dBody (D2 18 2)), (dScope (D2 18 2)), 0, [], .none, .none, .none, .none, none, .none, .none, 0⟩), #[]⟩
@[reducible] noncomputable def o205 (P : Params) : Obj := ⟨(.type "code"), none, (.fields #[(.str (Str.ofString "__len__") 780), (.str (Str.ofString "Trie.__len__") 781), (.str (Str.ofString "/claim/cut.py") 782), (.int 155 0), (.int 1 0), (.int 0 0), (.int 0 0), (.int 3 0), (.ref 200), (.bool true), (.int 181 0), (.ref 201), .none, (.ref 202), (.ref 203), (.ref 204), (.int 784 0), (.int 155 0), (.str (Str.ofString "/claim/cut.py") 785)]), #[]⟩
@[reducible] noncomputable def o206 (P : Params) : Obj := ⟨(.type "function"), none, (.func ⟨(Str.ofString "__len__"), (Str.ofString "Trie.__len__"), (dArgs (D2 18 2)), .stmts (dBody (D2 18 2)), (dScope (D2 18 2)), 3, [], .none, .none, .none, (.str (Str.ofString "html5lib._trie.py") 738), none, (.ref 205), .none, 0⟩), #[]⟩
@[reducible] noncomputable def o207 (P : Params) : Obj := ⟨(.type "tuple"), none, (.seq #[] 0), #[]⟩
@[reducible] noncomputable def o208 (P : Params) : Obj := ⟨.none, none, (.fields #[]), #[]⟩
@[reducible] noncomputable def o209 (P : Params) : Obj := ⟨(.type "tuple"), none, (.seq #[(.str (Str.ofString "self") 790), (.str (Str.ofString "key") 791)] 0), #[]⟩
@[reducible] noncomputable def o210 (P : Params) : Obj := ⟨(.type "tuple"), none, (.seq #[] 0), #[]⟩
@[reducible] noncomputable def o211 (P : Params) : Obj := ⟨.none, none, (.func ⟨(Str.ofString "__getitem__"), (Str.ofString "Trie.__getitem__"), (dArgs (D2 18 3)), .stmts (dBody (D2 18 3)), (dScope (D2 18 3)), 0, [], .none, .none, .none, .none, none, .none, .none, 0⟩), #[]⟩
@[reducible] noncomputable def o212 (P : Params) : Obj := ⟨(.type "code"), none, (.fields #[(.str (Str.ofString "__getitem__") 787), (.str (Str.ofString "Trie.__getitem__") 788), (.str (Str.ofString "/claim/cut.py") 789), (.int 158 0), (.int 2 0), (.int 0 0), (.int 0 0), (.int 3 0), (.ref 207), (.bool true), (.int 181 0), (.ref 208), .none, (.ref 209), (.ref 210), (.ref 211), (.int 792 0), (.int 158 0), (.str (Str.ofString "/claim/cut.py") 793)]), #[]⟩
@[reducible] noncomputable def o213 (P : Params) : Obj := ⟨(.type "function"), none, (.func ⟨(Str.ofString "__getitem__"), (Str.ofString "Trie.__getitem__"), (dArgs (D2 18 3)), .stmts (dBody (D2 18 3)), (dScope (D2 18 3)), 3, [], .none, .none, .none, (.str (Str.ofString "html5lib._trie.py") 738), none, (.ref 212), .none, 0⟩), #[]⟩
@[reducible] noncomputable def o214 (P : Params) : Obj := ⟨(.type "tuple"), none, (.seq #[] 0), #[]⟩
@[reducible] noncomputable def o215 (P : Params) : Obj := ⟨.none, none, (.fields #[]), #[]⟩
@[reducible] noncomputable def o216 (P : Params) : Obj := ⟨(.type "tuple"), none, (.seq #[(.str (Str.ofString "self") 798), (.str (Str.ofString "prefix") 799), (.str (Str.ofString "lo") 800), (.str (Str.ofString "hi") 801), (.str (Str.ofString "i") 802)] 0), #[]⟩
@[reducible] noncomputable def o217 (P : Params) : Obj := ⟨(.type "tuple"), none, (.seq #[] 0), #[]⟩
@[reducible] noncomputable def o218 (P : Params) : Obj := ⟨.none, none, (.func ⟨(Str.ofString "has_keys_with_prefix"), (Str.ofString "Trie.has_keys_with_prefix"), (dArgs (D2 18 4)), .stmts (dBody (D2 18 4)), (dScope (D2 18 4)), 0, [], .none, .none, .none, .none, none, .none, .none, 0⟩), #[]⟩
@[reducible] noncomputable def o219 (P : Params) : Obj := ⟨(.type "code"), none, (.fields #[(.str (Str.ofString "has_keys_with_prefix") 795), (.str (Str.ofString "Trie.has_keys_with_prefix") 796), (.str (Str.ofString "/claim/cut.py") 797), (.int 161 0), (.int 2 0), (.int 0 0), (.int 0 0), (.int 3 0), (.ref 214), (.bool true), (.int 181 0), (.ref 215), .none, (.ref 216), (.ref 217), (.ref 218), (.int 803 0), (.int 161 0), (.str (Str.ofString "/claim/cut.py") 804)]), #[]⟩
@[reducible] noncomputable def o220 (P : Params) : Obj := ⟨(.type "function"), none, (.func ⟨(Str.ofString "has_keys_with_prefix"), (Str.ofString "Trie.has_keys_with_prefix"), (dArgs (D2 18 4)), .stmts (dBody (D2 18 4)), (dScope (D2 18 4)), 3, [], .none, .none, .none, (.str (Str.ofString "html5lib._trie.py") 738), none, (.ref 219), .none, 0⟩), #[]⟩
@[reducible] noncomputable def o221 (P : Params) : Obj := ⟨(.type "tuple"), none, (.seq #[] 0), #[]⟩
@[reducible] noncomputable def o222 (P : Params) : Obj := ⟨.none, none, (.fields #[]), #[]⟩
@[reducible] noncomputable def o223 (P : Params) : Obj := ⟨(.type "tuple"), none, (.seq #[(.str (Str.ofString "self") 809), (.str (Str.ofString "prefix") 810), (.str (Str.ofString "i") 811)] 0), #[]⟩
@[reducible] noncomputable def o224 (P : Params) : Obj := ⟨(.type "tuple"), none, (.seq #[] 0), #[]⟩
@[reducible] noncomputable def o225 (P : Params) : Obj := ⟨.none, none, (.func ⟨(Str.ofString "longest_prefix"), (Str.ofString "Trie.longest_prefix"), (dArgs (D2 18 5)), .stmts (dBody (D2 18 5)), (dScope (D2 18 5)), 0, [], .none, .none, .none, .none, none, .none, .none, 0⟩), #[]⟩
@[reducible] noncomputable def o226 (P : Params) : Obj := ⟨(.type "code"), none, (.fields #[(.str (Str.ofString "longest_prefix") 806), (.str (Str.ofString "Trie.longest_prefix") 807), (.str (Str.ofString "/claim/cut.py") 808), (.int 173 0), (.int 2 0), (.int 0 0), (.int 0 0), (.int 3 0), (.ref 221), (.bool true), (.int 181 0), (.ref 222), .none, (.ref 223), (.ref 224), (.ref 225), (.int 812 0), (.int 173 0), (.str (Str.ofString "/claim/cut.py") 813)]), #[]⟩
@[reducible] noncomputable def o227 (P : Params) : Obj := ⟨(.type "function"), none, (.func ⟨(Str.ofString "longest_prefix"), (Str.ofString "Trie.longest_prefix"), (dArgs (D2 18 5)), .stmts (dBody (D2 18 5)), (dScope (D2 18 5)), 3, [], .none, .none, .none, (.str (Str.ofString "html5lib._trie.py") 738), none, (.ref 226), .none, 0⟩), #[]⟩
@[reducible] noncomputable def o228 (P : Params) : Obj := ⟨(.type "tuple"), none, (.seq #[(.str (Str.ofString "_cachepoints") 815), (.str (Str.ofString "_cachestr") 816), (.str (Str.ofString "_data") 817), (.str (Str.ofString "_keys") 818)] 0), #[]⟩
@[reducible] noncomputable def o229 (P : Params) : Obj := ⟨(.type "dict"), none, (.dict #[⟨(PyData.keyHash P (Str.ofString "__module__")), (.str (Str.ofString "__module__") 759), (.str (Str.ofString "html5lib._trie.py") 738)⟩, ⟨(PyData.keyHash P (Str.ofString "__firstlineno__")), (.str (Str.ofString "__firstlineno__") 763), (.int 144 762)⟩, ⟨(PyData.keyHash P (Str.ofString "__init__")), (.str (Str.ofString "__init__") 771), (.ref 192)⟩, ⟨(PyData.keyHash P (Str.ofString "__contains__")), (.str (Str.ofString "__contains__") 779), (.ref 199)⟩, ⟨(PyData.keyHash P (Str.ofString "__len__")), (.str (Str.ofString "__len__") 786), (.ref 206)⟩, ⟨(PyData.keyHash P (Str.ofString "__getitem__")), (.str (Str.ofString "__getitem__") 794), (.ref 213)⟩, ⟨(PyData.keyHash P (Str.ofString "has_keys_with_prefix")), (.str (Str.ofString "has_keys_with_prefix") 805), (.ref 220)⟩, ⟨(PyData.keyHash P (Str.ofString "longest_prefix")), (.str (Str.ofString "longest_prefix") 814), (.ref 227)⟩, ⟨(PyData.keyHash P (Str.ofString "__static_attributes__")), (.str (Str.ofString "__static_attributes__") 819), (.ref 228)⟩, ⟨(PyData.keyHash P (Str.ofString "__dict__")), (.str (Str.ofString "__dict__") 821), (.ref 231)⟩, ⟨(PyData.keyHash P (Str.ofString "__weakref__")), (.str (Str.ofString "__weakref__") 823), (.ref 232)⟩, ⟨(PyData.keyHash P (Str.ofString "__doc__")), (.str (Str.ofString "__doc__") 824), .none⟩] 4), #[]⟩
@[reducible] noncomputable def o230 (P : Params) : Obj := ⟨(.type "type"), none, (.cls ⟨(Str.ofString "Trie"), [(.type "object")], [(.ref 230), (.type "object")], 229, (Str.ofString "Trie"), true, [], [], false, none, false⟩), #[(some (.ref 179)), none, (some (.str (Str.ofString "Trie") 752)), (some (.str (Str.ofString "Trie") 760)), (some (.builtin "object.__new__")), (some (.bool true))]⟩
@[reducible] noncomputable def o231 (P : Params) : Obj := ⟨(.type "getset_descriptor"), none, (.fields #[(.str (Str.ofString "__dict__") 820), (.ref 230), (.builtin "function.__dict__"), (.builtin "function.__dict__#set")]), #[]⟩
@[reducible] noncomputable def o232 (P : Params) : Obj := ⟨(.type "getset_descriptor"), none, (.fields #[(.str (Str.ofString "__weakref__") 822), (.ref 230), (.builtin "ExceptionGroup.__weakref__"), .none]), #[]⟩
@[reducible] noncomputable def o233 (P : Params) : Obj := ⟨(.type "super"), none, (.fields #[(.ref 230), (.ref 230), (.ref 230)]), #[]⟩
@[reducible] noncomputable def o234 (P : Params) : Obj := ⟨(.type "builtin_function_or_method"), none, (.fields #[(.builtin "object.__init_subclass__"), (.ref 230)]), #[]⟩
@[reducible] noncomputable def t2 (P : Params) : BT := (.node (boot_o_0 P) (.node (boot_o_1 P) (.node (o3' P) (.node (boot_o_7 P) (.node (o15 P) (.node (o31 P) (.node (o63 P) (.node (o127 P) .nil .nil) (.node (o191 P) .nil .nil)) (.node (o95 P) (.node (o159 P) .nil .nil) (.node (o223 P) .nil .nil))) (.node (o47 P) (.node (o79 P) (.node (o143 P) .nil .nil) (.node (o207 P) .nil .nil)) (.node (o111 P) (.node (o175 P) .nil .nil) .nil))) (.node (o23 P) (.node (o39 P) (.node (o71 P) (.node (o135 P) .nil .nil) (.node (o199 P) .nil .nil)) (.node (o103 P) (.node (o167 P) .nil .nil) (.node (o231 P) .nil .nil))) (.node (o55 P) (.node (o87 P) (.node (o151 P) .nil .nil) (.node (o215 P) .nil .nil)) (.node (o119 P) (.node (o183 P) .nil .nil) .nil)))) (.node (o11 P) (.node (o19 P) (.node (o35 P) (.node (o67 P) (.node (o131 P) .nil .nil) (.node (o195 P) .nil .nil)) (.node (o99 P) (.node (o163 P) .nil .nil) (.node (o227 P) .nil .nil))) (.node (o51 P) (.node (o83 P) (.node (o147 P) .nil .nil) (.node (o211 P) .nil .nil)) (.node (o115 P) (.node (o179 P) .nil .nil) .nil))) (.node (o27 P) (.node (o43 P) (.node (o75 P) (.node (o139 P) .nil .nil) (.node (o203 P) .nil .nil)) (.node (o107 P) (.node (o171 P) .nil .nil) .nil)) (.node (o59 P) (.node (o91 P) (.node (o155 P) .nil .nil) (.node (o219 P) .nil .nil)) (.node (o123 P) (.node (o187 P) .nil .nil) .nil))))) (.node (boot_o_5 P) (.node (boot_o_9 P) (.node (o17 P) (.node (o33 P) (.node (o65 P) (.node (o129 P) .nil .nil) (.node (o193 P) .nil .nil)) (.node (o97 P) (.node (o161 P) .nil .nil) (.node (o225 P) .nil .nil))) (.node (o49 P) (.node (o81 P) (.node (o145 P) .nil .nil) (.node (o209 P) .nil .nil)) (.node (o113 P) (.node (o177 P) .nil .nil) .nil))) (.node (o25 P) (.node (o41 P) (.node (o73 P) (.node (o137 P) .nil .nil) (.node (o201 P) .nil .nil)) (.node (o105 P) (.node (o169 P) .nil .nil) (.node (o233 P) .nil .nil))) (.node (o57 P) (.node (o89 P) (.node (o153 P) .nil .nil) (.node (o217 P) .nil .nil)) (.node (o121 P) (.node (o185 P) .nil .nil) .nil)))) (.node (o13 P) (.node (o21 P) (.node (o37 P) (.node (o69 P) (.node (o133 P) .nil .nil) (.node (o197 P) .nil .nil)) (.node (o101 P) (.node (o165 P) .nil .nil) (.node (o229 P) .nil .nil))) (.node (o53 P) (.node (o85 P) (.node (o149 P) .nil .nil) (.node (o213 P) .nil .nil)) (.node (o117 P) (.node (o181 P) .nil .nil) .nil))) (.node (o29 P) (.node (o45 P) (.node (o77 P) (.node (o141 P) .nil .nil) (.node (o205 P) .nil .nil)) (.node (o109 P) (.node (o173 P) .nil .nil) .nil)) (.node (o61 P) (.node (o93 P) (.node (o157 P) .nil .nil) (.node (o221 P) .nil .nil)) (.node (o125 P) (.node (o189 P) .nil .nil) .nil)))))) (.node (boot_o_2 P) (.node (boot_o_4 P) (.node (boot_o_8 P) (.node (o16 P) (.node (o32 P) (.node (o64 P) (.node (o128 P) .nil .nil) (.node (o192 P) .nil .nil)) (.node (o96 P) (.node (o160 P) .nil .nil) (.node (o224 P) .nil .nil))) (.node (o48 P) (.node (o80 P) (.node (o144 P) .nil .nil) (.node (o208 P) .nil .nil)) (.node (o112 P) (.node (o176 P) .nil .nil) .nil))) (.node (o24 P) (.node (o40 P) (.node (o72 P) (.node (o136 P) .nil .nil) (.node (o200 P) .nil .nil)) (.node (o104 P) (.node (o168 P) .nil .nil) (.node (o232 P) .nil .nil))) (.node (o56 P) (.node (o88 P) (.node (o152 P) .nil .nil) (.node (o216 P) .nil .nil)) (.node (o120 P) (.node (o184 P) .nil .nil) .nil)))) (.node (o12'' P) (.node (o20 P) (.node (o36 P) (.node (o68 P) (.node (o132 P) .nil .nil) (.node (o196 P) .nil .nil)) (.node (o100 P) (.node (o164 P) .nil .nil) (.node (o228 P) .nil .nil))) (.node (o52 P) (.node (o84 P) (.node (o148 P) .nil .nil) (.node (o212 P) .nil .nil)) (.node (o116 P) (.node (o180 P) .nil .nil) .nil))) (.node (o28 P) (.node (o44 P) (.node (o76 P) (.node (o140 P) .nil .nil) (.node (o204 P) .nil .nil)) (.node (o108 P) (.node (o172 P) .nil .nil) .nil)) (.node (o60 P) (.node (o92 P) (.node (o156 P) .nil .nil) (.node (o220 P) .nil .nil)) (.node (o124 P) (.node (o188 P) .nil .nil) .nil))))) (.node (boot_o_6 P) (.node (boot_o_10 P) (.node (o18 P) (.node (o34 P) (.node (o66 P) (.node (o130 P) .nil .nil) (.node (o194 P) .nil .nil)) (.node (o98 P) (.node (o162 P) .nil .nil) (.node (o226 P) .nil .nil))) (.node (o50 P) (.node (o82 P) (.node (o146 P) .nil .nil) (.node (o210 P) .nil .nil)) (.node (o114 P) (.node (o178 P) .nil .nil) .nil))) (.node (o26 P) (.node (o42 P) (.node (o74 P) (.node (o138 P) .nil .nil) (.node (o202 P) .nil .nil)) (.node (o106 P) (.node (o170 P) .nil .nil) (.node (o234 P) .nil .nil))) (.node (o58 P) (.node (o90 P) (.node (o154 P) .nil .nil) (.node (o218 P) .nil .nil)) (.node (o122 P) (.node (o186 P) .nil .nil) .nil)))) (.node (o14 P) (.node (o22 P) (.node (o38 P) (.node (o70 P) (.node (o134 P) .nil .nil) (.node (o198 P) .nil .nil)) (.node (o102 P) (.node (o166 P) .nil .nil) (.node (o230 P) .nil .nil))) (.node (o54 P) (.node (o86 P) (.node (o150 P) .nil .nil) (.node (o214 P) .nil .nil)) (.node (o118 P) (.node (o182 P) .nil .nil) .nil))) (.node (o30 P) (.node (o46 P) (.node (o78 P) (.node (o142 P) .nil .nil) (.node (o206 P) .nil .nil)) (.node (o110 P) (.node (o174 P) .nil .nil) .nil)) (.node (o62 P) (.node (o94 P) (.node (o158 P) .nil .nil) (.node (o222 P) .nil .nil)) (.node (o126 P) (.node (o190 P) .nil .nil) .nil)))))))
@[reducible] noncomputable def o3'' (P : Params) : Obj := ⟨(.type "dict"), none, (.dict #[⟨(PyData.keyHash P (Str.ofString "__name__")), (.str (Str.ofString "__name__") 165), (.str (Str.ofString "html5lib._tokenizer") 827)⟩, ⟨(PyData.keyHash P (Str.ofString "__doc__")), (.str (Str.ofString "__doc__") 166), .none⟩, ⟨(PyData.keyHash P (Str.ofString "__package__")), (.str (Str.ofString "__package__") 167), .none⟩, ⟨(PyData.keyHash P (Str.ofString "__loader__")), (.str (Str.ofString "__loader__") 168), (.builtin "__main__.__loader__#opaque")⟩, ⟨(PyData.keyHash P (Str.ofString "__spec__")), (.str (Str.ofString "__spec__") 169), .none⟩, ⟨(PyData.keyHash P (Str.ofString "__annotations__")), (.str (Str.ofString "__annotations__") 170), (.ref 6)⟩, ⟨(PyData.keyHash P (Str.ofString "__builtins__")), (.str (Str.ofString "__builtins__") 171), (.ref 4)⟩, ⟨(PyData.keyHash P (Str.ofString "__file__")), (.str (Str.ofString "__file__") 173), (.str (Str.ofString "/claim/cut.py") 172)⟩, ⟨(PyData.keyHash P (Str.ofString "__cached__")), (.str (Str.ofString "__cached__") 174), .none⟩, ⟨(PyData.keyHash P (Str.ofString "_wall")), (.str (Str.ofString "_wall") 193), (.ref 21)⟩, ⟨(PyData.keyHash P (Str.ofString "EOF")), (.str (Str.ofString "EOF") 196), .none⟩, ⟨(PyData.keyHash P (Str.ofString "spaceCharacters")), (.str (Str.ofString "spaceCharacters") 202), (.ref 22)⟩, ⟨(PyData.keyHash P (Str.ofString "asciiLetters")), (.str (Str.ofString "asciiLetters") 256), (.ref 27)⟩, ⟨(PyData.keyHash P (Str.ofString "digits")), (.str (Str.ofString "digits") 268), (.ref 32)⟩, ⟨(PyData.keyHash P (Str.ofString "hexDigits")), (.str (Str.ofString "hexDigits") 292), (.ref 37)⟩, ⟨(PyData.keyHash P (Str.ofString "asciiLower")), (.str (Str.ofString "asciiLower") 298), (.ref 42)⟩, ⟨(PyData.keyHash P (Str.ofString "entities")), (.str (Str.ofString "entities") 428), (.ref 43)⟩, ⟨(PyData.keyHash P (Str.ofString "replacementCharacters")), (.str (Str.ofString "replacementCharacters") 531), (.ref 46)⟩, ⟨(PyData.keyHash P (Str.ofString "tokenTypes")), (.str (Str.ofString "tokenTypes") 556), (.ref 48)⟩, ⟨(PyData.keyHash P (Str.ofString "tagTokenTypes")), (.str (Str.ofString "tagTokenTypes") 563), (.ref 49)⟩, ⟨(PyData.keyHash P (Str.ofString "Text")), (.str (Str.ofString "Text") 604), (.ref 73)⟩, ⟨(PyData.keyHash P (Str.ofString "_is_invalid")), (.str (Str.ofString "_is_invalid") 611), (.ref 84)⟩, ⟨(PyData.keyHash P (Str.ofString "HTMLUnicodeInputStream")), (.str (Str.ofString "HTMLUnicodeInputStream") 737), (.ref 166)⟩, ⟨(PyData.keyHash P (Str.ofString "bisect_left")), (.str (Str.ofString "bisect_left") 751), (.ref 178)⟩, ⟨(PyData.keyHash P (Str.ofString "Trie")), (.str (Str.ofString "Trie") 826), (.ref 230)⟩, ⟨(PyData.keyHash P (Str.ofString "entitiesTrie")), (.str (Str.ofString "entitiesTrie") 843), (.ref 236)⟩] 26), #[]⟩
@[reducible] noncomputable def o235 (P : Params) : Obj := ⟨(.type "dict"), none, (.dict #[⟨(PyData.keyHash P (Str.ofString "_data")), (.str (Str.ofString "_data") 832), (.ref 43)⟩, ⟨(PyData.keyHash P (Str.ofString "_keys")), (.str (Str.ofString "_keys") 834), (.ref 243)⟩, ⟨(PyData.keyHash P (Str.ofString "_cachestr")), (.str (Str.ofString "_cachestr") 837), (.str (Str.ofString "") 835)⟩, ⟨(PyData.keyHash P (Str.ofString "_cachepoints")), (.str (Str.ofString "_cachepoints") 842), (.ref 246)⟩] 4), #[]⟩
@[reducible] noncomputable def o236 (P : Params) : Obj := ⟨(.ref 230), (some 235), .plain, #[]⟩
@[reducible] noncomputable def o237 (P : Params) : Obj := ⟨(.type "frame"), none, (.dict #[⟨(PyData.keyHash P (Str.ofString "self")), (.str (Str.ofString "self") 829), (.ref 236)⟩, ⟨(PyData.keyHash P (Str.ofString "data")), (.str (Str.ofString "data") 830), (.ref 43)⟩] 2), #[]⟩
@[reducible] noncomputable def o238 (P : Params) : Obj := ⟨(.type "dict_keys"), none, (.fields #[(.ref 43)]), #[]⟩
@[reducible] noncomputable def o239 (P : Params) : Obj := ⟨(.type "list"), none, (.seq #[(.str (Str.ofString "AMP") 299), (.str (Str.ofString "AMP;") 302), (.str (Str.ofString "Eacute") 305), (.str (Str.ofString "Eacute;") 308), (.str (Str.ofString "Mopf;") 311), (.str (Str.ofString "ac;") 314), (.str (Str.ofString "acE;") 317), (.str (Str.ofString "acute") 320), (.str (Str.ofString "acute;") 323), (.str (Str.ofString "amp") 326), (.str (Str.ofString "amp;") 329), (.str (Str.ofString "ang;") 332), (.str (Str.ofString "angle;") 335), (.str (Str.ofString "bne;") 338), (.str (Str.ofString "copy") 341), (.str (Str.ofString "copy;") 344), (.str (Str.ofString "eacute") 347), (.str (Str.ofString "eacute;") 350), (.str (Str.ofString "frac12") 353), (.str (Str.ofString "frac12;") 356), (.str (Str.ofString "gt") 359), (.str (Str.ofString "gt;") 362), (.str (Str.ofString "lt") 365), (.str (Str.ofString "lt;") 368), (.str (Str.ofString "nbsp") 371), (.str (Str.ofString "nbsp;") 374), (.str (Str.ofString "not") 377), (.str (Str.ofString "not;") 380), (.str (Str.ofString "notin;") 383), (.str (Str.ofString "notni;") 386), (.str (Str.ofString "para") 389), (.str (Str.ofString "para;") 392), (.str (Str.ofString "parallel;") 395), (.str (Str.ofString "quot") 398), (.str (Str.ofString "quot;") 401), (.str (Str.ofString "sup1") 403), (.str (Str.ofString "sup1;") 405), (.str (Str.ofString "sup2") 407), (.str (Str.ofString "sup2;") 409), (.str (Str.ofString "sup;") 411), (.str (Str.ofString "times") 413), (.str (Str.ofString "times;") 415), (.str (Str.ofString "timesb;") 417)] 45), #[]⟩
@[reducible] noncomputable def o240 (P : Params) : Obj := ⟨(.type "dict_keyiterator"), none, (.fields #[.none, (.int 43 0), (.int 43 0), (.int 43 0)]), #[]⟩
@[reducible] noncomputable def o241 (P : Params) : Obj := ⟨(.type "tuple"), none, (.seq #[] 0), #[]⟩
@[reducible] noncomputable def o242 (P : Params) : Obj := ⟨(.type "StopIteration"), none, (.fields #[(.ref 241), .none, .none, .none, (.bool false), .none]), #[]⟩
@[reducible] noncomputable def o243 (P : Params) : Obj := ⟨(.type "list"), none, (.seq #[(.str (Str.ofString "AMP") 299), (.str (Str.ofString "AMP;") 302), (.str (Str.ofString "Eacute") 305), (.str (Str.ofString "Eacute;") 308), (.str (Str.ofString "Mopf;") 311), (.str (Str.ofString "ac;") 314), (.str (Str.ofString "acE;") 317), (.str (Str.ofString "acute") 320), (.str (Str.ofString "acute;") 323), (.str (Str.ofString "amp") 326), (.str (Str.ofString "amp;") 329), (.str (Str.ofString "ang;") 332), (.str (Str.ofString "angle;") 335), (.str (Str.ofString "bne;") 338), (.str (Str.ofString "copy") 341), (.str (Str.ofString "copy;") 344), (.str (Str.ofString "eacute") 347), (.str (Str.ofString "eacute;") 350), (.str (Str.ofString "frac12") 353), (.str (Str.ofString "frac12;") 356), (.str (Str.ofString "gt") 359), (.str (Str.ofString "gt;") 362), (.str (Str.ofString "lt") 365), (.str (Str.ofString "lt;") 368), (.str (Str.ofString "nbsp") 371), (.str (Str.ofString "nbsp;") 374), (.str (Str.ofString "not") 377), (.str (Str.ofString "not;") 380), (.str (Str.ofString "notin;") 383), (.str (Str.ofString "notni;") 386), (.str (Str.ofString "para") 389), (.str (Str.ofString "para;") 392), (.str (Str.ofString "parallel;") 395), (.str (Str.ofString "quot") 398), (.str (Str.ofString "quot;") 401), (.str (Str.ofString "sup1") 403), (.str (Str.ofString "sup1;") 405), (.str (Str.ofString "sup2") 407), (.str (Str.ofString "sup2;") 409), (.str (Str.ofString "sup;") 411), (.str (Str.ofString "times") 413), (.str (Str.ofString "times;") 415), (.str (Str.ofString "timesb;") 417)] 2), #[]⟩
@[reducible] noncomputable def o244 (P : Params) : Obj := ⟨(.type "tuple"), none, (.seq #[(.str (Str.ofString "AMP") 299), (.str (Str.ofString "AMP;") 302), (.str (Str.ofString "Eacute") 305), (.str (Str.ofString "Eacute;") 308), (.str (Str.ofString "Mopf;") 311), (.str (Str.ofString "ac;") 314), (.str (Str.ofString "acE;") 317), (.str (Str.ofString "acute") 320), (.str (Str.ofString "acute;") 323), (.str (Str.ofString "amp") 326), (.str (Str.ofString "amp;") 329), (.str (Str.ofString "ang;") 332), (.str (Str.ofString "angle;") 335), (.str (Str.ofString "bne;") 338), (.str (Str.ofString "copy") 341), (.str (Str.ofString "copy;") 344), (.str (Str.ofString "eacute") 347), (.str (Str.ofString "eacute;") 350), (.str (Str.ofString "frac12") 353), (.str (Str.ofString "frac12;") 356), (.str (Str.ofString "gt") 359), (.str (Str.ofString "gt;") 362), (.str (Str.ofString "lt") 365), (.str (Str.ofString "lt;") 368), (.str (Str.ofString "nbsp") 371), (.str (Str.ofString "nbsp;") 374), (.str (Str.ofString "not") 377), (.str (Str.ofString "not;") 380), (.str (Str.ofString "notin;") 383), (.str (Str.ofString "notni;") 386), (.str (Str.ofString "para") 389), (.str (Str.ofString "para;") 392), (.str (Str.ofString "parallel;") 395), (.str (Str.ofString "quot") 398), (.str (Str.ofString "quot;") 401), (.str (Str.ofString "sup1") 403), (.str (Str.ofString "sup1;") 405), (.str (Str.ofString "sup2") 407), (.str (Str.ofString "sup2;") 409), (.str (Str.ofString "sup;") 411), (.str (Str.ofString "times") 413), (.str (Str.ofString "times;") 415), (.str (Str.ofString "timesb;") 417)] 0), #[]⟩
@[reducible] noncomputable def o245 (P : Params) : Obj := ⟨(.type "list"), none, (.seq #[] 0), #[]⟩
@[reducible] noncomputable def o246 (P : Params) : Obj := ⟨(.type "tuple"), none, (.seq #[(.int 0 838), (.int 43 840)] 0), #[]⟩
@[reducible] noncomputable def t3 (P : Params) : BT := (.node (boot_o_0 P) (.node (boot_o_1 P) (.node (o3'' P) (.node (boot_o_7 P) (.node (o15 P) (.node (o31 P) (.node (o63 P) (.node (o127 P) .nil .nil) (.node (o191 P) .nil .nil)) (.node (o95 P) (.node (o159 P) .nil .nil) (.node (o223 P) .nil .nil))) (.node (o47 P) (.node (o79 P) (.node (o143 P) .nil .nil) (.node (o207 P) .nil .nil)) (.node (o111 P) (.node (o175 P) .nil .nil) (.node (o239 P) .nil .nil)))) (.node (o23 P) (.node (o39 P) (.node (o71 P) (.node (o135 P) .nil .nil) (.node (o199 P) .nil .nil)) (.node (o103 P) (.node (o167 P) .nil .nil) (.node (o231 P) .nil .nil))) (.node (o55 P) (.node (o87 P) (.node (o151 P) .nil .nil) (.node (o215 P) .nil .nil)) (.node (o119 P) (.node (o183 P) .nil .nil) .nil)))) (.node (o11 P) (.node (o19 P) (.node (o35 P) (.node (o67 P) (.node (o131 P) .nil .nil) (.node (o195 P) .nil .nil)) (.node (o99 P) (.node (o163 P) .nil .nil) (.node (o227 P) .nil .nil))) (.node (o51 P) (.node (o83 P) (.node (o147 P) .nil .nil) (.node (o211 P) .nil .nil)) (.node (o115 P) (.node (o179 P) .nil .nil) (.node (o243 P) .nil .nil)))) (.node (o27 P) (.node (o43 P) (.node (o75 P) (.node (o139 P) .nil .nil) (.node (o203 P) .nil .nil)) (.node (o107 P) (.node (o171 P) .nil .nil) (.node (o235 P) .nil .nil))) (.node (o59 P) (.node (o91 P) (.node (o155 P) .nil .nil) (.node (o219 P) .nil .nil)) (.node (o123 P) (.node (o187 P) .nil .nil) .nil))))) (.node (boot_o_5 P) (.node (boot_o_9 P) (.node (o17 P) (.node (o33 P) (.node (o65 P) (.node (o129 P) .nil .nil) (.node (o193 P) .nil .nil)) (.node (o97 P) (.node (o161 P) .nil .nil) (.node (o225 P) .nil .nil))) (.node (o49 P) (.node (o81 P) (.node (o145 P) .nil .nil) (.node (o209 P) .nil .nil)) (.node (o113 P) (.node (o177 P) .nil .nil) (.node (o241 P) .nil .nil)))) (.node (o25 P) (.node (o41 P) (.node (o73 P) (.node (o137 P) .nil .nil) (.node (o201 P) .nil .nil)) (.node (o105 P) (.node (o169 P) .nil .nil) (.node (o233 P) .nil .nil))) (.node (o57 P) (.node (o89 P) (.node (o153 P) .nil .nil) (.node (o217 P) .nil .nil)) (.node (o121 P) (.node (o185 P) .nil .nil) .nil)))) (.node (o13 P) (.node (o21 P) (.node (o37 P) (.node (o69 P) (.node (o133 P) .nil .nil) (.node (o197 P) .nil .nil)) (.node (o101 P) (.node (o165 P) .nil .nil) (.node (o229 P) .nil .nil))) (.node (o53 P) (.node (o85 P) (.node (o149 P) .nil .nil) (.node (o213 P) .nil .nil)) (.node (o117 P) (.node (o181 P) .nil .nil) (.node (o245 P) .nil .nil)))) (.node (o29 P) (.node (o45 P) (.node (o77 P) (.node (o141 P) .nil .nil) (.node (o205 P) .nil .nil)) (.node (o109 P) (.node (o173 P) .nil .nil) (.node (o237 P) .nil .nil))) (.node (o61 P) (.node (o93 P) (.node (o157 P) .nil .nil) (.node (o221 P) .nil .nil)) (.node (o125 P) (.node (o189 P) .nil .nil) .nil)))))) (.node (boot_o_2 P) (.node (boot_o_4 P) (.node (boot_o_8 P) (.node (o16 P) (.node (o32 P) (.node (o64 P) (.node (o128 P) .nil .nil) (.node (o192 P) .nil .nil)) (.node (o96 P) (.node (o160 P) .nil .nil) (.node (o224 P) .nil .nil))) (.node (o48 P) (.node (o80 P) (.node (o144 P) .nil .nil) (.node (o208 P) .nil .nil)) (.node (o112 P) (.node (o176 P) .nil .nil) (.node (o240 P) .nil .nil)))) (.node (o24 P) (.node (o40 P) (.node (o72 P) (.node (o136 P) .nil .nil) (.node (o200 P) .nil .nil)) (.node (o104 P) (.node (o168 P) .nil .nil) (.node (o232 P) .nil .nil))) (.node (o56 P) (.node (o88 P) (.node (o152 P) .nil .nil) (.node (o216 P) .nil .nil)) (.node (o120 P) (.node (o184 P) .nil .nil) .nil)))) (.node (o12'' P) (.node (o20 P) (.node (o36 P) (.node (o68 P) (.node (o132 P) .nil .nil) (.node (o196 P) .nil .nil)) (.node (o100 P) (.node (o164 P) .nil .nil) (.node (o228 P) .nil .nil))) (.node (o52 P) (.node (o84 P) (.node (o148 P) .nil .nil) (.node (o212 P) .nil .nil)) (.node (o116 P) (.node (o180 P) .nil .nil) (.node (o244 P) .nil .nil)))) (.node (o28 P) (.node (o44 P) (.node (o76 P) (.node (o140 P) .nil .nil) (.node (o204 P) .nil .nil)) (.node (o108 P) (.node (o172 P) .nil .nil) (.node (o236 P) .nil .nil))) (.node (o60 P) (.node (o92 P) (.node (o156 P) .nil .nil) (.node (o220 P) .nil .nil)) (.node (o124 P) (.node (o188 P) .nil .nil) .nil))))) (.node (boot_o_6 P) (.node (boot_o_10 P) (.node (o18 P) (.node (o34 P) (.node (o66 P) (.node (o130 P) .nil .nil) (.node (o194 P) .nil .nil)) (.node (o98 P) (.node (o162 P) .nil .nil) (.node (o226 P) .nil .nil))) (.node (o50 P) (.node (o82 P) (.node (o146 P) .nil .nil) (.node (o210 P) .nil .nil)) (.node (o114 P) (.node (o178 P) .nil .nil) (.node (o242 P) .nil .nil)))) (.node (o26 P) (.node (o42 P) (.node (o74 P) (.node (o138 P) .nil .nil) (.node (o202 P) .nil .nil)) (.node (o106 P) (.node (o170 P) .nil .nil) (.node (o234 P) .nil .nil))) (.node (o58 P) (.node (o90 P) (.node (o154 P) .nil .nil) (.node (o218 P) .nil .nil)) (.node (o122 P) (.node (o186 P) .nil .nil) .nil)))) (.node (o14 P) (.node (o22 P) (.node (o38 P) (.node (o70 P) (.node (o134 P) .nil .nil) (.node (o198 P) .nil .nil)) (.node (o102 P) (.node (o166 P) .nil .nil) (.node (o230 P) .nil .nil))) (.node (o54 P) (.node (o86 P) (.node (o150 P) .nil .nil) (.node (o214 P) .nil .nil)) (.node (o118 P) (.node (o182 P) .nil .nil) (.node (o246 P) .nil .nil)))) (.node (o30 P) (.node (o46 P) (.node (o78 P) (.node (o142 P) .nil .nil) (.node (o206 P) .nil .nil)) (.node (o110 P) (.node (o174 P) .nil .nil) (.node (o238 P) .nil .nil))) (.node (o62 P) (.node (o94 P) (.node (o158 P) .nil .nil) (.node (o222 P) .nil .nil)) (.node (o126 P) (.node (o190 P) .nil .nil) .nil)))))))
@[reducible] noncomputable def o3''' (P : Params) : Obj := ⟨(.type "dict"), none, (.dict #[⟨(PyData.keyHash P (Str.ofString "__name__")), (.str (Str.ofString "__name__") 165), (.str (Str.ofString "law_qy0005_08") 1444)⟩, ⟨(PyData.keyHash P (Str.ofString "__doc__")), (.str (Str.ofString "__doc__") 166), .none⟩, ⟨(PyData.keyHash P (Str.ofString "__package__")), (.str (Str.ofString "__package__") 167), .none⟩, ⟨(PyData.keyHash P (Str.ofString "__loader__")), (.str (Str.ofString "__loader__") 168), (.builtin "__main__.__loader__#opaque")⟩, ⟨(PyData.keyHash P (Str.ofString "__spec__")), (.str (Str.ofString "__spec__") 169), .none⟩, ⟨(PyData.keyHash P (Str.ofString "__annotations__")), (.str (Str.ofString "__annotations__") 170), (.ref 6)⟩, ⟨(PyData.keyHash P (Str.ofString "__builtins__")), (.str (Str.ofString "__builtins__") 171), (.ref 4)⟩, ⟨(PyData.keyHash P (Str.ofString "__file__")), (.str (Str.ofString "__file__") 173), (.str (Str.ofString "/claim/cut.py") 172)⟩, ⟨(PyData.keyHash P (Str.ofString "__cached__")), (.str (Str.ofString "__cached__") 174), .none⟩, ⟨(PyData.keyHash P (Str.ofString "_wall")), (.str (Str.ofString "_wall") 193), (.ref 21)⟩, ⟨(PyData.keyHash P (Str.ofString "EOF")), (.str (Str.ofString "EOF") 196), .none⟩, ⟨(PyData.keyHash P (Str.ofString "spaceCharacters")), (.str (Str.ofString "spaceCharacters") 202), (.ref 22)⟩, ⟨(PyData.keyHash P (Str.ofString "asciiLetters")), (.str (Str.ofString "asciiLetters") 256), (.ref 27)⟩, ⟨(PyData.keyHash P (Str.ofString "digits")), (.str (Str.ofString "digits") 268), (.ref 32)⟩, ⟨(PyData.keyHash P (Str.ofString "hexDigits")), (.str (Str.ofString "hexDigits") 292), (.ref 37)⟩, ⟨(PyData.keyHash P (Str.ofString "asciiLower")), (.str (Str.ofString "asciiLower") 298), (.ref 42)⟩, ⟨(PyData.keyHash P (Str.ofString "entities")), (.str (Str.ofString "entities") 428), (.ref 43)⟩, ⟨(PyData.keyHash P (Str.ofString "replacementCharacters")), (.str (Str.ofString "replacementCharacters") 531), (.ref 46)⟩, ⟨(PyData.keyHash P (Str.ofString "tokenTypes")), (.str (Str.ofString "tokenTypes") 556), (.ref 48)⟩, ⟨(PyData.keyHash P (Str.ofString "tagTokenTypes")), (.str (Str.ofString "tagTokenTypes") 563), (.ref 49)⟩, ⟨(PyData.keyHash P (Str.ofString "Text")), (.str (Str.ofString "Text") 604), (.ref 73)⟩, ⟨(PyData.keyHash P (Str.ofString "_is_invalid")), (.str (Str.ofString "_is_invalid") 611), (.ref 84)⟩, ⟨(PyData.keyHash P (Str.ofString "HTMLUnicodeInputStream")), (.str (Str.ofString "HTMLUnicodeInputStream") 737), (.ref 166)⟩, ⟨(PyData.keyHash P (Str.ofString "bisect_left")), (.str (Str.ofString "bisect_left") 751), (.ref 178)⟩, ⟨(PyData.keyHash P (Str.ofString "Trie")), (.str (Str.ofString "Trie") 826), (.ref 230)⟩, ⟨(PyData.keyHash P (Str.ofString "entitiesTrie")), (.str (Str.ofString "entitiesTrie") 843), (.ref 236)⟩, ⟨(PyData.keyHash P (Str.ofString "HTMLTokenizer")), (.str (Str.ofString "HTMLTokenizer") 1443), (.ref 762)⟩, ⟨(PyData.keyHash P (Str.ofString "_law_SMALL")), (.str (Str.ofString "_law_SMALL") 1447), (.str (Str.ofString "0123456789abcdef") 1446)⟩, ⟨(PyData.keyHash P (Str.ofString "_law_LARGE")), (.str (Str.ofString "_law_LARGE") 1449), (.str (Str.ofString "0123456789ABCDEF") 1448)⟩, ⟨(PyData.keyHash P (Str.ofString "_law_OLD")), (.str (Str.ofString "_law_OLD") 1451), (.str (Str.ofString "€\x81‚ƒ„…†‡ˆ‰Š‹Œ\x8dŽ\x8f\x90‘’“”•–—˜™š›œ\x9džŸ") 1450)⟩] 30), #[]⟩
@[reducible] noncomputable def o12''' (P : Params) : Obj := ⟨.none, none, (.fields #[(.int 1 0), (.int 0 0), (.ref 20), (.int 10 0), (.int 0 0), (.ref 41), (.int 17 0), (.int 0 0), (.ref 55), (.int 27 0), (.int 0 0), (.ref 83), (.int 29 0), (.int 0 0), (.ref 90), (.int 134 0), (.int 0 0), (.ref 177), (.int 144 0), (.int 0 0), (.ref 184), (.int 182 0), (.int 0 0), (.ref 252)]), #[]⟩
@[reducible] noncomputable def o247 (P : Params) : Obj := ⟨(.type "tuple"), none, (.seq #[(.type "object")] 0), #[]⟩
@[reducible] noncomputable def o248 (P : Params) : Obj := ⟨(.type "builtin_function_or_method"), none, (.fields #[(.builtin "type.__prepare__"), (.type "type")]), #[]⟩
@[reducible] noncomputable def o249 (P : Params) : Obj := ⟨(.type "dict"), none, (.dict #[⟨(PyData.keyHash P (Str.ofString "__module__")), (.str (Str.ofString "__module__") 851), (.str (Str.ofString "html5lib._tokenizer") 827)⟩, ⟨(PyData.keyHash P (Str.ofString "__qualname__")), (.str (Str.ofString "__qualname__") 853), (.str (Str.ofString "HTMLTokenizer") 852)⟩, ⟨(PyData.keyHash P (Str.ofString "__firstlineno__")), (.str (Str.ofString "__firstlineno__") 855), (.int 182 854)⟩, ⟨(PyData.keyHash P (Str.ofString "__init__")), (.str (Str.ofString "__init__") 864), (.ref 261)⟩, ⟨(PyData.keyHash P (Str.ofString "__iter__")), (.str (Str.ofString "__iter__") 871), (.ref 268)⟩, ⟨(PyData.keyHash P (Str.ofString "consumeNumberEntity")), (.str (Str.ofString "consumeNumberEntity") 886), (.ref 275)⟩, ⟨(PyData.keyHash P (Str.ofString "consumeEntity")), (.str (Str.ofString "consumeEntity") 901), (.ref 283)⟩, ⟨(PyData.keyHash P (Str.ofString "processEntityInAttribute")), (.str (Str.ofString "processEntityInAttribute") 909), (.ref 290)⟩, ⟨(PyData.keyHash P (Str.ofString "emitCurrentToken")), (.str (Str.ofString "emitCurrentToken") 919), (.ref 297)⟩, ⟨(PyData.keyHash P (Str.ofString "dataState")), (.str (Str.ofString "dataState") 928), (.ref 304)⟩, ⟨(PyData.keyHash P (Str.ofString "entityDataState")), (.str (Str.ofString "entityDataState") 935), (.ref 311)⟩, ⟨(PyData.keyHash P (Str.ofString "rcdataState")), (.str (Str.ofString "rcdataState") 942), (.ref 318)⟩, ⟨(PyData.keyHash P (Str.ofString "characterReferenceInRcdata")), (.str (Str.ofString "characterReferenceInRcdata") 949), (.ref 325)⟩, ⟨(PyData.keyHash P (Str.ofString "rawtextState")), (.str (Str.ofString "rawtextState") 956), (.ref 332)⟩, ⟨(PyData.keyHash P (Str.ofString "scriptDataState")), (.str (Str.ofString "scriptDataState") 963), (.ref 339)⟩, ⟨(PyData.keyHash P (Str.ofString "plaintextState")), (.str (Str.ofString "plaintextState") 970), (.ref 346)⟩, ⟨(PyData.keyHash P (Str.ofString "tagOpenState")), (.str (Str.ofString "tagOpenState") 978), (.ref 353)⟩, ⟨(PyData.keyHash P (Str.ofString "closeTagOpenState")), (.str (Str.ofString "closeTagOpenState") 986), (.ref 360)⟩, ⟨(PyData.keyHash P (Str.ofString "tagNameState")), (.str (Str.ofString "tagNameState") 994), (.ref 367)⟩, ⟨(PyData.keyHash P (Str.ofString "rcdataLessThanSignState")), (.str (Str.ofString "rcdataLessThanSignState") 1001), (.ref 374)⟩, ⟨(PyData.keyHash P (Str.ofString "rcdataEndTagOpenState")), (.str (Str.ofString "rcdataEndTagOpenState") 1008), (.ref 381)⟩, ⟨(PyData.keyHash P (Str.ofString "rcdataEndTagNameState")), (.str (Str.ofString "rcdataEndTagNameState") 1015), (.ref 388)⟩, ⟨(PyData.keyHash P (Str.ofString "rawtextLessThanSignState")), (.str (Str.ofString "rawtextLessThanSignState") 1022), (.ref 395)⟩, ⟨(PyData.keyHash P (Str.ofString "rawtextEndTagOpenState")), (.str (Str.ofString "rawtextEndTagOpenState") 1029), (.ref 402)⟩, ⟨(PyData.keyHash P (Str.ofString "rawtextEndTagNameState")), (.str (Str.ofString "rawtextEndTagNameState") 1036), (.ref 409)⟩, ⟨(PyData.keyHash P (Str.ofString "scriptDataLessThanSignState")), (.str (Str.ofString "scriptDataLessThanSignState") 1043), (.ref 416)⟩, ⟨(PyData.keyHash P (Str.ofString "scriptDataEndTagOpenState")), (.str (Str.ofString "scriptDataEndTagOpenState") 1050), (.ref 423)⟩, ⟨(PyData.keyHash P (Str.ofString "scriptDataEndTagNameState")), (.str (Str.ofString "scriptDataEndTagNameState") 1057), (.ref 430)⟩, ⟨(PyData.keyHash P (Str.ofString "scriptDataEscapeStartState")), (.str (Str.ofString "scriptDataEscapeStartState") 1064), (.ref 437)⟩, ⟨(PyData.keyHash P (Str.ofString "scriptDataEscapeStartDashState")), (.str (Str.ofString "scriptDataEscapeStartDashState") 1071), (.ref 444)⟩, ⟨(PyData.keyHash P (Str.ofString "scriptDataEscapedState")), (.str (Str.ofString "scriptDataEscapedState") 1078), (.ref 451)⟩, ⟨(PyData.keyHash P (Str.ofString "scriptDataEscapedDashState")), (.str (Str.ofString "scriptDataEscapedDashState") 1085), (.ref 458)⟩, ⟨(PyData.keyHash P (Str.ofString "scriptDataEscapedDashDashState")), (.str (Str.ofString "scriptDataEscapedDashDashState") 1092), (.ref 465)⟩, ⟨(PyData.keyHash P (Str.ofString "scriptDataEscapedLessThanSignState")), (.str (Str.ofString "scriptDataEscapedLessThanSignState") 1099), (.ref 472)⟩, ⟨(PyData.keyHash P (Str.ofString "scriptDataEscapedEndTagOpenState")), (.str (Str.ofString "scriptDataEscapedEndTagOpenState") 1106), (.ref 479)⟩, ⟨(PyData.keyHash P (Str.ofString "scriptDataEscapedEndTagNameState")), (.str (Str.ofString "scriptDataEscapedEndTagNameState") 1113), (.ref 486)⟩, ⟨(PyData.keyHash P (Str.ofString "scriptDataDoubleEscapeStartState")), (.str (Str.ofString "scriptDataDoubleEscapeStartState") 1120), (.ref 493)⟩, ⟨(PyData.keyHash P (Str.ofString "scriptDataDoubleEscapedState")), (.str (Str.ofString "scriptDataDoubleEscapedState") 1127), (.ref 500)⟩, ⟨(PyData.keyHash P (Str.ofString "scriptDataDoubleEscapedDashState")), (.str (Str.ofString "scriptDataDoubleEscapedDashState") 1134), (.ref 507)⟩, ⟨(PyData.keyHash P (Str.ofString "scriptDataDoubleEscapedDashDashState")), (.str (Str.ofString "scriptDataDoubleEscapedDashDashState") 1141), (.ref 514)⟩, ⟨(PyData.keyHash P (Str.ofString "scriptDataDoubleEscapedLessThanSignState")), (.str (Str.ofString "scriptDataDoubleEscapedLessThanSignState") 1148), (.ref 521)⟩, ⟨(PyData.keyHash P (Str.ofString "scriptDataDoubleEscapeEndState")), (.str (Str.ofString "scriptDataDoubleEscapeEndState") 1155), (.ref 528)⟩, ⟨(PyData.keyHash P (Str.ofString "beforeAttributeNameState")), (.str (Str.ofString "beforeAttributeNameState") 1163), (.ref 535)⟩, ⟨(PyData.keyHash P (Str.ofString "attributeNameState")), (.str (Str.ofString "attributeNameState") 1175), (.ref 542)⟩, ⟨(PyData.keyHash P (Str.ofString "afterAttributeNameState")), (.str (Str.ofString "afterAttributeNameState") 1183), (.ref 549)⟩, ⟨(PyData.keyHash P (Str.ofString "beforeAttributeValueState")), (.str (Str.ofString "beforeAttributeValueState") 1191), (.ref 556)⟩, ⟨(PyData.keyHash P (Str.ofString "attributeValueDoubleQuotedState")), (.str (Str.ofString "attributeValueDoubleQuotedState") 1199), (.ref 563)⟩, ⟨(PyData.keyHash P (Str.ofString "attributeValueSingleQuotedState")), (.str (Str.ofString "attributeValueSingleQuotedState") 1207), (.ref 570)⟩, ⟨(PyData.keyHash P (Str.ofString "attributeValueUnQuotedState")), (.str (Str.ofString "attributeValueUnQuotedState") 1215), (.ref 577)⟩, ⟨(PyData.keyHash P (Str.ofString "afterAttributeValueState")), (.str (Str.ofString "afterAttributeValueState") 1223), (.ref 584)⟩, ⟨(PyData.keyHash P (Str.ofString "selfClosingStartTagState")), (.str (Str.ofString "selfClosingStartTagState") 1231), (.ref 591)⟩, ⟨(PyData.keyHash P (Str.ofString "bogusCommentState")), (.str (Str.ofString "bogusCommentState") 1239), (.ref 598)⟩, ⟨(PyData.keyHash P (Str.ofString "markupDeclarationOpenState")), (.str (Str.ofString "markupDeclarationOpenState") 1249), (.ref 605)⟩, ⟨(PyData.keyHash P (Str.ofString "commentStartState")), (.str (Str.ofString "commentStartState") 1257), (.ref 612)⟩, ⟨(PyData.keyHash P (Str.ofString "commentStartDashState")), (.str (Str.ofString "commentStartDashState") 1265), (.ref 619)⟩, ⟨(PyData.keyHash P (Str.ofString "commentState")), (.str (Str.ofString "commentState") 1273), (.ref 626)⟩, ⟨(PyData.keyHash P (Str.ofString "commentEndDashState")), (.str (Str.ofString "commentEndDashState") 1281), (.ref 633)⟩, ⟨(PyData.keyHash P (Str.ofString "commentEndState")), (.str (Str.ofString "commentEndState") 1289), (.ref 640)⟩, ⟨(PyData.keyHash P (Str.ofString "commentEndBangState")), (.str (Str.ofString "commentEndBangState") 1297), (.ref 647)⟩, ⟨(PyData.keyHash P (Str.ofString "doctypeState")), (.str (Str.ofString "doctypeState") 1305), (.ref 654)⟩, ⟨(PyData.keyHash P (Str.ofString "beforeDoctypeNameState")), (.str (Str.ofString "beforeDoctypeNameState") 1313), (.ref 661)⟩, ⟨(PyData.keyHash P (Str.ofString "doctypeNameState")), (.str (Str.ofString "doctypeNameState") 1321), (.ref 668)⟩, ⟨(PyData.keyHash P (Str.ofString "afterDoctypeNameState")), (.str (Str.ofString "afterDoctypeNameState") 1331), (.ref 675)⟩, ⟨(PyData.keyHash P (Str.ofString "afterDoctypePublicKeywordState")), (.str (Str.ofString "afterDoctypePublicKeywordState") 1339), (.ref 682)⟩, ⟨(PyData.keyHash P (Str.ofString "beforeDoctypePublicIdentifierState")), (.str (Str.ofString "beforeDoctypePublicIdentifierState") 1347), (.ref 689)⟩, ⟨(PyData.keyHash P (Str.ofString "doctypePublicIdentifierDoubleQuotedState")), (.str (Str.ofString "doctypePublicIdentifierDoubleQuotedState") 1355), (.ref 696)⟩, ⟨(PyData.keyHash P (Str.ofString "doctypePublicIdentifierSingleQuotedState")), (.str (Str.ofString "doctypePublicIdentifierSingleQuotedState") 1363), (.ref 703)⟩, ⟨(PyData.keyHash P (Str.ofString "afterDoctypePublicIdentifierState")), (.str (Str.ofString "afterDoctypePublicIdentifierState") 1371), (.ref 710)⟩, ⟨(PyData.keyHash P (Str.ofString "betweenDoctypePublicAndSystemIdentifiersState")), (.str (Str.ofString "betweenDoctypePublicAndSystemIdentifiersState") 1379), (.ref 717)⟩, ⟨(PyData.keyHash P (Str.ofString "afterDoctypeSystemKeywordState")), (.str (Str.ofString "afterDoctypeSystemKeywordState") 1387), (.ref 724)⟩, ⟨(PyData.keyHash P (Str.ofString "beforeDoctypeSystemIdentifierState")), (.str (Str.ofString "beforeDoctypeSystemIdentifierState") 1395), (.ref 731)⟩, ⟨(PyData.keyHash P (Str.ofString "doctypeSystemIdentifierDoubleQuotedState")), (.str (Str.ofString "doctypeSystemIdentifierDoubleQuotedState") 1403), (.ref 738)⟩, ⟨(PyData.keyHash P (Str.ofString "doctypeSystemIdentifierSingleQuotedState")), (.str (Str.ofString "doctypeSystemIdentifierSingleQuotedState") 1411), (.ref 745)⟩, ⟨(PyData.keyHash P (Str.ofString "afterDoctypeSystemIdentifierState")), (.str (Str.ofString "afterDoctypeSystemIdentifierState") 1419), (.ref 752)⟩, ⟨(PyData.keyHash P (Str.ofString "bogusDoctypeState")), (.str (Str.ofString "bogusDoctypeState") 1427), (.ref 759)⟩, ⟨(PyData.keyHash P (Str.ofString "__static_attributes__")), (.str (Str.ofString "__static_attributes__") 1436), (.ref 760)⟩] 76), #[]⟩
@[reducible] noncomputable def o250 (P : Params) : Obj := ⟨(.type "tuple"), none, (.seq #[] 0), #[]⟩
@[reducible] noncomputable def o251 (P : Params) : Obj := ⟨.none, none, (.fields #[(.int 184 0), (.int 4 0), (.ref 260), (.int 193 0), (.int 4 0), (.ref 267), (.int 201 0), (.int 4 0), (.ref 274), (.int 232 0), (.int 4 0), (.ref 282), (.int 283 0), (.int 4 0), (.ref 289), (.int 286 0), (.int 4 0), (.ref 296), (.int 304 0), (.int 4 0), (.ref 303), (.int 322 0), (.int 4 0), (.ref 310), (.int 327 0), (.int 4 0), (.ref 317), (.int 330 0), (.int 4 0), (.ref 324), (.int 333 0), (.int 4 0), (.ref 331), (.int 336 0), (.int 4 0), (.ref 338), (.int 339 0), (.int 4 0), (.ref 345), (.int 342 0), (.int 4 0), (.ref 352), (.int 366 0), (.int 4 0), (.ref 359), (.int 384 0), (.int 4 0), (.ref 366), (.int 402 0), (.int 4 0), (.ref 373), (.int 405 0), (.int 4 0), (.ref 380), (.int 408 0), (.int 4 0), (.ref 387), (.int 411 0), (.int 4 0), (.ref 394), (.int 414 0), (.int 4 0), (.ref 401), (.int 417 0), (.int 4 0), (.ref 408), (.int 420 0), (.int 4 0), (.ref 415), (.int 423 0), (.int 4 0), (.ref 422), (.int 426 0), (.int 4 0), (.ref 429), (.int 429 0), (.int 4 0), (.ref 436), (.int 432 0), (.int 4 0), (.ref 443), (.int 435 0), (.int 4 0), (.ref 450), (.int 438 0), (.int 4 0), (.ref 457), (.int 441 0), (.int 4 0), (.ref 464), (.int 444 0), (.int 4 0), (.ref 471), (.int 447 0), (.int 4 0), (.ref 478), (.int 450 0), (.int 4 0), (.ref 485), (.int 453 0), (.int 4 0), (.ref 492), (.int 456 0), (.int 4 0), (.ref 499), (.int 459 0), (.int 4 0), (.ref 506), (.int 462 0), (.int 4 0), (.ref 513), (.int 465 0), (.int 4 0), (.ref 520), (.int 468 0), (.int 4 0), (.ref 527), (.int 471 0), (.int 4 0), (.ref 534), (.int 498 0), (.int 4 0), (.ref 541), (.int 537 0), (.int 4 0), (.ref 548), (.int 566 0), (.int 4 0), (.ref 555), (.int 596 0), (.int 4 0), (.ref 562), (.int 612 0), (.int 4 0), (.ref 569), (.int 628 0), (.int 4 0), (.ref 576), (.int 649 0), (.int 4 0), (.ref 583), (.int 667 0), (.int 4 0), (.ref 590), (.int 682 0), (.int 4 0), (.ref 597), (.int 690 0), (.int 4 0), (.ref 604), (.int 715 0), (.int 4 0), (.ref 611), (.int 735 0), (.int 4 0), (.ref 618), (.int 755 0), (.int 4 0), (.ref 625), (.int 770 0), (.int 4 0), (.ref 632), (.int 787 0), (.int 4 0), (.ref 639), (.int 812 0), (.int 4 0), (.ref 646), (.int 833 0), (.int 4 0), (.ref 653), (.int 848 0), (.int 4 0), (.ref 660), (.int 871 0), (.int 4 0), (.ref 667), (.int 894 0), (.int 4 0), (.ref 674), (.int 934 0), (.int 4 0), (.ref 681), (.int 952 0), (.int 4 0), (.ref 688), (.int 978 0), (.int 4 0), (.ref 695), (.int 999 0), (.int 4 0), (.ref 702), (.int 1020 0), (.int 4 0), (.ref 709), (.int 1046 0), (.int 4 0), (.ref 716), (.int 1070 0), (.int 4 0), (.ref 723), (.int 1088 0), (.int 4 0), (.ref 730), (.int 1114 0), (.int 4 0), (.ref 737), (.int 1135 0), (.int 4 0), (.ref 744), (.int 1156 0), (.int 4 0), (.ref 751), (.int 1173 0), (.int 4 0), (.ref 758)]), #[]⟩
@[reducible] noncomputable def o252 (P : Params) : Obj := ⟨(.type "code"), none, (.fields #[(.str (Str.ofString "HTMLTokenizer") 846), (.str (Str.ofString "HTMLTokenizer") 847), (.str (Str.ofString "/claim/cut.py") 848), (.int 182 0), (.int 0 0), (.int 0 0), (.int 0 0), (.int 0 0), (.ref 250), (.bool false), (.int 181 0), (.ref 251), .none, .none, .none, .none, (.int 849 0), (.int 182 0), (.str (Str.ofString "/claim/cut.py") 850)]), #[]⟩
@[reducible] noncomputable def o253 (P : Params) : Obj := ⟨(.type "frame"), none, .plain, #[(some (.ref 252)), (some (.ref 3)), (some (.ref 249)), none, (some (.str (Str.ofString "html5lib._tokenizer") 827)), none, (some (.ref 0))]⟩
@[reducible] noncomputable def o254 (P : Params) : Obj := ⟨(.type "tuple"), none, (.seq #[.none] 0), #[]⟩
@[reducible] noncomputable def o255 (P : Params) : Obj := ⟨(.type "tuple"), none, (.seq #[] 0), #[]⟩
@[reducible] noncomputable def o256 (P : Params) : Obj := ⟨.none, none, (.fields #[]), #[]⟩
@[reducible] noncomputable def o257 (P : Params) : Obj := ⟨(.type "tuple"), none, (.seq #[(.str (Str.ofString "self") 859), (.str (Str.ofString "stream") 860), (.str (Str.ofString "parser") 861)] 0), #[]⟩
@[reducible] noncomputable def o258 (P : Params) : Obj := ⟨(.type "tuple"), none, (.seq #[] 0), #[]⟩
@[reducible] noncomputable def a_HTMLTokenizer___init__ : Arguments := (fun x (_ : x = dArgs (D2 21 0)) => x) _ (by conv => rhs; whnf)
@[reducible] noncomputable def b_HTMLTokenizer___init__ : List Stmt := (fun x (_ : x = dBody (D2 21 0)) => x) _ (by conv => rhs; whnf)
@[reducible] noncomputable def c_HTMLTokenizer___init__ : Scope := (fun x (_ : x = dScope (D2 21 0)) => x) _ (by conv => rhs; whnf)
@[reducible] noncomputable def o259 (P : Params) : Obj := ⟨.none, none, (.func ⟨(Str.ofString "__init__"), (Str.ofString "HTMLTokenizer.__init__"), a_HTMLTokenizer___init__, .stmts b_HTMLTokenizer___init__, c_HTMLTokenizer___init__, 0, [], .none, .none, .none, .none, none, .none, .none, 0⟩), #[]⟩
@[reducible] noncomputable def o260 (P : Params) : Obj := ⟨(.type "code"), none, (.fields #[(.str (Str.ofString "__init__") 856), (.str (Str.ofString "HTMLTokenizer.__init__") 857), (.str (Str.ofString "/claim/cut.py") 858), (.int 184 0), (.int 3 0), (.int 0 0), (.int 0 0), (.int 3 0), (.ref 255), (.bool true), (.int 181 0), (.ref 256), .none, (.ref 257), (.ref 258), (.ref 259), (.int 862 0), (.int 184 0), (.str (Str.ofString "/claim/cut.py") 863)]), #[]⟩
@[reducible] noncomputable def o261 (P : Params) : Obj := ⟨(.type "function"), none, (.func ⟨(Str.ofString "__init__"), (Str.ofString "HTMLTokenizer.__init__"), a_HTMLTokenizer___init__, .stmts b_HTMLTokenizer___init__, c_HTMLTokenizer___init__, 3, [], (.ref 254), .none, .none, (.str (Str.ofString "html5lib._tokenizer") 827), none, (.ref 260), .none, 0⟩), #[]⟩
@[reducible] noncomputable def o262 (P : Params) : Obj := ⟨(.type "tuple"), none, (.seq #[] 0), #[]⟩
@[reducible] noncomputable def o263 (P : Params) : Obj := ⟨.none, none, (.fields #[]), #[]⟩
@[reducible] noncomputable def o264 (P : Params) : Obj := ⟨(.type "tuple"), none, (.seq #[(.str (Str.ofString "self") 868)] 0), #[]⟩
@[reducible] noncomputable def o265 (P : Params) : Obj := ⟨(.type "tuple"), none, (.seq #[] 0), #[]⟩
@[reducible] noncomputable def o266 (P : Params) : Obj := ⟨.none, none, (.func ⟨(Str.ofString "__iter__"), (Str.ofString "HTMLTokenizer.__iter__"), (dArgs (D2 21 1)), .stmts (dBody (D2 21 1)), (dScope (D2 21 1)), 0, [], .none, .none, .none, .none, none, .none, .none, 0⟩), #[]⟩
@[reducible] noncomputable def o267 (P : Params) : Obj := ⟨(.type "code"), none, (.fields #[(.str (Str.ofString "__iter__") 865), (.str (Str.ofString "HTMLTokenizer.__iter__") 866), (.str (Str.ofString "/claim/cut.py") 867), (.int 193 0), (.int 1 0), (.int 0 0), (.int 0 0), (.int 35 0), (.ref 262), (.bool true), (.int 181 0), (.ref 263), .none, (.ref 264), (.ref 265), (.ref 266), (.int 869 0), (.int 193 0), (.str (Str.ofString "/claim/cut.py") 870)]), #[]⟩
@[reducible] noncomputable def o268 (P : Params) : Obj := ⟨(.type "function"), none, (.func ⟨(Str.ofString "__iter__"), (Str.ofString "HTMLTokenizer.__iter__"), (dArgs (D2 21 1)), .stmts (dBody (D2 21 1)), (dScope (D2 21 1)), 3, [], .none, .none, .none, (.str (Str.ofString "html5lib._tokenizer") 827), none, (.ref 267), .none, 0⟩), #[]⟩
@[reducible] noncomputable def o269 (P : Params) : Obj := ⟨(.type "tuple"), none, (.seq #[] 0), #[]⟩
@[reducible] noncomputable def o270 (P : Params) : Obj := ⟨.none, none, (.fields #[]), #[]⟩
@[reducible] noncomputable def o271 (P : Params) : Obj := ⟨(.type "tuple"), none, (.seq #[(.str (Str.ofString "self") 875), (.str (Str.ofString "isHex") 876), (.str (Str.ofString "allowed") 877), (.str (Str.ofString "radix") 878), (.str (Str.ofString "charStack") 879), (.str (Str.ofString "c") 880), (.str (Str.ofString "charAsInt") 881), (.str (Str.ofString "char") 882), (.str (Str.ofString "v") 883)] 0), #[]⟩
@[reducible] noncomputable def o272 (P : Params) : Obj := ⟨(.type "tuple"), none, (.seq #[] 0), #[]⟩
@[reducible] noncomputable def a_HTMLTokenizer_consumeNumberEntity : Arguments := (fun x (_ : x = dArgs (D2 21 2)) => x) _ (by conv => rhs; whnf)
@[reducible] noncomputable def b_HTMLTokenizer_consumeNumberEntity : List Stmt := (fun x (_ : x = dBody (D2 21 2)) => x) _ (by conv => rhs; whnf)
@[reducible] noncomputable def c_HTMLTokenizer_consumeNumberEntity : Scope := (fun x (_ : x = dScope (D2 21 2)) => x) _ (by conv => rhs; whnf)
@[reducible] noncomputable def o273 (P : Params) : Obj := ⟨.none, none, (.func ⟨(Str.ofString "consumeNumberEntity"), (Str.ofString "HTMLTokenizer.consumeNumberEntity"), a_HTMLTokenizer_consumeNumberEntity, .stmts b_HTMLTokenizer_consumeNumberEntity, c_HTMLTokenizer_consumeNumberEntity, 0, [], .none, .none, .none, .none, none, .none, .none, 0⟩), #[]⟩
@[reducible] noncomputable def o274 (P : Params) : Obj := ⟨(.type "code"), none, (.fields #[(.str (Str.ofString "consumeNumberEntity") 872), (.str (Str.ofString "HTMLTokenizer.consumeNumberEntity") 873), (.str (Str.ofString "/claim/cut.py") 874), (.int 201 0), (.int 2 0), (.int 0 0), (.int 0 0), (.int 3 0), (.ref 269), (.bool true), (.int 181 0), (.ref 270), .none, (.ref 271), (.ref 272), (.ref 273), (.int 884 0), (.int 201 0), (.str (Str.ofString "/claim/cut.py") 885)]), #[]⟩
@[reducible] noncomputable def o275 (P : Params) : Obj := ⟨(.type "function"), none, (.func ⟨(Str.ofString "consumeNumberEntity"), (Str.ofString "HTMLTokenizer.consumeNumberEntity"), a_HTMLTokenizer_consumeNumberEntity, .stmts b_HTMLTokenizer_consumeNumberEntity, c_HTMLTokenizer_consumeNumberEntity, 3, [], .none, .none, .none, (.str (Str.ofString "html5lib._tokenizer") 827), none, (.ref 274), .none, 0⟩), #[]⟩
@[reducible] noncomputable def o276 (P : Params) : Obj := ⟨(.type "tuple"), none, (.seq #[.none, (.bool false)] 0), #[]⟩
@[reducible] noncomputable def o277 (P : Params) : Obj := ⟨(.type "tuple"), none, (.seq #[] 0), #[]⟩
@[reducible] noncomputable def o278 (P : Params) : Obj := ⟨.none, none, (.fields #[]), #[]⟩
@[reducible] noncomputable def o279 (P : Params) : Obj := ⟨(.type "tuple"), none, (.seq #[(.str (Str.ofString "self") 890), (.str (Str.ofString "allowedChar") 891), (.str (Str.ofString "fromAttribute") 892), (.str (Str.ofString "output") 893), (.str (Str.ofString "charStack") 894), (.str (Str.ofString "hex") 895), (.str (Str.ofString "entityName") 896), (.str (Str.ofString "entityLength") 897), (.str (Str.ofString "tokenType") 898)] 0), #[]⟩
@[reducible] noncomputable def o280 (P : Params) : Obj := ⟨(.type "tuple"), none, (.seq #[] 0), #[]⟩
@[reducible] noncomputable def o281 (P : Params) : Obj := ⟨.none, none, (.func ⟨(Str.ofString "consumeEntity"), (Str.ofString "HTMLTokenizer.consumeEntity"), (dArgs (D2 21 3)), .stmts (dBody (D2 21 3)), (dScope (D2 21 3)), 0, [], .none, .none, .none, .none, none, .none, .none, 0⟩), #[]⟩
@[reducible] noncomputable def o282 (P : Params) : Obj := ⟨(.type "code"), none, (.fields #[(.str (Str.ofString "consumeEntity") 887), (.str (Str.ofString "HTMLTokenizer.consumeEntity") 888), (.str (Str.ofString "/claim/cut.py") 889), (.int 232 0), (.int 3 0), (.int 0 0), (.int 0 0), (.int 3 0), (.ref 277), (.bool true), (.int 181 0), (.ref 278), .none, (.ref 279), (.ref 280), (.ref 281), (.int 899 0), (.int 232 0), (.str (Str.ofString "/claim/cut.py") 900)]), #[]⟩
@[reducible] noncomputable def o283 (P : Params) : Obj := ⟨(.type "function"), none, (.func ⟨(Str.ofString "consumeEntity"), (Str.ofString "HTMLTokenizer.consumeEntity"), (dArgs (D2 21 3)), .stmts (dBody (D2 21 3)), (dScope (D2 21 3)), 3, [], (.ref 276), .none, .none, (.str (Str.ofString "html5lib._tokenizer") 827), none, (.ref 282), .none, 0⟩), #[]⟩
@[reducible] noncomputable def o284 (P : Params) : Obj := ⟨(.type "tuple"), none, (.seq #[] 0), #[]⟩
@[reducible] noncomputable def o285 (P : Params) : Obj := ⟨.none, none, (.fields #[]), #[]⟩
@[reducible] noncomputable def o286 (P : Params) : Obj := ⟨(.type "tuple"), none, (.seq #[(.str (Str.ofString "self") 905), (.str (Str.ofString "allowedChar") 906)] 0), #[]⟩
@[reducible] noncomputable def o287 (P : Params) : Obj := ⟨(.type "tuple"), none, (.seq #[] 0), #[]⟩
@[reducible] noncomputable def o288 (P : Params) : Obj := ⟨.none, none, (.func ⟨(Str.ofString "processEntityInAttribute"), (Str.ofString "HTMLTokenizer.processEntityInAttribute"), (dArgs (D2 21 4)), .stmts (dBody (D2 21 4)), (dScope (D2 21 4)), 0, [], .none, .none, .none, .none, none, .none, .none, 0⟩), #[]⟩
@[reducible] noncomputable def o289 (P : Params) : Obj := ⟨(.type "code"), none, (.fields #[(.str (Str.ofString "processEntityInAttribute") 902), (.str (Str.ofString "HTMLTokenizer.processEntityInAttribute") 903), (.str (Str.ofString "/claim/cut.py") 904), (.int 283 0), (.int 2 0), (.int 0 0), (.int 0 0), (.int 3 0), (.ref 284), (.bool true), (.int 181 0), (.ref 285), .none, (.ref 286), (.ref 287), (.ref 288), (.int 907 0), (.int 283 0), (.str (Str.ofString "/claim/cut.py") 908)]), #[]⟩
@[reducible] noncomputable def o290 (P : Params) : Obj := ⟨(.type "function"), none, (.func ⟨(Str.ofString "processEntityInAttribute"), (Str.ofString "HTMLTokenizer.processEntityInAttribute"), (dArgs (D2 21 4)), .stmts (dBody (D2 21 4)), (dScope (D2 21 4)), 3, [], .none, .none, .none, (.str (Str.ofString "html5lib._tokenizer") 827), none, (.ref 289), .none, 0⟩), #[]⟩
@[reducible] noncomputable def o291 (P : Params) : Obj := ⟨(.type "tuple"), none, (.seq #[] 0), #[]⟩
@[reducible] noncomputable def o292 (P : Params) : Obj := ⟨.none, none, (.fields #[]), #[]⟩
@[reducible] noncomputable def o293 (P : Params) : Obj := ⟨(.type "tuple"), none, (.seq #[(.str (Str.ofString "self") 913), (.str (Str.ofString "token") 914), (.str (Str.ofString "raw") 915), (.str (Str.ofString "data") 916)] 0), #[]⟩
@[reducible] noncomputable def o294 (P : Params) : Obj := ⟨(.type "tuple"), none, (.seq #[] 0), #[]⟩
@[reducible] noncomputable def o295 (P : Params) : Obj := ⟨.none, none, (.func ⟨(Str.ofString "emitCurrentToken"), (Str.ofString "HTMLTokenizer.emitCurrentToken"), (dArgs (D2 21 5)), .stmts (dBody (D2 21 5)), (dScope (D2 21 5)), 0, [], .none, .none, .none, .none, none, .none, .none, 0⟩), #[]⟩
@[reducible] noncomputable def o296 (P : Params) : Obj := ⟨(.type "code"), none, (.fields #[(.str (Str.ofString "emitCurrentToken") 910), (.str (Str.ofString "HTMLTokenizer.emitCurrentToken") 911), (.str (Str.ofString "/claim/cut.py") 912), (.int 286 0), (.int 1 0), (.int 0 0), (.int 0 0), (.int 3 0), (.ref 291), (.bool true), (.int 181 0), (.ref 292), .none, (.ref 293), (.ref 294), (.ref 295), (.int 917 0), (.int 286 0), (.str (Str.ofString "/claim/cut.py") 918)]), #[]⟩
@[reducible] noncomputable def o297 (P : Params) : Obj := ⟨(.type "function"), none, (.func ⟨(Str.ofString "emitCurrentToken"), (Str.ofString "HTMLTokenizer.emitCurrentToken"), (dArgs (D2 21 5)), .stmts (dBody (D2 21 5)), (dScope (D2 21 5)), 3, [], .none, .none, .none, (.str (Str.ofString "html5lib._tokenizer") 827), none, (.ref 296), .none, 0⟩), #[]⟩
@[reducible] noncomputable def o298 (P : Params) : Obj := ⟨(.type "tuple"), none, (.seq #[] 0), #[]⟩
@[reducible] noncomputable def o299 (P : Params) : Obj := ⟨.none, none, (.fields #[]), #[]⟩
@[reducible] noncomputable def o300 (P : Params) : Obj := ⟨(.type "tuple"), none, (.seq #[(.str (Str.ofString "self") 923), (.str (Str.ofString "data") 924), (.str (Str.ofString "chars") 925)] 0), #[]⟩
@[reducible] noncomputable def o301 (P : Params) : Obj := ⟨(.type "tuple"), none, (.seq #[] 0), #[]⟩
@[reducible] noncomputable def o302 (P : Params) : Obj := ⟨.none, none, (.func ⟨(Str.ofString "dataState"), (Str.ofString "HTMLTokenizer.dataState"), (dArgs (D2 21 6)), .stmts (dBody (D2 21 6)), (dScope (D2 21 6)), 0, [], .none, .none, .none, .none, none, .none, .none, 0⟩), #[]⟩
@[reducible] noncomputable def o303 (P : Params) : Obj := ⟨(.type "code"), none, (.fields #[(.str (Str.ofString "dataState") 920), (.str (Str.ofString "HTMLTokenizer.dataState") 921), (.str (Str.ofString "/claim/cut.py") 922), (.int 304 0), (.int 1 0), (.int 0 0), (.int 0 0), (.int 3 0), (.ref 298), (.bool true), (.int 181 0), (.ref 299), .none, (.ref 300), (.ref 301), (.ref 302), (.int 926 0), (.int 304 0), (.str (Str.ofString "/claim/cut.py") 927)]), #[]⟩
@[reducible] noncomputable def o304 (P : Params) : Obj := ⟨(.type "function"), none, (.func ⟨(Str.ofString "dataState"), (Str.ofString "HTMLTokenizer.dataState"), (dArgs (D2 21 6)), .stmts (dBody (D2 21 6)), (dScope (D2 21 6)), 3, [], .none, .none, .none, (.str (Str.ofString "html5lib._tokenizer") 827), none, (.ref 303), .none, 0⟩), #[]⟩
@[reducible] noncomputable def o305 (P : Params) : Obj := ⟨(.type "tuple"), none, (.seq #[] 0), #[]⟩
@[reducible] noncomputable def o306 (P : Params) : Obj := ⟨.none, none, (.fields #[]), #[]⟩
@[reducible] noncomputable def o307 (P : Params) : Obj := ⟨(.type "tuple"), none, (.seq #[(.str (Str.ofString "self") 932)] 0), #[]⟩
@[reducible] noncomputable def o308 (P : Params) : Obj := ⟨(.type "tuple"), none, (.seq #[] 0), #[]⟩
@[reducible] noncomputable def o309 (P : Params) : Obj := ⟨.none, none, (.func ⟨(Str.ofString "entityDataState"), (Str.ofString "HTMLTokenizer.entityDataState"), (dArgs (D2 21 7)), .stmts (dBody (D2 21 7)), (dScope (D2 21 7)), 0, [], .none, .none, .none, .none, none, .none, .none, 0⟩), #[]⟩
@[reducible] noncomputable def o310 (P : Params) : Obj := ⟨(.type "code"), none, (.fields #[(.str (Str.ofString "entityDataState") 929), (.str (Str.ofString "HTMLTokenizer.entityDataState") 930), (.str (Str.ofString "/claim/cut.py") 931), (.int 322 0), (.int 1 0), (.int 0 0), (.int 0 0), (.int 3 0), (.ref 305), (.bool true), (.int 181 0), (.ref 306), .none, (.ref 307), (.ref 308), (.ref 309), (.int 933 0), (.int 322 0), (.str (Str.ofString "/claim/cut.py") 934)]), #[]⟩
@[reducible] noncomputable def o311 (P : Params) : Obj := ⟨(.type "function"), none, (.func ⟨(Str.ofString "entityDataState"), (Str.ofString "HTMLTokenizer.entityDataState"), (dArgs (D2 21 7)), .stmts (dBody (D2 21 7)), (dScope (D2 21 7)), 3, [], .none, .none, .none, (.str (Str.ofString "html5lib._tokenizer") 827), none, (.ref 310), .none, 0⟩), #[]⟩
@[reducible] noncomputable def o312 (P : Params) : Obj := ⟨(.type "tuple"), none, (.seq #[] 0), #[]⟩
@[reducible] noncomputable def o313 (P : Params) : Obj := ⟨.none, none, (.fields #[]), #[]⟩
@[reducible] noncomputable def o314 (P : Params) : Obj := ⟨(.type "tuple"), none, (.seq #[(.str (Str.ofString "self") 939)] 0), #[]⟩
@[reducible] noncomputable def o315 (P : Params) : Obj := ⟨(.type "tuple"), none, (.seq #[] 0), #[]⟩
@[reducible] noncomputable def o316 (P : Params) : Obj := ⟨.none, none, (.func ⟨(Str.ofString "rcdataState"), (Str.ofString "HTMLTokenizer.rcdataState"), (dArgs (D2 21 8)), .stmts (dBody (D2 21 8)), (dScope (D2 21 8)), 0, [], .none, .none, .none, .none, none, .none, .none, 0⟩), #[]⟩
@[reducible] noncomputable def o317 (P : Params) : Obj := ⟨(.type "code"), none, (.fields #[(.str (Str.ofString "rcdataState") 936), (.str (Str.ofString "HTMLTokenizer.rcdataState") 937), (.str (Str.ofString "/claim/cut.py") 938), (.int 327 0), (.int 1 0), (.int 0 0), (.int 0 0), (.int 3 0), (.ref 312), (.bool true), (.int 181 0), (.ref 313), .none, (.ref 314), (.ref 315), (.ref 316), (.int 940 0), (.int 327 0), (.str (Str.ofString "/claim/cut.py") 941)]), #[]⟩
@[reducible] noncomputable def o318 (P : Params) : Obj := ⟨(.type "function"), none, (.func ⟨(Str.ofString "rcdataState"), (Str.ofString "HTMLTokenizer.rcdataState"), (dArgs (D2 21 8)), .stmts (dBody (D2 21 8)), (dScope (D2 21 8)), 3, [], .none, .none, .none, (.str (Str.ofString "html5lib._tokenizer") 827), none, (.ref 317), .none, 0⟩), #[]⟩
@[reducible] noncomputable def o319 (P : Params) : Obj := ⟨(.type "tuple"), none, (.seq #[] 0), #[]⟩
@[reducible] noncomputable def o320 (P : Params) : Obj := ⟨.none, none, (.fields #[]), #[]⟩
@[reducible] noncomputable def o321 (P : Params) : Obj := ⟨(.type "tuple"), none, (.seq #[(.str (Str.ofString "self") 946)] 0), #[]⟩
@[reducible] noncomputable def o322 (P : Params) : Obj := ⟨(.type "tuple"), none, (.seq #[] 0), #[]⟩
@[reducible] noncomputable def o323 (P : Params) : Obj := ⟨.none, none, (.func ⟨(Str.ofString "characterReferenceInRcdata"), (Str.ofString "HTMLTokenizer.characterReferenceInRcdata"), (dArgs (D2 21 9)), .stmts (dBody (D2 21 9)), (dScope (D2 21 9)), 0, [], .none, .none, .none, .none, none, .none, .none, 0⟩), #[]⟩
@[reducible] noncomputable def o324 (P : Params) : Obj := ⟨(.type "code"), none, (.fields #[(.str (Str.ofString "characterReferenceInRcdata") 943), (.str (Str.ofString "HTMLTokenizer.characterReferenceInRcdata") 944), (.str (Str.ofString "/claim/cut.py") 945), (.int 330 0), (.int 1 0), (.int 0 0), (.int 0 0), (.int 3 0), (.ref 319), (.bool true), (.int 181 0), (.ref 320), .none, (.ref 321), (.ref 322), (.ref 323), (.int 947 0), (.int 330 0), (.str (Str.ofString "/claim/cut.py") 948)]), #[]⟩
@[reducible] noncomputable def o325 (P : Params) : Obj := ⟨(.type "function"), none, (.func ⟨(Str.ofString "characterReferenceInRcdata"), (Str.ofString "HTMLTokenizer.characterReferenceInRcdata"), (dArgs (D2 21 9)), .stmts (dBody (D2 21 9)), (dScope (D2 21 9)), 3, [], .none, .none, .none, (.str (Str.ofString "html5lib._tokenizer") 827), none, (.ref 324), .none, 0⟩), #[]⟩
@[reducible] noncomputable def o326 (P : Params) : Obj := ⟨(.type "tuple"), none, (.seq #[] 0), #[]⟩
@[reducible] noncomputable def o327 (P : Params) : Obj := ⟨.none, none, (.fields #[]), #[]⟩
@[reducible] noncomputable def o328 (P : Params) : Obj := ⟨(.type "tuple"), none, (.seq #[(.str (Str.ofString "self") 953)] 0), #[]⟩
@[reducible] noncomputable def o329 (P : Params) : Obj := ⟨(.type "tuple"), none, (.seq #[] 0), #[]⟩
@[reducible] noncomputable def o330 (P : Params) : Obj := ⟨.none, none, (.func ⟨(Str.ofString "rawtextState"), (Str.ofString "HTMLTokenizer.rawtextState"), (dArgs (D2 21 10)), .stmts (dBody (D2 21 10)), (dScope (D2 21 10)), 0, [], .none, .none, .none, .none, none, .none, .none, 0⟩), #[]⟩
@[reducible] noncomputable def o331 (P : Params) : Obj := ⟨(.type "code"), none, (.fields #[(.str (Str.ofString "rawtextState") 950), (.str (Str.ofString "HTMLTokenizer.rawtextState") 951), (.str (Str.ofString "/claim/cut.py") 952), (.int 333 0), (.int 1 0), (.int 0 0), (.int 0 0), (.int 3 0), (.ref 326), (.bool true), (.int 181 0), (.ref 327), .none, (.ref 328), (.ref 329), (.ref 330), (.int 954 0), (.int 333 0), (.str (Str.ofString "/claim/cut.py") 955)]), #[]⟩
@[reducible] noncomputable def o332 (P : Params) : Obj := ⟨(.type "function"), none, (.func ⟨(Str.ofString "rawtextState"), (Str.ofString "HTMLTokenizer.rawtextState"), (dArgs (D2 21 10)), .stmts (dBody (D2 21 10)), (dScope (D2 21 10)), 3, [], .none, .none, .none, (.str (Str.ofString "html5lib._tokenizer") 827), none, (.ref 331), .none, 0⟩), #[]⟩
@[reducible] noncomputable def o333 (P : Params) : Obj := ⟨(.type "tuple"), none, (.seq #[] 0), #[]⟩
@[reducible] noncomputable def o334 (P : Params) : Obj := ⟨.none, none, (.fields #[]), #[]⟩
@[reducible] noncomputable def o335 (P : Params) : Obj := ⟨(.type "tuple"), none, (.seq #[(.str (Str.ofString "self") 960)] 0), #[]⟩
@[reducible] noncomputable def o336 (P : Params) : Obj := ⟨(.type "tuple"), none, (.seq #[] 0), #[]⟩
@[reducible] noncomputable def o337 (P : Params) : Obj := ⟨.none, none, (.func ⟨(Str.ofString "scriptDataState"), (Str.ofString "HTMLTokenizer.scriptDataState"), (dArgs (D2 21 11)), .stmts (dBody (D2 21 11)), (dScope (D2 21 11)), 0, [], .none, .none, .none, .none, none, .none, .none, 0⟩), #[]⟩
@[reducible] noncomputable def o338 (P : Params) : Obj := ⟨(.type "code"), none, (.fields #[(.str (Str.ofString "scriptDataState") 957), (.str (Str.ofString "HTMLTokenizer.scriptDataState") 958), (.str (Str.ofString "/claim/cut.py") 959), (.int 336 0), (.int 1 0), (.int 0 0), (.int 0 0), (.int 3 0), (.ref 333), (.bool true), (.int 181 0), (.ref 334), .none, (.ref 335), (.ref 336), (.ref 337), (.int 961 0), (.int 336 0), (.str (Str.ofString "/claim/cut.py") 962)]), #[]⟩
@[reducible] noncomputable def o339 (P : Params) : Obj := ⟨(.type "function"), none, (.func ⟨(Str.ofString "scriptDataState"), (Str.ofString "HTMLTokenizer.scriptDataState"), (dArgs (D2 21 11)), .stmts (dBody (D2 21 11)), (dScope (D2 21 11)), 3, [], .none, .none, .none, (.str (Str.ofString "html5lib._tokenizer") 827), none, (.ref 338), .none, 0⟩), #[]⟩
@[reducible] noncomputable def o340 (P : Params) : Obj := ⟨(.type "tuple"), none, (.seq #[] 0), #[]⟩
@[reducible] noncomputable def o341 (P : Params) : Obj := ⟨.none, none, (.fields #[]), #[]⟩
@[reducible] noncomputable def o342 (P : Params) : Obj := ⟨(.type "tuple"), none, (.seq #[(.str (Str.ofString "self") 967)] 0), #[]⟩
@[reducible] noncomputable def o343 (P : Params) : Obj := ⟨(.type "tuple"), none, (.seq #[] 0), #[]⟩
@[reducible] noncomputable def o344 (P : Params) : Obj := ⟨.none, none, (.func ⟨(Str.ofString "plaintextState"), (Str.ofString "HTMLTokenizer.plaintextState"), (dArgs (D2 21 12)), .stmts (dBody (D2 21 12)), (dScope (D2 21 12)), 0, [], .none, .none, .none, .none, none, .none, .none, 0⟩), #[]⟩
@[reducible] noncomputable def o345 (P : Params) : Obj := ⟨(.type "code"), none, (.fields #[(.str (Str.ofString "plaintextState") 964), (.str (Str.ofString "HTMLTokenizer.plaintextState") 965), (.str (Str.ofString "/claim/cut.py") 966), (.int 339 0), (.int 1 0), (.int 0 0), (.int 0 0), (.int 3 0), (.ref 340), (.bool true), (.int 181 0), (.ref 341), .none, (.ref 342), (.ref 343), (.ref 344), (.int 968 0), (.int 339 0), (.str (Str.ofString "/claim/cut.py") 969)]), #[]⟩
@[reducible] noncomputable def o346 (P : Params) : Obj := ⟨(.type "function"), none, (.func ⟨(Str.ofString "plaintextState"), (Str.ofString "HTMLTokenizer.plaintextState"), (dArgs (D2 21 12)), .stmts (dBody (D2 21 12)), (dScope (D2 21 12)), 3, [], .none, .none, .none, (.str (Str.ofString "html5lib._tokenizer") 827), none, (.ref 345), .none, 0⟩), #[]⟩
@[reducible] noncomputable def o347 (P : Params) : Obj := ⟨(.type "tuple"), none, (.seq #[] 0), #[]⟩
@[reducible] noncomputable def o348 (P : Params) : Obj := ⟨.none, none, (.fields #[]), #[]⟩
@[reducible] noncomputable def o349 (P : Params) : Obj := ⟨(.type "tuple"), none, (.seq #[(.str (Str.ofString "self") 974), (.str (Str.ofString "data") 975)] 0), #[]⟩
@[reducible] noncomputable def o350 (P : Params) : Obj := ⟨(.type "tuple"), none, (.seq #[] 0), #[]⟩
@[reducible] noncomputable def o351 (P : Params) : Obj := ⟨.none, none, (.func ⟨(Str.ofString "tagOpenState"), (Str.ofString "HTMLTokenizer.tagOpenState"), (dArgs (D2 21 13)), .stmts (dBody (D2 21 13)), (dScope (D2 21 13)), 0, [], .none, .none, .none, .none, none, .none, .none, 0⟩), #[]⟩
@[reducible] noncomputable def o352 (P : Params) : Obj := ⟨(.type "code"), none, (.fields #[(.str (Str.ofString "tagOpenState") 971), (.str (Str.ofString "HTMLTokenizer.tagOpenState") 972), (.str (Str.ofString "/claim/cut.py") 973), (.int 342 0), (.int 1 0), (.int 0 0), (.int 0 0), (.int 3 0), (.ref 347), (.bool true), (.int 181 0), (.ref 348), .none, (.ref 349), (.ref 350), (.ref 351), (.int 976 0), (.int 342 0), (.str (Str.ofString "/claim/cut.py") 977)]), #[]⟩
@[reducible] noncomputable def o353 (P : Params) : Obj := ⟨(.type "function"), none, (.func ⟨(Str.ofString "tagOpenState"), (Str.ofString "HTMLTokenizer.tagOpenState"), (dArgs (D2 21 13)), .stmts (dBody (D2 21 13)), (dScope (D2 21 13)), 3, [], .none, .none, .none, (.str (Str.ofString "html5lib._tokenizer") 827), none, (.ref 352), .none, 0⟩), #[]⟩
@[reducible] noncomputable def o354 (P : Params) : Obj := ⟨(.type "tuple"), none, (.seq #[] 0), #[]⟩
@[reducible] noncomputable def o355 (P : Params) : Obj := ⟨.none, none, (.fields #[]), #[]⟩
@[reducible] noncomputable def o356 (P : Params) : Obj := ⟨(.type "tuple"), none, (.seq #[(.str (Str.ofString "self") 982), (.str (Str.ofString "data") 983)] 0), #[]⟩
@[reducible] noncomputable def o357 (P : Params) : Obj := ⟨(.type "tuple"), none, (.seq #[] 0), #[]⟩
@[reducible] noncomputable def o358 (P : Params) : Obj := ⟨.none, none, (.func ⟨(Str.ofString "closeTagOpenState"), (Str.ofString "HTMLTokenizer.closeTagOpenState"), (dArgs (D2 21 14)), .stmts (dBody (D2 21 14)), (dScope (D2 21 14)), 0, [], .none, .none, .none, .none, none, .none, .none, 0⟩), #[]⟩
@[reducible] noncomputable def o359 (P : Params) : Obj := ⟨(.type "code"), none, (.fields #[(.str (Str.ofString "closeTagOpenState") 979), (.str (Str.ofString "HTMLTokenizer.closeTagOpenState") 980), (.str (Str.ofString "/claim/cut.py") 981), (.int 366 0), (.int 1 0), (.int 0 0), (.int 0 0), (.int 3 0), (.ref 354), (.bool true), (.int 181 0), (.ref 355), .none, (.ref 356), (.ref 357), (.ref 358), (.int 984 0), (.int 366 0), (.str (Str.ofString "/claim/cut.py") 985)]), #[]⟩
@[reducible] noncomputable def o360 (P : Params) : Obj := ⟨(.type "function"), none, (.func ⟨(Str.ofString "closeTagOpenState"), (Str.ofString "HTMLTokenizer.closeTagOpenState"), (dArgs (D2 21 14)), .stmts (dBody (D2 21 14)), (dScope (D2 21 14)), 3, [], .none, .none, .none, (.str (Str.ofString "html5lib._tokenizer") 827), none, (.ref 359), .none, 0⟩), #[]⟩
@[reducible] noncomputable def o361 (P : Params) : Obj := ⟨(.type "tuple"), none, (.seq #[] 0), #[]⟩
@[reducible] noncomputable def o362 (P : Params) : Obj := ⟨.none, none, (.fields #[]), #[]⟩
@[reducible] noncomputable def o363 (P : Params) : Obj := ⟨(.type "tuple"), none, (.seq #[(.str (Str.ofString "self") 990), (.str (Str.ofString "data") 991)] 0), #[]⟩
@[reducible] noncomputable def o364 (P : Params) : Obj := ⟨(.type "tuple"), none, (.seq #[] 0), #[]⟩
@[reducible] noncomputable def o365 (P : Params) : Obj := ⟨.none, none, (.func ⟨(Str.ofString "tagNameState"), (Str.ofString "HTMLTokenizer.tagNameState"), (dArgs (D2 21 15)), .stmts (dBody (D2 21 15)), (dScope (D2 21 15)), 0, [], .none, .none, .none, .none, none, .none, .none, 0⟩), #[]⟩
@[reducible] noncomputable def o366 (P : Params) : Obj := ⟨(.type "code"), none, (.fields #[(.str (Str.ofString "tagNameState") 987), (.str (Str.ofString "HTMLTokenizer.tagNameState") 988), (.str (Str.ofString "/claim/cut.py") 989), (.int 384 0), (.int 1 0), (.int 0 0), (.int 0 0), (.int 3 0), (.ref 361), (.bool true), (.int 181 0), (.ref 362), .none, (.ref 363), (.ref 364), (.ref 365), (.int 992 0), (.int 384 0), (.str (Str.ofString "/claim/cut.py") 993)]), #[]⟩
@[reducible] noncomputable def o367 (P : Params) : Obj := ⟨(.type "function"), none, (.func ⟨(Str.ofString "tagNameState"), (Str.ofString "HTMLTokenizer.tagNameState"), (dArgs (D2 21 15)), .stmts (dBody (D2 21 15)), (dScope (D2 21 15)), 3, [], .none, .none, .none, (.str (Str.ofString "html5lib._tokenizer") 827), none, (.ref 366), .none, 0⟩), #[]⟩
@[reducible] noncomputable def o368 (P : Params) : Obj := ⟨(.type "tuple"), none, (.seq #[] 0), #[]⟩
@[reducible] noncomputable def o369 (P : Params) : Obj := ⟨.none, none, (.fields #[]), #[]⟩
@[reducible] noncomputable def o370 (P : Params) : Obj := ⟨(.type "tuple"), none, (.seq #[(.str (Str.ofString "self") 998)] 0), #[]⟩
@[reducible] noncomputable def o371 (P : Params) : Obj := ⟨(.type "tuple"), none, (.seq #[] 0), #[]⟩
@[reducible] noncomputable def o372 (P : Params) : Obj := ⟨.none, none, (.func ⟨(Str.ofString "rcdataLessThanSignState"), (Str.ofString "HTMLTokenizer.rcdataLessThanSignState"), (dArgs (D2 21 16)), .stmts (dBody (D2 21 16)), (dScope (D2 21 16)), 0, [], .none, .none, .none, .none, none, .none, .none, 0⟩), #[]⟩
@[reducible] noncomputable def o373 (P : Params) : Obj := ⟨(.type "code"), none, (.fields #[(.str (Str.ofString "rcdataLessThanSignState") 995), (.str (Str.ofString "HTMLTokenizer.rcdataLessThanSignState") 996), (.str (Str.ofString "/claim/cut.py") 997), (.int 402 0), (.int 1 0), (.int 0 0), (.int 0 0), (.int 3 0), (.ref 368), (.bool true), (.int 181 0), (.ref 369), .none, (.ref 370), (.ref 371), (.ref 372), (.int 999 0), (.int 402 0), (.str (Str.ofString "/claim/cut.py") 1000)]), #[]⟩
@[reducible] noncomputable def o374 (P : Params) : Obj := ⟨(.type "function"), none, (.func ⟨(Str.ofString "rcdataLessThanSignState"), (Str.ofString "HTMLTokenizer.rcdataLessThanSignState"), (dArgs (D2 21 16)), .stmts (dBody (D2 21 16)), (dScope (D2 21 16)), 3, [], .none, .none, .none, (.str (Str.ofString "html5lib._tokenizer") 827), none, (.ref 373), .none, 0⟩), #[]⟩
@[reducible] noncomputable def o375 (P : Params) : Obj := ⟨(.type "tuple"), none, (.seq #[] 0), #[]⟩
@[reducible] noncomputable def o376 (P : Params) : Obj := ⟨.none, none, (.fields #[]), #[]⟩
@[reducible] noncomputable def o377 (P : Params) : Obj := ⟨(.type "tuple"), none, (.seq #[(.str (Str.ofString "self") 1005)] 0), #[]⟩
@[reducible] noncomputable def o378 (P : Params) : Obj := ⟨(.type "tuple"), none, (.seq #[] 0), #[]⟩
@[reducible] noncomputable def o379 (P : Params) : Obj := ⟨.none, none, (.func ⟨(Str.ofString "rcdataEndTagOpenState"), (Str.ofString "HTMLTokenizer.rcdataEndTagOpenState"), (dArgs (D2 21 17)), .stmts (dBody (D2 21 17)), (dScope (D2 21 17)), 0, [], .none, .none, .none, .none, none, .none, .none, 0⟩), #[]⟩
@[reducible] noncomputable def o380 (P : Params) : Obj := ⟨(.type "code"), none, (.fields #[(.str (Str.ofString "rcdataEndTagOpenState") 1002), (.str (Str.ofString "HTMLTokenizer.rcdataEndTagOpenState") 1003), (.str (Str.ofString "/claim/cut.py") 1004), (.int 405 0), (.int 1 0), (.int 0 0), (.int 0 0), (.int 3 0), (.ref 375), (.bool true), (.int 181 0), (.ref 376), .none, (.ref 377), (.ref 378), (.ref 379), (.int 1006 0), (.int 405 0), (.str (Str.ofString "/claim/cut.py") 1007)]), #[]⟩
@[reducible] noncomputable def o381 (P : Params) : Obj := ⟨(.type "function"), none, (.func ⟨(Str.ofString "rcdataEndTagOpenState"), (Str.ofString "HTMLTokenizer.rcdataEndTagOpenState"), (dArgs (D2 21 17)), .stmts (dBody (D2 21 17)), (dScope (D2 21 17)), 3, [], .none, .none, .none, (.str (Str.ofString "html5lib._tokenizer") 827), none, (.ref 380), .none, 0⟩), #[]⟩
@[reducible] noncomputable def o382 (P : Params) : Obj := ⟨(.type "tuple"), none, (.seq #[] 0), #[]⟩
@[reducible] noncomputable def o383 (P : Params) : Obj := ⟨.none, none, (.fields #[]), #[]⟩
@[reducible] noncomputable def o384 (P : Params) : Obj := ⟨(.type "tuple"), none, (.seq #[(.str (Str.ofString "self") 1012)] 0), #[]⟩
@[reducible] noncomputable def o385 (P : Params) : Obj := ⟨(.type "tuple"), none, (.seq #[] 0), #[]⟩
@[reducible] noncomputable def o386 (P : Params) : Obj := ⟨.none, none, (.func ⟨(Str.ofString "rcdataEndTagNameState"), (Str.ofString "HTMLTokenizer.rcdataEndTagNameState"), (dArgs (D2 21 18)), .stmts (dBody (D2 21 18)), (dScope (D2 21 18)), 0, [], .none, .none, .none, .none, none, .none, .none, 0⟩), #[]⟩
@[reducible] noncomputable def o387 (P : Params) : Obj := ⟨(.type "code"), none, (.fields #[(.str (Str.ofString "rcdataEndTagNameState") 1009), (.str (Str.ofString "HTMLTokenizer.rcdataEndTagNameState") 1010), (.str (Str.ofString "/claim/cut.py") 1011), (.int 408 0), (.int 1 0), (.int 0 0), (.int 0 0), (.int 3 0), (.ref 382), (.bool true), (.int 181 0), (.ref 383), .none, (.ref 384), (.ref 385), (.ref 386), (.int 1013 0), (.int 408 0), (.str (Str.ofString "/claim/cut.py") 1014)]), #[]⟩
@[reducible] noncomputable def o388 (P : Params) : Obj := ⟨(.type "function"), none, (.func ⟨(Str.ofString "rcdataEndTagNameState"), (Str.ofString "HTMLTokenizer.rcdataEndTagNameState"), (dArgs (D2 21 18)), .stmts (dBody (D2 21 18)), (dScope (D2 21 18)), 3, [], .none, .none, .none, (.str (Str.ofString "html5lib._tokenizer") 827), none, (.ref 387), .none, 0⟩), #[]⟩
@[reducible] noncomputable def o389 (P : Params) : Obj := ⟨(.type "tuple"), none, (.seq #[] 0), #[]⟩
@[reducible] noncomputable def o390 (P : Params) : Obj := ⟨.none, none, (.fields #[]), #[]⟩
@[reducible] noncomputable def o391 (P : Params) : Obj := ⟨(.type "tuple"), none, (.seq #[(.str (Str.ofString "self") 1019)] 0), #[]⟩
@[reducible] noncomputable def o392 (P : Params) : Obj := ⟨(.type "tuple"), none, (.seq #[] 0), #[]⟩
@[reducible] noncomputable def o393 (P : Params) : Obj := ⟨.none, none, (.func ⟨(Str.ofString "rawtextLessThanSignState"), (Str.ofString "HTMLTokenizer.rawtextLessThanSignState"), (dArgs (D2 21 19)), .stmts (dBody (D2 21 19)), (dScope (D2 21 19)), 0, [], .none, .none, .none, .none, none, .none, .none, 0⟩), #[]⟩
@[reducible] noncomputable def o394 (P : Params) : Obj := ⟨(.type "code"), none, (.fields #[(.str (Str.ofString "rawtextLessThanSignState") 1016), (.str (Str.ofString "HTMLTokenizer.rawtextLessThanSignState") 1017), (.str (Str.ofString "/claim/cut.py") 1018), (.int 411 0), (.int 1 0), (.int 0 0), (.int 0 0), (.int 3 0), (.ref 389), (.bool true), (.int 181 0), (.ref 390), .none, (.ref 391), (.ref 392), (.ref 393), (.int 1020 0), (.int 411 0), (.str (Str.ofString "/claim/cut.py") 1021)]), #[]⟩
@[reducible] noncomputable def o395 (P : Params) : Obj := ⟨(.type "function"), none, (.func ⟨(Str.ofString "rawtextLessThanSignState"), (Str.ofString "HTMLTokenizer.rawtextLessThanSignState"), (dArgs (D2 21 19)), .stmts (dBody (D2 21 19)), (dScope (D2 21 19)), 3, [], .none, .none, .none, (.str (Str.ofString "html5lib._tokenizer") 827), none, (.ref 394), .none, 0⟩), #[]⟩
@[reducible] noncomputable def o396 (P : Params) : Obj := ⟨(.type "tuple"), none, (.seq #[] 0), #[]⟩
@[reducible] noncomputable def o397 (P : Params) : Obj := ⟨.none, none, (.fields #[]), #[]⟩
@[reducible] noncomputable def o398 (P : Params) : Obj := ⟨(.type "tuple"), none, (.seq #[(.str (Str.ofString "self") 1026)] 0), #[]⟩
@[reducible] noncomputable def o399 (P : Params) : Obj := ⟨(.type "tuple"), none, (.seq #[] 0), #[]⟩
@[reducible] noncomputable def o400 (P : Params) : Obj := ⟨.none, none, (.func ⟨(Str.ofString "rawtextEndTagOpenState"), (Str.ofString "HTMLTokenizer.rawtextEndTagOpenState"), (dArgs (D2 21 20)), .stmts (dBody (D2 21 20)), (dScope (D2 21 20)), 0, [], .none, .none, .none, .none, none, .none, .none, 0⟩), #[]⟩
@[reducible] noncomputable def o401 (P : Params) : Obj := ⟨(.type "code"), none, (.fields #[(.str (Str.ofString "rawtextEndTagOpenState") 1023), (.str (Str.ofString "HTMLTokenizer.rawtextEndTagOpenState") 1024), (.str (Str.ofString "/claim/cut.py") 1025), (.int 414 0), (.int 1 0), (.int 0 0), (.int 0 0), (.int 3 0), (.ref 396), (.bool true), (.int 181 0), (.ref 397), .none, (.ref 398), (.ref 399), (.ref 400), (.int 1027 0), (.int 414 0), (.str (Str.ofString "/claim/cut.py") 1028)]), #[]⟩
@[reducible] noncomputable def o402 (P : Params) : Obj := ⟨(.type "function"), none, (.func ⟨(Str.ofString "rawtextEndTagOpenState"), (Str.ofString "HTMLTokenizer.rawtextEndTagOpenState"), (dArgs (D2 21 20)), .stmts (dBody (D2 21 20)), (dScope (D2 21 20)), 3, [], .none, .none, .none, (.str (Str.ofString "html5lib._tokenizer") 827), none, (.ref 401), .none, 0⟩), #[]⟩
@[reducible] noncomputable def o403 (P : Params) : Obj := ⟨(.type "tuple"), none, (.seq #[] 0), #[]⟩
@[reducible] noncomputable def o404 (P : Params) : Obj := ⟨.none, none, (.fields #[]), #[]⟩
@[reducible] noncomputable def o405 (P : Params) : Obj := ⟨(.type "tuple"), none, (.seq #[(.str (Str.ofString "self") 1033)] 0), #[]⟩
@[reducible] noncomputable def o406 (P : Params) : Obj := ⟨(.type "tuple"), none, (.seq #[] 0), #[]⟩
@[reducible] noncomputable def o407 (P : Params) : Obj := ⟨.none, none, (.func ⟨(Str.ofString "rawtextEndTagNameState"), (Str.ofString "HTMLTokenizer.rawtextEndTagNameState"), (dArgs (D2 21 21)), .stmts (dBody (D2 21 21)), (dScope (D2 21 21)), 0, [], .none, .none, .none, .none, none, .none, .none, 0⟩), #[]⟩
@[reducible] noncomputable def o408 (P : Params) : Obj := ⟨(.type "code"), none, (.fields #[(.str (Str.ofString "rawtextEndTagNameState") 1030), (.str (Str.ofString "HTMLTokenizer.rawtextEndTagNameState") 1031), (.str (Str.ofString "/claim/cut.py") 1032), (.int 417 0), (.int 1 0), (.int 0 0), (.int 0 0), (.int 3 0), (.ref 403), (.bool true), (.int 181 0), (.ref 404), .none, (.ref 405), (.ref 406), (.ref 407), (.int 1034 0), (.int 417 0), (.str (Str.ofString "/claim/cut.py") 1035)]), #[]⟩
@[reducible] noncomputable def o409 (P : Params) : Obj := ⟨(.type "function"), none, (.func ⟨(Str.ofString "rawtextEndTagNameState"), (Str.ofString "HTMLTokenizer.rawtextEndTagNameState"), (dArgs (D2 21 21)), .stmts (dBody (D2 21 21)), (dScope (D2 21 21)), 3, [], .none, .none, .none, (.str (Str.ofString "html5lib._tokenizer") 827), none, (.ref 408), .none, 0⟩), #[]⟩
@[reducible] noncomputable def o410 (P : Params) : Obj := ⟨(.type "tuple"), none, (.seq #[] 0), #[]⟩
@[reducible] noncomputable def o411 (P : Params) : Obj := ⟨.none, none, (.fields #[]), #[]⟩
@[reducible] noncomputable def o412 (P : Params) : Obj := ⟨(.type "tuple"), none, (.seq #[(.str (Str.ofString "self") 1040)] 0), #[]⟩
@[reducible] noncomputable def o413 (P : Params) : Obj := ⟨(.type "tuple"), none, (.seq #[] 0), #[]⟩
@[reducible] noncomputable def o414 (P : Params) : Obj := ⟨.none, none, (.func ⟨(Str.ofString "scriptDataLessThanSignState"), (Str.ofString "HTMLTokenizer.scriptDataLessThanSignState"), (dArgs (D2 21 22)), .stmts (dBody (D2 21 22)), (dScope (D2 21 22)), 0, [], .none, .none, .none, .none, none, .none, .none, 0⟩), #[]⟩
@[reducible] noncomputable def o415 (P : Params) : Obj := ⟨(.type "code"), none, (.fields #[(.str (Str.ofString "scriptDataLessThanSignState") 1037), (.str (Str.ofString "HTMLTokenizer.scriptDataLessThanSignState") 1038), (.str (Str.ofString "/claim/cut.py") 1039), (.int 420 0), (.int 1 0), (.int 0 0), (.int 0 0), (.int 3 0), (.ref 410), (.bool true), (.int 181 0), (.ref 411), .none, (.ref 412), (.ref 413), (.ref 414), (.int 1041 0), (.int 420 0), (.str (Str.ofString "/claim/cut.py") 1042)]), #[]⟩
@[reducible] noncomputable def o416 (P : Params) : Obj := ⟨(.type "function"), none, (.func ⟨(Str.ofString "scriptDataLessThanSignState"), (Str.ofString "HTMLTokenizer.scriptDataLessThanSignState"), (dArgs (D2 21 22)), .stmts (dBody (D2 21 22)), (dScope (D2 21 22)), 3, [], .none, .none, .none, (.str (Str.ofString "html5lib._tokenizer") 827), none, (.ref 415), .none, 0⟩), #[]⟩
@[reducible] noncomputable def o417 (P : Params) : Obj := ⟨(.type "tuple"), none, (.seq #[] 0), #[]⟩
@[reducible] noncomputable def o418 (P : Params) : Obj := ⟨.none, none, (.fields #[]), #[]⟩
@[reducible] noncomputable def o419 (P : Params) : Obj := ⟨(.type "tuple"), none, (.seq #[(.str (Str.ofString "self") 1047)] 0), #[]⟩
@[reducible] noncomputable def o420 (P : Params) : Obj := ⟨(.type "tuple"), none, (.seq #[] 0), #[]⟩
@[reducible] noncomputable def o421 (P : Params) : Obj := ⟨.none, none, (.func ⟨(Str.ofString "scriptDataEndTagOpenState"), (Str.ofString "HTMLTokenizer.scriptDataEndTagOpenState"), (dArgs (D2 21 23)), .stmts (dBody (D2 21 23)), (dScope (D2 21 23)), 0, [], .none, .none, .none, .none, none, .none, .none, 0⟩), #[]⟩
@[reducible] noncomputable def o422 (P : Params) : Obj := ⟨(.type "code"), none, (.fields #[(.str (Str.ofString "scriptDataEndTagOpenState") 1044), (.str (Str.ofString "HTMLTokenizer.scriptDataEndTagOpenState") 1045), (.str (Str.ofString "/claim/cut.py") 1046), (.int 423 0), (.int 1 0), (.int 0 0), (.int 0 0), (.int 3 0), (.ref 417), (.bool true), (.int 181 0), (.ref 418), .none, (.ref 419), (.ref 420), (.ref 421), (.int 1048 0), (.int 423 0), (.str (Str.ofString "/claim/cut.py") 1049)]), #[]⟩
@[reducible] noncomputable def o423 (P : Params) : Obj := ⟨(.type "function"), none, (.func ⟨(Str.ofString "scriptDataEndTagOpenState"), (Str.ofString "HTMLTokenizer.scriptDataEndTagOpenState"), (dArgs (D2 21 23)), .stmts (dBody (D2 21 23)), (dScope (D2 21 23)), 3, [], .none, .none, .none, (.str (Str.ofString "html5lib._tokenizer") 827), none, (.ref 422), .none, 0⟩), #[]⟩
@[reducible] noncomputable def o424 (P : Params) : Obj := ⟨(.type "tuple"), none, (.seq #[] 0), #[]⟩
@[reducible] noncomputable def o425 (P : Params) : Obj := ⟨.none, none, (.fields #[]), #[]⟩
@[reducible] noncomputable def o426 (P : Params) : Obj := ⟨(.type "tuple"), none, (.seq #[(.str (Str.ofString "self") 1054)] 0), #[]⟩
@[reducible] noncomputable def o427 (P : Params) : Obj := ⟨(.type "tuple"), none, (.seq #[] 0), #[]⟩
@[reducible] noncomputable def o428 (P : Params) : Obj := ⟨.none, none, (.func ⟨(Str.ofString "scriptDataEndTagNameState"), (Str.ofString "HTMLTokenizer.scriptDataEndTagNameState"), (dArgs (D2 21 24)), .stmts (dBody (D2 21 24)), (dScope (D2 21 24)), 0, [], .none, .none, .none, .none, none, .none, .none, 0⟩), #[]⟩
@[reducible] noncomputable def o429 (P : Params) : Obj := ⟨(.type "code"), none, (.fields #[(.str (Str.ofString "scriptDataEndTagNameState") 1051), (.str (Str.ofString "HTMLTokenizer.scriptDataEndTagNameState") 1052), (.str (Str.ofString "/claim/cut.py") 1053), (.int 426 0), (.int 1 0), (.int 0 0), (.int 0 0), (.int 3 0), (.ref 424), (.bool true), (.int 181 0), (.ref 425), .none, (.ref 426), (.ref 427), (.ref 428), (.int 1055 0), (.int 426 0), (.str (Str.ofString "/claim/cut.py") 1056)]), #[]⟩
@[reducible] noncomputable def o430 (P : Params) : Obj := ⟨(.type "function"), none, (.func ⟨(Str.ofString "scriptDataEndTagNameState"), (Str.ofString "HTMLTokenizer.scriptDataEndTagNameState"), (dArgs (D2 21 24)), .stmts (dBody (D2 21 24)), (dScope (D2 21 24)), 3, [], .none, .none, .none, (.str (Str.ofString "html5lib._tokenizer") 827), none, (.ref 429), .none, 0⟩), #[]⟩
@[reducible] noncomputable def o431 (P : Params) : Obj := ⟨(.type "tuple"), none, (.seq #[] 0), #[]⟩
@[reducible] noncomputable def o432 (P : Params) : Obj := ⟨.none, none, (.fields #[]), #[]⟩
@[reducible] noncomputable def o433 (P : Params) : Obj := ⟨(.type "tuple"), none, (.seq #[(.str (Str.ofString "self") 1061)] 0), #[]⟩
@[reducible] noncomputable def o434 (P : Params) : Obj := ⟨(.type "tuple"), none, (.seq #[] 0), #[]⟩
@[reducible] noncomputable def o435 (P : Params) : Obj := ⟨.none, none, (.func ⟨(Str.ofString "scriptDataEscapeStartState"), (Str.ofString "HTMLTokenizer.scriptDataEscapeStartState"), (dArgs (D2 21 25)), .stmts (dBody (D2 21 25)), (dScope (D2 21 25)), 0, [], .none, .none, .none, .none, none, .none, .none, 0⟩), #[]⟩
@[reducible] noncomputable def o436 (P : Params) : Obj := ⟨(.type "code"), none, (.fields #[(.str (Str.ofString "scriptDataEscapeStartState") 1058), (.str (Str.ofString "HTMLTokenizer.scriptDataEscapeStartState") 1059), (.str (Str.ofString "/claim/cut.py") 1060), (.int 429 0), (.int 1 0), (.int 0 0), (.int 0 0), (.int 3 0), (.ref 431), (.bool true), (.int 181 0), (.ref 432), .none, (.ref 433), (.ref 434), (.ref 435), (.int 1062 0), (.int 429 0), (.str (Str.ofString "/claim/cut.py") 1063)]), #[]⟩
@[reducible] noncomputable def o437 (P : Params) : Obj := ⟨(.type "function"), none, (.func ⟨(Str.ofString "scriptDataEscapeStartState"), (Str.ofString "HTMLTokenizer.scriptDataEscapeStartState"), (dArgs (D2 21 25)), .stmts (dBody (D2 21 25)), (dScope (D2 21 25)), 3, [], .none, .none, .none, (.str (Str.ofString "html5lib._tokenizer") 827), none, (.ref 436), .none, 0⟩), #[]⟩
@[reducible] noncomputable def o438 (P : Params) : Obj := ⟨(.type "tuple"), none, (.seq #[] 0), #[]⟩
@[reducible] noncomputable def o439 (P : Params) : Obj := ⟨.none, none, (.fields #[]), #[]⟩
@[reducible] noncomputable def o440 (P : Params) : Obj := ⟨(.type "tuple"), none, (.seq #[(.str (Str.ofString "self") 1068)] 0), #[]⟩
@[reducible] noncomputable def o441 (P : Params) : Obj := ⟨(.type "tuple"), none, (.seq #[] 0), #[]⟩
@[reducible] noncomputable def o442 (P : Params) : Obj := ⟨.none, none, (.func ⟨(Str.ofString "scriptDataEscapeStartDashState"), (Str.ofString "HTMLTokenizer.scriptDataEscapeStartDashState"), (dArgs (D2 21 26)), .stmts (dBody (D2 21 26)), (dScope (D2 21 26)), 0, [], .none, .none, .none, .none, none, .none, .none, 0⟩), #[]⟩
@[reducible] noncomputable def o443 (P : Params) : Obj := ⟨(.type "code"), none, (.fields #[(.str (Str.ofString "scriptDataEscapeStartDashState") 1065), (.str (Str.ofString "HTMLTokenizer.scriptDataEscapeStartDashState") 1066), (.str (Str.ofString "/claim/cut.py") 1067), (.int 432 0), (.int 1 0), (.int 0 0), (.int 0 0), (.int 3 0), (.ref 438), (.bool true), (.int 181 0), (.ref 439), .none, (.ref 440), (.ref 441), (.ref 442), (.int 1069 0), (.int 432 0), (.str (Str.ofString "/claim/cut.py") 1070)]), #[]⟩
@[reducible] noncomputable def o444 (P : Params) : Obj := ⟨(.type "function"), none, (.func ⟨(Str.ofString "scriptDataEscapeStartDashState"), (Str.ofString "HTMLTokenizer.scriptDataEscapeStartDashState"), (dArgs (D2 21 26)), .stmts (dBody (D2 21 26)), (dScope (D2 21 26)), 3, [], .none, .none, .none, (.str (Str.ofString "html5lib._tokenizer") 827), none, (.ref 443), .none, 0⟩), #[]⟩
@[reducible] noncomputable def o445 (P : Params) : Obj := ⟨(.type "tuple"), none, (.seq #[] 0), #[]⟩
@[reducible] noncomputable def o446 (P : Params) : Obj := ⟨.none, none, (.fields #[]), #[]⟩
@[reducible] noncomputable def o447 (P : Params) : Obj := ⟨(.type "tuple"), none, (.seq #[(.str (Str.ofString "self") 1075)] 0), #[]⟩
@[reducible] noncomputable def o448 (P : Params) : Obj := ⟨(.type "tuple"), none, (.seq #[] 0), #[]⟩
@[reducible] noncomputable def o449 (P : Params) : Obj := ⟨.none, none, (.func ⟨(Str.ofString "scriptDataEscapedState"), (Str.ofString "HTMLTokenizer.scriptDataEscapedState"), (dArgs (D2 21 27)), .stmts (dBody (D2 21 27)), (dScope (D2 21 27)), 0, [], .none, .none, .none, .none, none, .none, .none, 0⟩), #[]⟩
@[reducible] noncomputable def o450 (P : Params) : Obj := ⟨(.type "code"), none, (.fields #[(.str (Str.ofString "scriptDataEscapedState") 1072), (.str (Str.ofString "HTMLTokenizer.scriptDataEscapedState") 1073), (.str (Str.ofString "/claim/cut.py") 1074), (.int 435 0), (.int 1 0), (.int 0 0), (.int 0 0), (.int 3 0), (.ref 445), (.bool true), (.int 181 0), (.ref 446), .none, (.ref 447), (.ref 448), (.ref 449), (.int 1076 0), (.int 435 0), (.str (Str.ofString "/claim/cut.py") 1077)]), #[]⟩
@[reducible] noncomputable def o451 (P : Params) : Obj := ⟨(.type "function"), none, (.func ⟨(Str.ofString "scriptDataEscapedState"), (Str.ofString "HTMLTokenizer.scriptDataEscapedState"), (dArgs (D2 21 27)), .stmts (dBody (D2 21 27)), (dScope (D2 21 27)), 3, [], .none, .none, .none, (.str (Str.ofString "html5lib._tokenizer") 827), none, (.ref 450), .none, 0⟩), #[]⟩
@[reducible] noncomputable def o452 (P : Params) : Obj := ⟨(.type "tuple"), none, (.seq #[] 0), #[]⟩
@[reducible] noncomputable def o453 (P : Params) : Obj := ⟨.none, none, (.fields #[]), #[]⟩
@[reducible] noncomputable def o454 (P : Params) : Obj := ⟨(.type "tuple"), none, (.seq #[(.str (Str.ofString "self") 1082)] 0), #[]⟩
@[reducible] noncomputable def o455 (P : Params) : Obj := ⟨(.type "tuple"), none, (.seq #[] 0), #[]⟩
@[reducible] noncomputable def o456 (P : Params) : Obj := ⟨.none, none, (.func ⟨(Str.ofString "scriptDataEscapedDashState"), (Str.ofString "HTMLTokenizer.scriptDataEscapedDashState"), (dArgs (D2 21 28)), .stmts (dBody (D2 21 28)), (dScope (D2 21 28)), 0, [], .none, .none, .none, .none, none, .none, .none, 0⟩), #[]⟩
@[reducible] noncomputable def o457 (P : Params) : Obj := ⟨(.type "code"), none, (.fields #[(.str (Str.ofString "scriptDataEscapedDashState") 1079), (.str (Str.ofString "HTMLTokenizer.scriptDataEscapedDashState") 1080), (.str (Str.ofString "/claim/cut.py") 1081), (.int 438 0), (.int 1 0), (.int 0 0), (.int 0 0), (.int 3 0), (.ref 452), (.bool true), (.int 181 0), (.ref 453), .none, (.ref 454), (.ref 455), (.ref 456), (.int 1083 0), (.int 438 0), (.str (Str.ofString "/claim/cut.py") 1084)]), #[]⟩
@[reducible] noncomputable def o458 (P : Params) : Obj := ⟨(.type "function"), none, (.func ⟨(Str.ofString "scriptDataEscapedDashState"), (Str.ofString "HTMLTokenizer.scriptDataEscapedDashState"), (dArgs (D2 21 28)), .stmts (dBody (D2 21 28)), (dScope (D2 21 28)), 3, [], .none, .none, .none, (.str (Str.ofString "html5lib._tokenizer") 827), none, (.ref 457), .none, 0⟩), #[]⟩
@[reducible] noncomputable def o459 (P : Params) : Obj := ⟨(.type "tuple"), none, (.seq #[] 0), #[]⟩
@[reducible] noncomputable def o460 (P : Params) : Obj := ⟨.none, none, (.fields #[]), #[]⟩
@[reducible] noncomputable def o461 (P : Params) : Obj := ⟨(.type "tuple"), none, (.seq #[(.str (Str.ofString "self") 1089)] 0), #[]⟩
@[reducible] noncomputable def o462 (P : Params) : Obj := ⟨(.type "tuple"), none, (.seq #[] 0), #[]⟩
@[reducible] noncomputable def o463 (P : Params) : Obj := ⟨.none, none, (.func ⟨(Str.ofString "scriptDataEscapedDashDashState"), (Str.ofString "HTMLTokenizer.scriptDataEscapedDashDashState"), (dArgs (D2 21 29)), .stmts (dBody (D2 21 29)), (dScope (D2 21 29)), 0, [], .none, .none, .none, .none, none, .none, .none, 0⟩), #[]⟩
@[reducible] noncomputable def o464 (P : Params) : Obj := ⟨(.type "code"), none, (.fields #[(.str (Str.ofString "scriptDataEscapedDashDashState") 1086), (.str (Str.ofString "HTMLTokenizer.scriptDataEscapedDashDashState") 1087), (.str (Str.ofString "/claim/cut.py") 1088), (.int 441 0), (.int 1 0), (.int 0 0), (.int 0 0), (.int 3 0), (.ref 459), (.bool true), (.int 181 0), (.ref 460), .none, (.ref 461), (.ref 462), (.ref 463), (.int 1090 0), (.int 441 0), (.str (Str.ofString "/claim/cut.py") 1091)]), #[]⟩
@[reducible] noncomputable def o465 (P : Params) : Obj := ⟨(.type "function"), none, (.func ⟨(Str.ofString "scriptDataEscapedDashDashState"), (Str.ofString "HTMLTokenizer.scriptDataEscapedDashDashState"), (dArgs (D2 21 29)), .stmts (dBody (D2 21 29)), (dScope (D2 21 29)), 3, [], .none, .none, .none, (.str (Str.ofString "html5lib._tokenizer") 827), none, (.ref 464), .none, 0⟩), #[]⟩
@[reducible] noncomputable def o466 (P : Params) : Obj := ⟨(.type "tuple"), none, (.seq #[] 0), #[]⟩
@[reducible] noncomputable def o467 (P : Params) : Obj := ⟨.none, none, (.fields #[]), #[]⟩
@[reducible] noncomputable def o468 (P : Params) : Obj := ⟨(.type "tuple"), none, (.seq #[(.str (Str.ofString "self") 1096)] 0), #[]⟩
@[reducible] noncomputable def o469 (P : Params) : Obj := ⟨(.type "tuple"), none, (.seq #[] 0), #[]⟩
@[reducible] noncomputable def o470 (P : Params) : Obj := ⟨.none, none, (.func ⟨(Str.ofString "scriptDataEscapedLessThanSignState"), (Str.ofString "HTMLTokenizer.scriptDataEscapedLessThanSignState"), (dArgs (D2 21 30)), .stmts (dBody (D2 21 30)), (dScope (D2 21 30)), 0, [], .none, .none, .none, .none, none, .none, .none, 0⟩), #[]⟩
@[reducible] noncomputable def o471 (P : Params) : Obj := ⟨(.type "code"), none, (.fields #[(.str (Str.ofString "scriptDataEscapedLessThanSignState") 1093), (.str (Str.ofString "HTMLTokenizer.scriptDataEscapedLessThanSignState") 1094), (.str (Str.ofString "/claim/cut.py") 1095), (.int 444 0), (.int 1 0), (.int 0 0), (.int 0 0), (.int 3 0), (.ref 466), (.bool true), (.int 181 0), (.ref 467), .none, (.ref 468), (.ref 469), (.ref 470), (.int 1097 0), (.int 444 0), (.str (Str.ofString "/claim/cut.py") 1098)]), #[]⟩
@[reducible] noncomputable def o472 (P : Params) : Obj := ⟨(.type "function"), none, (.func ⟨(Str.ofString "scriptDataEscapedLessThanSignState"), (Str.ofString "HTMLTokenizer.scriptDataEscapedLessThanSignState"), (dArgs (D2 21 30)), .stmts (dBody (D2 21 30)), (dScope (D2 21 30)), 3, [], .none, .none, .none, (.str (Str.ofString "html5lib._tokenizer") 827), none, (.ref 471), .none, 0⟩), #[]⟩
@[reducible] noncomputable def o473 (P : Params) : Obj := ⟨(.type "tuple"), none, (.seq #[] 0), #[]⟩
@[reducible] noncomputable def o474 (P : Params) : Obj := ⟨.none, none, (.fields #[]), #[]⟩
@[reducible] noncomputable def o475 (P : Params) : Obj := ⟨(.type "tuple"), none, (.seq #[(.str (Str.ofString "self") 1103)] 0), #[]⟩
@[reducible] noncomputable def o476 (P : Params) : Obj := ⟨(.type "tuple"), none, (.seq #[] 0), #[]⟩
@[reducible] noncomputable def o477 (P : Params) : Obj := ⟨.none, none, (.func ⟨(Str.ofString "scriptDataEscapedEndTagOpenState"), (Str.ofString "HTMLTokenizer.scriptDataEscapedEndTagOpenState"), (dArgs (D2 21 31)), .stmts (dBody (D2 21 31)), (dScope (D2 21 31)), 0, [], .none, .none, .none, .none, none, .none, .none, 0⟩), #[]⟩
@[reducible] noncomputable def o478 (P : Params) : Obj := ⟨(.type "code"), none, (.fields #[(.str (Str.ofString "scriptDataEscapedEndTagOpenState") 1100), (.str (Str.ofString "HTMLTokenizer.scriptDataEscapedEndTagOpenState") 1101), (.str (Str.ofString "/claim/cut.py") 1102), (.int 447 0), (.int 1 0), (.int 0 0), (.int 0 0), (.int 3 0), (.ref 473), (.bool true), (.int 181 0), (.ref 474), .none, (.ref 475), (.ref 476), (.ref 477), (.int 1104 0), (.int 447 0), (.str (Str.ofString "/claim/cut.py") 1105)]), #[]⟩
@[reducible] noncomputable def o479 (P : Params) : Obj := ⟨(.type "function"), none, (.func ⟨(Str.ofString "scriptDataEscapedEndTagOpenState"), (Str.ofString "HTMLTokenizer.scriptDataEscapedEndTagOpenState"), (dArgs (D2 21 31)), .stmts (dBody (D2 21 31)), (dScope (D2 21 31)), 3, [], .none, .none, .none, (.str (Str.ofString "html5lib._tokenizer") 827), none, (.ref 478), .none, 0⟩), #[]⟩
@[reducible] noncomputable def o480 (P : Params) : Obj := ⟨(.type "tuple"), none, (.seq #[] 0), #[]⟩
@[reducible] noncomputable def o481 (P : Params) : Obj := ⟨.none, none, (.fields #[]), #[]⟩
@[reducible] noncomputable def o482 (P : Params) : Obj := ⟨(.type "tuple"), none, (.seq #[(.str (Str.ofString "self") 1110)] 0), #[]⟩
@[reducible] noncomputable def o483 (P : Params) : Obj := ⟨(.type "tuple"), none, (.seq #[] 0), #[]⟩
@[reducible] noncomputable def o484 (P : Params) : Obj := ⟨.none, none, (.func ⟨(Str.ofString "scriptDataEscapedEndTagNameState"), (Str.ofString "HTMLTokenizer.scriptDataEscapedEndTagNameState"), (dArgs (D2 21 32)), .stmts (dBody (D2 21 32)), (dScope (D2 21 32)), 0, [], .none, .none, .none, .none, none, .none, .none, 0⟩), #[]⟩
@[reducible] noncomputable def o485 (P : Params) : Obj := ⟨(.type "code"), none, (.fields #[(.str (Str.ofString "scriptDataEscapedEndTagNameState") 1107), (.str (Str.ofString "HTMLTokenizer.scriptDataEscapedEndTagNameState") 1108), (.str (Str.ofString "/claim/cut.py") 1109), (.int 450 0), (.int 1 0), (.int 0 0), (.int 0 0), (.int 3 0), (.ref 480), (.bool true), (.int 181 0), (.ref 481), .none, (.ref 482), (.ref 483), (.ref 484), (.int 1111 0), (.int 450 0), (.str (Str.ofString "/claim/cut.py") 1112)]), #[]⟩
@[reducible] noncomputable def o486 (P : Params) : Obj := ⟨(.type "function"), none, (.func ⟨(Str.ofString "scriptDataEscapedEndTagNameState"), (Str.ofString "HTMLTokenizer.scriptDataEscapedEndTagNameState"), (dArgs (D2 21 32)), .stmts (dBody (D2 21 32)), (dScope (D2 21 32)), 3, [], .none, .none, .none, (.str (Str.ofString "html5lib._tokenizer") 827), none, (.ref 485), .none, 0⟩), #[]⟩
@[reducible] noncomputable def o487 (P : Params) : Obj := ⟨(.type "tuple"), none, (.seq #[] 0), #[]⟩
@[reducible] noncomputable def o488 (P : Params) : Obj := ⟨.none, none, (.fields #[]), #[]⟩
@[reducible] noncomputable def o489 (P : Params) : Obj := ⟨(.type "tuple"), none, (.seq #[(.str (Str.ofString "self") 1117)] 0), #[]⟩
@[reducible] noncomputable def o490 (P : Params) : Obj := ⟨(.type "tuple"), none, (.seq #[] 0), #[]⟩
@[reducible] noncomputable def o491 (P : Params) : Obj := ⟨.none, none, (.func ⟨(Str.ofString "scriptDataDoubleEscapeStartState"), (Str.ofString "HTMLTokenizer.scriptDataDoubleEscapeStartState"), (dArgs (D2 21 33)), .stmts (dBody (D2 21 33)), (dScope (D2 21 33)), 0, [], .none, .none, .none, .none, none, .none, .none, 0⟩), #[]⟩
@[reducible] noncomputable def o492 (P : Params) : Obj := ⟨(.type "code"), none, (.fields #[(.str (Str.ofString "scriptDataDoubleEscapeStartState") 1114), (.str (Str.ofString "HTMLTokenizer.scriptDataDoubleEscapeStartState") 1115), (.str (Str.ofString "/claim/cut.py") 1116), (.int 453 0), (.int 1 0), (.int 0 0), (.int 0 0), (.int 3 0), (.ref 487), (.bool true), (.int 181 0), (.ref 488), .none, (.ref 489), (.ref 490), (.ref 491), (.int 1118 0), (.int 453 0), (.str (Str.ofString "/claim/cut.py") 1119)]), #[]⟩
@[reducible] noncomputable def o493 (P : Params) : Obj := ⟨(.type "function"), none, (.func ⟨(Str.ofString "scriptDataDoubleEscapeStartState"), (Str.ofString "HTMLTokenizer.scriptDataDoubleEscapeStartState"), (dArgs (D2 21 33)), .stmts (dBody (D2 21 33)), (dScope (D2 21 33)), 3, [], .none, .none, .none, (.str (Str.ofString "html5lib._tokenizer") 827), none, (.ref 492), .none, 0⟩), #[]⟩
@[reducible] noncomputable def o494 (P : Params) : Obj := ⟨(.type "tuple"), none, (.seq #[] 0), #[]⟩
@[reducible] noncomputable def o495 (P : Params) : Obj := ⟨.none, none, (.fields #[]), #[]⟩
@[reducible] noncomputable def o496 (P : Params) : Obj := ⟨(.type "tuple"), none, (.seq #[(.str (Str.ofString "self") 1124)] 0), #[]⟩
@[reducible] noncomputable def o497 (P : Params) : Obj := ⟨(.type "tuple"), none, (.seq #[] 0), #[]⟩
@[reducible] noncomputable def o498 (P : Params) : Obj := ⟨.none, none, (.func ⟨(Str.ofString "scriptDataDoubleEscapedState"), (Str.ofString "HTMLTokenizer.scriptDataDoubleEscapedState"), (dArgs (D2 21 34)), .stmts (dBody (D2 21 34)), (dScope (D2 21 34)), 0, [], .none, .none, .none, .none, none, .none, .none, 0⟩), #[]⟩
@[reducible] noncomputable def o499 (P : Params) : Obj := ⟨(.type "code"), none, (.fields #[(.str (Str.ofString "scriptDataDoubleEscapedState") 1121), (.str (Str.ofString "HTMLTokenizer.scriptDataDoubleEscapedState") 1122), (.str (Str.ofString "/claim/cut.py") 1123), (.int 456 0), (.int 1 0), (.int 0 0), (.int 0 0), (.int 3 0), (.ref 494), (.bool true), (.int 181 0), (.ref 495), .none, (.ref 496), (.ref 497), (.ref 498), (.int 1125 0), (.int 456 0), (.str (Str.ofString "/claim/cut.py") 1126)]), #[]⟩
@[reducible] noncomputable def o500 (P : Params) : Obj := ⟨(.type "function"), none, (.func ⟨(Str.ofString "scriptDataDoubleEscapedState"), (Str.ofString "HTMLTokenizer.scriptDataDoubleEscapedState"), (dArgs (D2 21 34)), .stmts (dBody (D2 21 34)), (dScope (D2 21 34)), 3, [], .none, .none, .none, (.str (Str.ofString "html5lib._tokenizer") 827), none, (.ref 499), .none, 0⟩), #[]⟩
@[reducible] noncomputable def o501 (P : Params) : Obj := ⟨(.type "tuple"), none, (.seq #[] 0), #[]⟩
@[reducible] noncomputable def o502 (P : Params) : Obj := ⟨.none, none, (.fields #[]), #[]⟩
@[reducible] noncomputable def o503 (P : Params) : Obj := ⟨(.type "tuple"), none, (.seq #[(.str (Str.ofString "self") 1131)] 0), #[]⟩
@[reducible] noncomputable def o504 (P : Params) : Obj := ⟨(.type "tuple"), none, (.seq #[] 0), #[]⟩
@[reducible] noncomputable def o505 (P : Params) : Obj := ⟨.none, none, (.func ⟨(Str.ofString "scriptDataDoubleEscapedDashState"), (Str.ofString "HTMLTokenizer.scriptDataDoubleEscapedDashState"), (dArgs (D2 21 35)), .stmts (dBody (D2 21 35)), (dScope (D2 21 35)), 0, [], .none, .none, .none, .none, none, .none, .none, 0⟩), #[]⟩
@[reducible] noncomputable def o506 (P : Params) : Obj := ⟨(.type "code"), none, (.fields #[(.str (Str.ofString "scriptDataDoubleEscapedDashState") 1128), (.str (Str.ofString "HTMLTokenizer.scriptDataDoubleEscapedDashState") 1129), (.str (Str.ofString "/claim/cut.py") 1130), (.int 459 0), (.int 1 0), (.int 0 0), (.int 0 0), (.int 3 0), (.ref 501), (.bool true), (.int 181 0), (.ref 502), .none, (.ref 503), (.ref 504), (.ref 505), (.int 1132 0), (.int 459 0), (.str (Str.ofString "/claim/cut.py") 1133)]), #[]⟩
@[reducible] noncomputable def o507 (P : Params) : Obj := ⟨(.type "function"), none, (.func ⟨(Str.ofString "scriptDataDoubleEscapedDashState"), (Str.ofString "HTMLTokenizer.scriptDataDoubleEscapedDashState"), (dArgs (D2 21 35)), .stmts (dBody (D2 21 35)), (dScope (D2 21 35)), 3, [], .none, .none, .none, (.str (Str.ofString "html5lib._tokenizer") 827), none, (.ref 506), .none, 0⟩), #[]⟩
@[reducible] noncomputable def o508 (P : Params) : Obj := ⟨(.type "tuple"), none, (.seq #[] 0), #[]⟩
@[reducible] noncomputable def o509 (P : Params) : Obj := ⟨.none, none, (.fields #[]), #[]⟩
@[reducible] noncomputable def o510 (P : Params) : Obj := ⟨(.type "tuple"), none, (.seq #[(.str (Str.ofString "self") 1138)] 0), #[]⟩
@[reducible] noncomputable def o511 (P : Params) : Obj := ⟨(.type "tuple"), none, (.seq #[] 0), #[]⟩
@[reducible] noncomputable def o512 (P : Params) : Obj := ⟨.none, none, (.func ⟨(Str.ofString "scriptDataDoubleEscapedDashDashState"), (Str.ofString "HTMLTokenizer.scriptDataDoubleEscapedDashDashState"), (dArgs (D2 21 36)), .stmts (dBody (D2 21 36)), (dScope (D2 21 36)), 0, [], .none, .none, .none, .none, none, .none, .none, 0⟩), #[]⟩
@[reducible] noncomputable def o513 (P : Params) : Obj := ⟨(.type "code"), none, (.fields #[(.str (Str.ofString "scriptDataDoubleEscapedDashDashState") 1135), (.str (Str.ofString "HTMLTokenizer.scriptDataDoubleEscapedDashDashState") 1136), (.str (Str.ofString "/claim/cut.py") 1137), (.int 462 0), (.int 1 0), (.int 0 0), (.int 0 0), (.int 3 0), (.ref 508), (.bool true), (.int 181 0), (.ref 509), .none, (.ref 510), (.ref 511), (.ref 512), (.int 1139 0), (.int 462 0), (.str (Str.ofString "/claim/cut.py") 1140)]), #[]⟩
@[reducible] noncomputable def o514 (P : Params) : Obj := ⟨(.type "function"), none, (.func ⟨(Str.ofString "scriptDataDoubleEscapedDashDashState"), (Str.ofString "HTMLTokenizer.scriptDataDoubleEscapedDashDashState"), (dArgs (D2 21 36)), .stmts (dBody (D2 21 36)), (dScope (D2 21 36)), 3, [], .none, .none, .none, (.str (Str.ofString "html5lib._tokenizer") 827), none, (.ref 513), .none, 0⟩), #[]⟩
@[reducible] noncomputable def o515 (P : Params) : Obj := ⟨(.type "tuple"), none, (.seq #[] 0), #[]⟩
@[reducible] noncomputable def o516 (P : Params) : Obj := ⟨.none, none, (.fields #[]), #[]⟩
@[reducible] noncomputable def o517 (P : Params) : Obj := ⟨(.type "tuple"), none, (.seq #[(.str (Str.ofString "self") 1145)] 0), #[]⟩
@[reducible] noncomputable def o518 (P : Params) : Obj := ⟨(.type "tuple"), none, (.seq #[] 0), #[]⟩
@[reducible] noncomputable def o519 (P : Params) : Obj := ⟨.none, none, (.func ⟨(Str.ofString "scriptDataDoubleEscapedLessThanSignState"), (Str.ofString "HTMLTokenizer.scriptDataDoubleEscapedLessThanSignState"), (dArgs (D2 21 37)), .stmts (dBody (D2 21 37)), (dScope (D2 21 37)), 0, [], .none, .none, .none, .none, none, .none, .none, 0⟩), #[]⟩
@[reducible] noncomputable def o520 (P : Params) : Obj := ⟨(.type "code"), none, (.fields #[(.str (Str.ofString "scriptDataDoubleEscapedLessThanSignState") 1142), (.str (Str.ofString "HTMLTokenizer.scriptDataDoubleEscapedLessThanSignState") 1143), (.str (Str.ofString "/claim/cut.py") 1144), (.int 465 0), (.int 1 0), (.int 0 0), (.int 0 0), (.int 3 0), (.ref 515), (.bool true), (.int 181 0), (.ref 516), .none, (.ref 517), (.ref 518), (.ref 519), (.int 1146 0), (.int 465 0), (.str (Str.ofString "/claim/cut.py") 1147)]), #[]⟩
@[reducible] noncomputable def o521 (P : Params) : Obj := ⟨(.type "function"), none, (.func ⟨(Str.ofString "scriptDataDoubleEscapedLessThanSignState"), (Str.ofString "HTMLTokenizer.scriptDataDoubleEscapedLessThanSignState"), (dArgs (D2 21 37)), .stmts (dBody (D2 21 37)), (dScope (D2 21 37)), 3, [], .none, .none, .none, (.str (Str.ofString "html5lib._tokenizer") 827), none, (.ref 520), .none, 0⟩), #[]⟩
@[reducible] noncomputable def o522 (P : Params) : Obj := ⟨(.type "tuple"), none, (.seq #[] 0), #[]⟩
@[reducible] noncomputable def o523 (P : Params) : Obj := ⟨.none, none, (.fields #[]), #[]⟩
@[reducible] noncomputable def o524 (P : Params) : Obj := ⟨(.type "tuple"), none, (.seq #[(.str (Str.ofString "self") 1152)] 0), #[]⟩
@[reducible] noncomputable def o525 (P : Params) : Obj := ⟨(.type "tuple"), none, (.seq #[] 0), #[]⟩
@[reducible] noncomputable def o526 (P : Params) : Obj := ⟨.none, none, (.func ⟨(Str.ofString "scriptDataDoubleEscapeEndState"), (Str.ofString "HTMLTokenizer.scriptDataDoubleEscapeEndState"), (dArgs (D2 21 38)), .stmts (dBody (D2 21 38)), (dScope (D2 21 38)), 0, [], .none, .none, .none, .none, none, .none, .none, 0⟩), #[]⟩
@[reducible] noncomputable def o527 (P : Params) : Obj := ⟨(.type "code"), none, (.fields #[(.str (Str.ofString "scriptDataDoubleEscapeEndState") 1149), (.str (Str.ofString "HTMLTokenizer.scriptDataDoubleEscapeEndState") 1150), (.str (Str.ofString "/claim/cut.py") 1151), (.int 468 0), (.int 1 0), (.int 0 0), (.int 0 0), (.int 3 0), (.ref 522), (.bool true), (.int 181 0), (.ref 523), .none, (.ref 524), (.ref 525), (.ref 526), (.int 1153 0), (.int 468 0), (.str (Str.ofString "/claim/cut.py") 1154)]), #[]⟩
@[reducible] noncomputable def o528 (P : Params) : Obj := ⟨(.type "function"), none, (.func ⟨(Str.ofString "scriptDataDoubleEscapeEndState"), (Str.ofString "HTMLTokenizer.scriptDataDoubleEscapeEndState"), (dArgs (D2 21 38)), .stmts (dBody (D2 21 38)), (dScope (D2 21 38)), 3, [], .none, .none, .none, (.str (Str.ofString "html5lib._tokenizer") 827), none, (.ref 527), .none, 0⟩), #[]⟩
@[reducible] noncomputable def o529 (P : Params) : Obj := ⟨(.type "tuple"), none, (.seq #[] 0), #[]⟩
@[reducible] noncomputable def o530 (P : Params) : Obj := ⟨.none, none, (.fields #[]), #[]⟩
@[reducible] noncomputable def o531 (P : Params) : Obj := ⟨(.type "tuple"), none, (.seq #[(.str (Str.ofString "self") 1159), (.str (Str.ofString "data") 1160)] 0), #[]⟩
@[reducible] noncomputable def o532 (P : Params) : Obj := ⟨(.type "tuple"), none, (.seq #[] 0), #[]⟩
@[reducible] noncomputable def o533 (P : Params) : Obj := ⟨.none, none, (.func ⟨(Str.ofString "beforeAttributeNameState"), (Str.ofString "HTMLTokenizer.beforeAttributeNameState"), (dArgs (D2 21 39)), .stmts (dBody (D2 21 39)), (dScope (D2 21 39)), 0, [], .none, .none, .none, .none, none, .none, .none, 0⟩), #[]⟩
@[reducible] noncomputable def o534 (P : Params) : Obj := ⟨(.type "code"), none, (.fields #[(.str (Str.ofString "beforeAttributeNameState") 1156), (.str (Str.ofString "HTMLTokenizer.beforeAttributeNameState") 1157), (.str (Str.ofString "/claim/cut.py") 1158), (.int 471 0), (.int 1 0), (.int 0 0), (.int 0 0), (.int 3 0), (.ref 529), (.bool true), (.int 181 0), (.ref 530), .none, (.ref 531), (.ref 532), (.ref 533), (.int 1161 0), (.int 471 0), (.str (Str.ofString "/claim/cut.py") 1162)]), #[]⟩
@[reducible] noncomputable def o535 (P : Params) : Obj := ⟨(.type "function"), none, (.func ⟨(Str.ofString "beforeAttributeNameState"), (Str.ofString "HTMLTokenizer.beforeAttributeNameState"), (dArgs (D2 21 39)), .stmts (dBody (D2 21 39)), (dScope (D2 21 39)), 3, [], .none, .none, .none, (.str (Str.ofString "html5lib._tokenizer") 827), none, (.ref 534), .none, 0⟩), #[]⟩
@[reducible] noncomputable def o536 (P : Params) : Obj := ⟨(.type "tuple"), none, (.seq #[] 0), #[]⟩
@[reducible] noncomputable def o537 (P : Params) : Obj := ⟨.none, none, (.fields #[]), #[]⟩
@[reducible] noncomputable def o538 (P : Params) : Obj := ⟨(.type "tuple"), none, (.seq #[(.str (Str.ofString "self") 1167), (.str (Str.ofString "data") 1168), (.str (Str.ofString "leavingThisState") 1169), (.str (Str.ofString "emitToken") 1170), (.str (Str.ofString "name") 1171), (.str (Str.ofString "_") 1172)] 0), #[]⟩
@[reducible] noncomputable def o539 (P : Params) : Obj := ⟨(.type "tuple"), none, (.seq #[] 0), #[]⟩
@[reducible] noncomputable def o540 (P : Params) : Obj := ⟨.none, none, (.func ⟨(Str.ofString "attributeNameState"), (Str.ofString "HTMLTokenizer.attributeNameState"), (dArgs (D2 21 40)), .stmts (dBody (D2 21 40)), (dScope (D2 21 40)), 0, [], .none, .none, .none, .none, none, .none, .none, 0⟩), #[]⟩
@[reducible] noncomputable def o541 (P : Params) : Obj := ⟨(.type "code"), none, (.fields #[(.str (Str.ofString "attributeNameState") 1164), (.str (Str.ofString "HTMLTokenizer.attributeNameState") 1165), (.str (Str.ofString "/claim/cut.py") 1166), (.int 498 0), (.int 1 0), (.int 0 0), (.int 0 0), (.int 3 0), (.ref 536), (.bool true), (.int 181 0), (.ref 537), .none, (.ref 538), (.ref 539), (.ref 540), (.int 1173 0), (.int 498 0), (.str (Str.ofString "/claim/cut.py") 1174)]), #[]⟩
@[reducible] noncomputable def o542 (P : Params) : Obj := ⟨(.type "function"), none, (.func ⟨(Str.ofString "attributeNameState"), (Str.ofString "HTMLTokenizer.attributeNameState"), (dArgs (D2 21 40)), .stmts (dBody (D2 21 40)), (dScope (D2 21 40)), 3, [], .none, .none, .none, (.str (Str.ofString "html5lib._tokenizer") 827), none, (.ref 541), .none, 0⟩), #[]⟩
@[reducible] noncomputable def o543 (P : Params) : Obj := ⟨(.type "tuple"), none, (.seq #[] 0), #[]⟩
@[reducible] noncomputable def o544 (P : Params) : Obj := ⟨.none, none, (.fields #[]), #[]⟩
@[reducible] noncomputable def o545 (P : Params) : Obj := ⟨(.type "tuple"), none, (.seq #[(.str (Str.ofString "self") 1179), (.str (Str.ofString "data") 1180)] 0), #[]⟩
@[reducible] noncomputable def o546 (P : Params) : Obj := ⟨(.type "tuple"), none, (.seq #[] 0), #[]⟩
@[reducible] noncomputable def o547 (P : Params) : Obj := ⟨.none, none, (.func ⟨(Str.ofString "afterAttributeNameState"), (Str.ofString "HTMLTokenizer.afterAttributeNameState"), (dArgs (D2 21 41)), .stmts (dBody (D2 21 41)), (dScope (D2 21 41)), 0, [], .none, .none, .none, .none, none, .none, .none, 0⟩), #[]⟩
@[reducible] noncomputable def o548 (P : Params) : Obj := ⟨(.type "code"), none, (.fields #[(.str (Str.ofString "afterAttributeNameState") 1176), (.str (Str.ofString "HTMLTokenizer.afterAttributeNameState") 1177), (.str (Str.ofString "/claim/cut.py") 1178), (.int 537 0), (.int 1 0), (.int 0 0), (.int 0 0), (.int 3 0), (.ref 543), (.bool true), (.int 181 0), (.ref 544), .none, (.ref 545), (.ref 546), (.ref 547), (.int 1181 0), (.int 537 0), (.str (Str.ofString "/claim/cut.py") 1182)]), #[]⟩
@[reducible] noncomputable def o549 (P : Params) : Obj := ⟨(.type "function"), none, (.func ⟨(Str.ofString "afterAttributeNameState"), (Str.ofString "HTMLTokenizer.afterAttributeNameState"), (dArgs (D2 21 41)), .stmts (dBody (D2 21 41)), (dScope (D2 21 41)), 3, [], .none, .none, .none, (.str (Str.ofString "html5lib._tokenizer") 827), none, (.ref 548), .none, 0⟩), #[]⟩
@[reducible] noncomputable def o550 (P : Params) : Obj := ⟨(.type "tuple"), none, (.seq #[] 0), #[]⟩
@[reducible] noncomputable def o551 (P : Params) : Obj := ⟨.none, none, (.fields #[]), #[]⟩
@[reducible] noncomputable def o552 (P : Params) : Obj := ⟨(.type "tuple"), none, (.seq #[(.str (Str.ofString "self") 1187), (.str (Str.ofString "data") 1188)] 0), #[]⟩
@[reducible] noncomputable def o553 (P : Params) : Obj := ⟨(.type "tuple"), none, (.seq #[] 0), #[]⟩
@[reducible] noncomputable def o554 (P : Params) : Obj := ⟨.none, none, (.func ⟨(Str.ofString "beforeAttributeValueState"), (Str.ofString "HTMLTokenizer.beforeAttributeValueState"), (dArgs (D2 21 42)), .stmts (dBody (D2 21 42)), (dScope (D2 21 42)), 0, [], .none, .none, .none, .none, none, .none, .none, 0⟩), #[]⟩
@[reducible] noncomputable def o555 (P : Params) : Obj := ⟨(.type "code"), none, (.fields #[(.str (Str.ofString "beforeAttributeValueState") 1184), (.str (Str.ofString "HTMLTokenizer.beforeAttributeValueState") 1185), (.str (Str.ofString "/claim/cut.py") 1186), (.int 566 0), (.int 1 0), (.int 0 0), (.int 0 0), (.int 3 0), (.ref 550), (.bool true), (.int 181 0), (.ref 551), .none, (.ref 552), (.ref 553), (.ref 554), (.int 1189 0), (.int 566 0), (.str (Str.ofString "/claim/cut.py") 1190)]), #[]⟩
@[reducible] noncomputable def o556 (P : Params) : Obj := ⟨(.type "function"), none, (.func ⟨(Str.ofString "beforeAttributeValueState"), (Str.ofString "HTMLTokenizer.beforeAttributeValueState"), (dArgs (D2 21 42)), .stmts (dBody (D2 21 42)), (dScope (D2 21 42)), 3, [], .none, .none, .none, (.str (Str.ofString "html5lib._tokenizer") 827), none, (.ref 555), .none, 0⟩), #[]⟩
@[reducible] noncomputable def o557 (P : Params) : Obj := ⟨(.type "tuple"), none, (.seq #[] 0), #[]⟩
@[reducible] noncomputable def o558 (P : Params) : Obj := ⟨.none, none, (.fields #[]), #[]⟩
@[reducible] noncomputable def o559 (P : Params) : Obj := ⟨(.type "tuple"), none, (.seq #[(.str (Str.ofString "self") 1195), (.str (Str.ofString "data") 1196)] 0), #[]⟩
@[reducible] noncomputable def o560 (P : Params) : Obj := ⟨(.type "tuple"), none, (.seq #[] 0), #[]⟩
@[reducible] noncomputable def o561 (P : Params) : Obj := ⟨.none, none, (.func ⟨(Str.ofString "attributeValueDoubleQuotedState"), (Str.ofString "HTMLTokenizer.attributeValueDoubleQuotedState"), (dArgs (D2 21 43)), .stmts (dBody (D2 21 43)), (dScope (D2 21 43)), 0, [], .none, .none, .none, .none, none, .none, .none, 0⟩), #[]⟩
@[reducible] noncomputable def o562 (P : Params) : Obj := ⟨(.type "code"), none, (.fields #[(.str (Str.ofString "attributeValueDoubleQuotedState") 1192), (.str (Str.ofString "HTMLTokenizer.attributeValueDoubleQuotedState") 1193), (.str (Str.ofString "/claim/cut.py") 1194), (.int 596 0), (.int 1 0), (.int 0 0), (.int 0 0), (.int 3 0), (.ref 557), (.bool true), (.int 181 0), (.ref 558), .none, (.ref 559), (.ref 560), (.ref 561), (.int 1197 0), (.int 596 0), (.str (Str.ofString "/claim/cut.py") 1198)]), #[]⟩
@[reducible] noncomputable def o563 (P : Params) : Obj := ⟨(.type "function"), none, (.func ⟨(Str.ofString "attributeValueDoubleQuotedState"), (Str.ofString "HTMLTokenizer.attributeValueDoubleQuotedState"), (dArgs (D2 21 43)), .stmts (dBody (D2 21 43)), (dScope (D2 21 43)), 3, [], .none, .none, .none, (.str (Str.ofString "html5lib._tokenizer") 827), none, (.ref 562), .none, 0⟩), #[]⟩
@[reducible] noncomputable def o564 (P : Params) : Obj := ⟨(.type "tuple"), none, (.seq #[] 0), #[]⟩
@[reducible] noncomputable def o565 (P : Params) : Obj := ⟨.none, none, (.fields #[]), #[]⟩
@[reducible] noncomputable def o566 (P : Params) : Obj := ⟨(.type "tuple"), none, (.seq #[(.str (Str.ofString "self") 1203), (.str (Str.ofString "data") 1204)] 0), #[]⟩
@[reducible] noncomputable def o567 (P : Params) : Obj := ⟨(.type "tuple"), none, (.seq #[] 0), #[]⟩
@[reducible] noncomputable def o568 (P : Params) : Obj := ⟨.none, none, (.func ⟨(Str.ofString "attributeValueSingleQuotedState"), (Str.ofString "HTMLTokenizer.attributeValueSingleQuotedState"), (dArgs (D2 21 44)), .stmts (dBody (D2 21 44)), (dScope (D2 21 44)), 0, [], .none, .none, .none, .none, none, .none, .none, 0⟩), #[]⟩
@[reducible] noncomputable def o569 (P : Params) : Obj := ⟨(.type "code"), none, (.fields #[(.str (Str.ofString "attributeValueSingleQuotedState") 1200), (.str (Str.ofString "HTMLTokenizer.attributeValueSingleQuotedState") 1201), (.str (Str.ofString "/claim/cut.py") 1202), (.int 612 0), (.int 1 0), (.int 0 0), (.int 0 0), (.int 3 0), (.ref 564), (.bool true), (.int 181 0), (.ref 565), .none, (.ref 566), (.ref 567), (.ref 568), (.int 1205 0), (.int 612 0), (.str (Str.ofString "/claim/cut.py") 1206)]), #[]⟩
@[reducible] noncomputable def o570 (P : Params) : Obj := ⟨(.type "function"), none, (.func ⟨(Str.ofString "attributeValueSingleQuotedState"), (Str.ofString "HTMLTokenizer.attributeValueSingleQuotedState"), (dArgs (D2 21 44)), .stmts (dBody (D2 21 44)), (dScope (D2 21 44)), 3, [], .none, .none, .none, (.str (Str.ofString "html5lib._tokenizer") 827), none, (.ref 569), .none, 0⟩), #[]⟩
@[reducible] noncomputable def o571 (P : Params) : Obj := ⟨(.type "tuple"), none, (.seq #[] 0), #[]⟩
@[reducible] noncomputable def o572 (P : Params) : Obj := ⟨.none, none, (.fields #[]), #[]⟩
@[reducible] noncomputable def o573 (P : Params) : Obj := ⟨(.type "tuple"), none, (.seq #[(.str (Str.ofString "self") 1211), (.str (Str.ofString "data") 1212)] 0), #[]⟩
@[reducible] noncomputable def o574 (P : Params) : Obj := ⟨(.type "tuple"), none, (.seq #[] 0), #[]⟩
@[reducible] noncomputable def o575 (P : Params) : Obj := ⟨.none, none, (.func ⟨(Str.ofString "attributeValueUnQuotedState"), (Str.ofString "HTMLTokenizer.attributeValueUnQuotedState"), (dArgs (D2 21 45)), .stmts (dBody (D2 21 45)), (dScope (D2 21 45)), 0, [], .none, .none, .none, .none, none, .none, .none, 0⟩), #[]⟩
@[reducible] noncomputable def o576 (P : Params) : Obj := ⟨(.type "code"), none, (.fields #[(.str (Str.ofString "attributeValueUnQuotedState") 1208), (.str (Str.ofString "HTMLTokenizer.attributeValueUnQuotedState") 1209), (.str (Str.ofString "/claim/cut.py") 1210), (.int 628 0), (.int 1 0), (.int 0 0), (.int 0 0), (.int 3 0), (.ref 571), (.bool true), (.int 181 0), (.ref 572), .none, (.ref 573), (.ref 574), (.ref 575), (.int 1213 0), (.int 628 0), (.str (Str.ofString "/claim/cut.py") 1214)]), #[]⟩
@[reducible] noncomputable def o577 (P : Params) : Obj := ⟨(.type "function"), none, (.func ⟨(Str.ofString "attributeValueUnQuotedState"), (Str.ofString "HTMLTokenizer.attributeValueUnQuotedState"), (dArgs (D2 21 45)), .stmts (dBody (D2 21 45)), (dScope (D2 21 45)), 3, [], .none, .none, .none, (.str (Str.ofString "html5lib._tokenizer") 827), none, (.ref 576), .none, 0⟩), #[]⟩
@[reducible] noncomputable def o578 (P : Params) : Obj := ⟨(.type "tuple"), none, (.seq #[] 0), #[]⟩
@[reducible] noncomputable def o579 (P : Params) : Obj := ⟨.none, none, (.fields #[]), #[]⟩
@[reducible] noncomputable def o580 (P : Params) : Obj := ⟨(.type "tuple"), none, (.seq #[(.str (Str.ofString "self") 1219), (.str (Str.ofString "data") 1220)] 0), #[]⟩
@[reducible] noncomputable def o581 (P : Params) : Obj := ⟨(.type "tuple"), none, (.seq #[] 0), #[]⟩
@[reducible] noncomputable def o582 (P : Params) : Obj := ⟨.none, none, (.func ⟨(Str.ofString "afterAttributeValueState"), (Str.ofString "HTMLTokenizer.afterAttributeValueState"), (dArgs (D2 21 46)), .stmts (dBody (D2 21 46)), (dScope (D2 21 46)), 0, [], .none, .none, .none, .none, none, .none, .none, 0⟩), #[]⟩
@[reducible] noncomputable def o583 (P : Params) : Obj := ⟨(.type "code"), none, (.fields #[(.str (Str.ofString "afterAttributeValueState") 1216), (.str (Str.ofString "HTMLTokenizer.afterAttributeValueState") 1217), (.str (Str.ofString "/claim/cut.py") 1218), (.int 649 0), (.int 1 0), (.int 0 0), (.int 0 0), (.int 3 0), (.ref 578), (.bool true), (.int 181 0), (.ref 579), .none, (.ref 580), (.ref 581), (.ref 582), (.int 1221 0), (.int 649 0), (.str (Str.ofString "/claim/cut.py") 1222)]), #[]⟩
@[reducible] noncomputable def o584 (P : Params) : Obj := ⟨(.type "function"), none, (.func ⟨(Str.ofString "afterAttributeValueState"), (Str.ofString "HTMLTokenizer.afterAttributeValueState"), (dArgs (D2 21 46)), .stmts (dBody (D2 21 46)), (dScope (D2 21 46)), 3, [], .none, .none, .none, (.str (Str.ofString "html5lib._tokenizer") 827), none, (.ref 583), .none, 0⟩), #[]⟩
@[reducible] noncomputable def o585 (P : Params) : Obj := ⟨(.type "tuple"), none, (.seq #[] 0), #[]⟩
@[reducible] noncomputable def o586 (P : Params) : Obj := ⟨.none, none, (.fields #[]), #[]⟩
@[reducible] noncomputable def o587 (P : Params) : Obj := ⟨(.type "tuple"), none, (.seq #[(.str (Str.ofString "self") 1227), (.str (Str.ofString "data") 1228)] 0), #[]⟩
@[reducible] noncomputable def o588 (P : Params) : Obj := ⟨(.type "tuple"), none, (.seq #[] 0), #[]⟩
@[reducible] noncomputable def o589 (P : Params) : Obj := ⟨.none, none, (.func ⟨(Str.ofString "selfClosingStartTagState"), (Str.ofString "HTMLTokenizer.selfClosingStartTagState"), (dArgs (D2 21 47)), .stmts (dBody (D2 21 47)), (dScope (D2 21 47)), 0, [], .none, .none, .none, .none, none, .none, .none, 0⟩), #[]⟩
@[reducible] noncomputable def o590 (P : Params) : Obj := ⟨(.type "code"), none, (.fields #[(.str (Str.ofString "selfClosingStartTagState") 1224), (.str (Str.ofString "HTMLTokenizer.selfClosingStartTagState") 1225), (.str (Str.ofString "/claim/cut.py") 1226), (.int 667 0), (.int 1 0), (.int 0 0), (.int 0 0), (.int 3 0), (.ref 585), (.bool true), (.int 181 0), (.ref 586), .none, (.ref 587), (.ref 588), (.ref 589), (.int 1229 0), (.int 667 0), (.str (Str.ofString "/claim/cut.py") 1230)]), #[]⟩
@[reducible] noncomputable def o591 (P : Params) : Obj := ⟨(.type "function"), none, (.func ⟨(Str.ofString "selfClosingStartTagState"), (Str.ofString "HTMLTokenizer.selfClosingStartTagState"), (dArgs (D2 21 47)), .stmts (dBody (D2 21 47)), (dScope (D2 21 47)), 3, [], .none, .none, .none, (.str (Str.ofString "html5lib._tokenizer") 827), none, (.ref 590), .none, 0⟩), #[]⟩
@[reducible] noncomputable def o592 (P : Params) : Obj := ⟨(.type "tuple"), none, (.seq #[] 0), #[]⟩
@[reducible] noncomputable def o593 (P : Params) : Obj := ⟨.none, none, (.fields #[]), #[]⟩
@[reducible] noncomputable def o594 (P : Params) : Obj := ⟨(.type "tuple"), none, (.seq #[(.str (Str.ofString "self") 1235), (.str (Str.ofString "data") 1236)] 0), #[]⟩
@[reducible] noncomputable def o595 (P : Params) : Obj := ⟨(.type "tuple"), none, (.seq #[] 0), #[]⟩
@[reducible] noncomputable def o596 (P : Params) : Obj := ⟨.none, none, (.func ⟨(Str.ofString "bogusCommentState"), (Str.ofString "HTMLTokenizer.bogusCommentState"), (dArgs (D2 21 48)), .stmts (dBody (D2 21 48)), (dScope (D2 21 48)), 0, [], .none, .none, .none, .none, none, .none, .none, 0⟩), #[]⟩
@[reducible] noncomputable def o597 (P : Params) : Obj := ⟨(.type "code"), none, (.fields #[(.str (Str.ofString "bogusCommentState") 1232), (.str (Str.ofString "HTMLTokenizer.bogusCommentState") 1233), (.str (Str.ofString "/claim/cut.py") 1234), (.int 682 0), (.int 1 0), (.int 0 0), (.int 0 0), (.int 3 0), (.ref 592), (.bool true), (.int 181 0), (.ref 593), .none, (.ref 594), (.ref 595), (.ref 596), (.int 1237 0), (.int 682 0), (.str (Str.ofString "/claim/cut.py") 1238)]), #[]⟩
@[reducible] noncomputable def o598 (P : Params) : Obj := ⟨(.type "function"), none, (.func ⟨(Str.ofString "bogusCommentState"), (Str.ofString "HTMLTokenizer.bogusCommentState"), (dArgs (D2 21 48)), .stmts (dBody (D2 21 48)), (dScope (D2 21 48)), 3, [], .none, .none, .none, (.str (Str.ofString "html5lib._tokenizer") 827), none, (.ref 597), .none, 0⟩), #[]⟩
@[reducible] noncomputable def o599 (P : Params) : Obj := ⟨(.type "tuple"), none, (.seq #[] 0), #[]⟩
@[reducible] noncomputable def o600 (P : Params) : Obj := ⟨.none, none, (.fields #[]), #[]⟩
@[reducible] noncomputable def o601 (P : Params) : Obj := ⟨(.type "tuple"), none, (.seq #[(.str (Str.ofString "self") 1243), (.str (Str.ofString "charStack") 1244), (.str (Str.ofString "matched") 1245), (.str (Str.ofString "expected") 1246)] 0), #[]⟩
@[reducible] noncomputable def o602 (P : Params) : Obj := ⟨(.type "tuple"), none, (.seq #[] 0), #[]⟩
@[reducible] noncomputable def o603 (P : Params) : Obj := ⟨.none, none, (.func ⟨(Str.ofString "markupDeclarationOpenState"), (Str.ofString "HTMLTokenizer.markupDeclarationOpenState"), (dArgs (D2 21 49)), .stmts (dBody (D2 21 49)), (dScope (D2 21 49)), 0, [], .none, .none, .none, .none, none, .none, .none, 0⟩), #[]⟩
@[reducible] noncomputable def o604 (P : Params) : Obj := ⟨(.type "code"), none, (.fields #[(.str (Str.ofString "markupDeclarationOpenState") 1240), (.str (Str.ofString "HTMLTokenizer.markupDeclarationOpenState") 1241), (.str (Str.ofString "/claim/cut.py") 1242), (.int 690 0), (.int 1 0), (.int 0 0), (.int 0 0), (.int 3 0), (.ref 599), (.bool true), (.int 181 0), (.ref 600), .none, (.ref 601), (.ref 602), (.ref 603), (.int 1247 0), (.int 690 0), (.str (Str.ofString "/claim/cut.py") 1248)]), #[]⟩
@[reducible] noncomputable def o605 (P : Params) : Obj := ⟨(.type "function"), none, (.func ⟨(Str.ofString "markupDeclarationOpenState"), (Str.ofString "HTMLTokenizer.markupDeclarationOpenState"), (dArgs (D2 21 49)), .stmts (dBody (D2 21 49)), (dScope (D2 21 49)), 3, [], .none, .none, .none, (.str (Str.ofString "html5lib._tokenizer") 827), none, (.ref 604), .none, 0⟩), #[]⟩
@[reducible] noncomputable def o606 (P : Params) : Obj := ⟨(.type "tuple"), none, (.seq #[] 0), #[]⟩
@[reducible] noncomputable def o607 (P : Params) : Obj := ⟨.none, none, (.fields #[]), #[]⟩
@[reducible] noncomputable def o608 (P : Params) : Obj := ⟨(.type "tuple"), none, (.seq #[(.str (Str.ofString "self") 1253), (.str (Str.ofString "data") 1254)] 0), #[]⟩
@[reducible] noncomputable def o609 (P : Params) : Obj := ⟨(.type "tuple"), none, (.seq #[] 0), #[]⟩
@[reducible] noncomputable def o610 (P : Params) : Obj := ⟨.none, none, (.func ⟨(Str.ofString "commentStartState"), (Str.ofString "HTMLTokenizer.commentStartState"), (dArgs (D2 21 50)), .stmts (dBody (D2 21 50)), (dScope (D2 21 50)), 0, [], .none, .none, .none, .none, none, .none, .none, 0⟩), #[]⟩
@[reducible] noncomputable def o611 (P : Params) : Obj := ⟨(.type "code"), none, (.fields #[(.str (Str.ofString "commentStartState") 1250), (.str (Str.ofString "HTMLTokenizer.commentStartState") 1251), (.str (Str.ofString "/claim/cut.py") 1252), (.int 715 0), (.int 1 0), (.int 0 0), (.int 0 0), (.int 3 0), (.ref 606), (.bool true), (.int 181 0), (.ref 607), .none, (.ref 608), (.ref 609), (.ref 610), (.int 1255 0), (.int 715 0), (.str (Str.ofString "/claim/cut.py") 1256)]), #[]⟩
@[reducible] noncomputable def o612 (P : Params) : Obj := ⟨(.type "function"), none, (.func ⟨(Str.ofString "commentStartState"), (Str.ofString "HTMLTokenizer.commentStartState"), (dArgs (D2 21 50)), .stmts (dBody (D2 21 50)), (dScope (D2 21 50)), 3, [], .none, .none, .none, (.str (Str.ofString "html5lib._tokenizer") 827), none, (.ref 611), .none, 0⟩), #[]⟩
@[reducible] noncomputable def o613 (P : Params) : Obj := ⟨(.type "tuple"), none, (.seq #[] 0), #[]⟩
@[reducible] noncomputable def o614 (P : Params) : Obj := ⟨.none, none, (.fields #[]), #[]⟩
@[reducible] noncomputable def o615 (P : Params) : Obj := ⟨(.type "tuple"), none, (.seq #[(.str (Str.ofString "self") 1261), (.str (Str.ofString "data") 1262)] 0), #[]⟩
@[reducible] noncomputable def o616 (P : Params) : Obj := ⟨(.type "tuple"), none, (.seq #[] 0), #[]⟩
@[reducible] noncomputable def o617 (P : Params) : Obj := ⟨.none, none, (.func ⟨(Str.ofString "commentStartDashState"), (Str.ofString "HTMLTokenizer.commentStartDashState"), (dArgs (D2 21 51)), .stmts (dBody (D2 21 51)), (dScope (D2 21 51)), 0, [], .none, .none, .none, .none, none, .none, .none, 0⟩), #[]⟩
@[reducible] noncomputable def o618 (P : Params) : Obj := ⟨(.type "code"), none, (.fields #[(.str (Str.ofString "commentStartDashState") 1258), (.str (Str.ofString "HTMLTokenizer.commentStartDashState") 1259), (.str (Str.ofString "/claim/cut.py") 1260), (.int 735 0), (.int 1 0), (.int 0 0), (.int 0 0), (.int 3 0), (.ref 613), (.bool true), (.int 181 0), (.ref 614), .none, (.ref 615), (.ref 616), (.ref 617), (.int 1263 0), (.int 735 0), (.str (Str.ofString "/claim/cut.py") 1264)]), #[]⟩
@[reducible] noncomputable def o619 (P : Params) : Obj := ⟨(.type "function"), none, (.func ⟨(Str.ofString "commentStartDashState"), (Str.ofString "HTMLTokenizer.commentStartDashState"), (dArgs (D2 21 51)), .stmts (dBody (D2 21 51)), (dScope (D2 21 51)), 3, [], .none, .none, .none, (.str (Str.ofString "html5lib._tokenizer") 827), none, (.ref 618), .none, 0⟩), #[]⟩
@[reducible] noncomputable def o620 (P : Params) : Obj := ⟨(.type "tuple"), none, (.seq #[] 0), #[]⟩
@[reducible] noncomputable def o621 (P : Params) : Obj := ⟨.none, none, (.fields #[]), #[]⟩
@[reducible] noncomputable def o622 (P : Params) : Obj := ⟨(.type "tuple"), none, (.seq #[(.str (Str.ofString "self") 1269), (.str (Str.ofString "data") 1270)] 0), #[]⟩
@[reducible] noncomputable def o623 (P : Params) : Obj := ⟨(.type "tuple"), none, (.seq #[] 0), #[]⟩
@[reducible] noncomputable def o624 (P : Params) : Obj := ⟨.none, none, (.func ⟨(Str.ofString "commentState"), (Str.ofString "HTMLTokenizer.commentState"), (dArgs (D2 21 52)), .stmts (dBody (D2 21 52)), (dScope (D2 21 52)), 0, [], .none, .none, .none, .none, none, .none, .none, 0⟩), #[]⟩
@[reducible] noncomputable def o625 (P : Params) : Obj := ⟨(.type "code"), none, (.fields #[(.str (Str.ofString "commentState") 1266), (.str (Str.ofString "HTMLTokenizer.commentState") 1267), (.str (Str.ofString "/claim/cut.py") 1268), (.int 755 0), (.int 1 0), (.int 0 0), (.int 0 0), (.int 3 0), (.ref 620), (.bool true), (.int 181 0), (.ref 621), .none, (.ref 622), (.ref 623), (.ref 624), (.int 1271 0), (.int 755 0), (.str (Str.ofString "/claim/cut.py") 1272)]), #[]⟩
@[reducible] noncomputable def o626 (P : Params) : Obj := ⟨(.type "function"), none, (.func ⟨(Str.ofString "commentState"), (Str.ofString "HTMLTokenizer.commentState"), (dArgs (D2 21 52)), .stmts (dBody (D2 21 52)), (dScope (D2 21 52)), 3, [], .none, .none, .none, (.str (Str.ofString "html5lib._tokenizer") 827), none, (.ref 625), .none, 0⟩), #[]⟩
@[reducible] noncomputable def o627 (P : Params) : Obj := ⟨(.type "tuple"), none, (.seq #[] 0), #[]⟩
@[reducible] noncomputable def o628 (P : Params) : Obj := ⟨.none, none, (.fields #[]), #[]⟩
@[reducible] noncomputable def o629 (P : Params) : Obj := ⟨(.type "tuple"), none, (.seq #[(.str (Str.ofString "self") 1277), (.str (Str.ofString "data") 1278)] 0), #[]⟩
@[reducible] noncomputable def o630 (P : Params) : Obj := ⟨(.type "tuple"), none, (.seq #[] 0), #[]⟩
@[reducible] noncomputable def o631 (P : Params) : Obj := ⟨.none, none, (.func ⟨(Str.ofString "commentEndDashState"), (Str.ofString "HTMLTokenizer.commentEndDashState"), (dArgs (D2 21 53)), .stmts (dBody (D2 21 53)), (dScope (D2 21 53)), 0, [], .none, .none, .none, .none, none, .none, .none, 0⟩), #[]⟩
@[reducible] noncomputable def o632 (P : Params) : Obj := ⟨(.type "code"), none, (.fields #[(.str (Str.ofString "commentEndDashState") 1274), (.str (Str.ofString "HTMLTokenizer.commentEndDashState") 1275), (.str (Str.ofString "/claim/cut.py") 1276), (.int 770 0), (.int 1 0), (.int 0 0), (.int 0 0), (.int 3 0), (.ref 627), (.bool true), (.int 181 0), (.ref 628), .none, (.ref 629), (.ref 630), (.ref 631), (.int 1279 0), (.int 770 0), (.str (Str.ofString "/claim/cut.py") 1280)]), #[]⟩
@[reducible] noncomputable def o633 (P : Params) : Obj := ⟨(.type "function"), none, (.func ⟨(Str.ofString "commentEndDashState"), (Str.ofString "HTMLTokenizer.commentEndDashState"), (dArgs (D2 21 53)), .stmts (dBody (D2 21 53)), (dScope (D2 21 53)), 3, [], .none, .none, .none, (.str (Str.ofString "html5lib._tokenizer") 827), none, (.ref 632), .none, 0⟩), #[]⟩
@[reducible] noncomputable def o634 (P : Params) : Obj := ⟨(.type "tuple"), none, (.seq #[] 0), #[]⟩
@[reducible] noncomputable def o635 (P : Params) : Obj := ⟨.none, none, (.fields #[]), #[]⟩
@[reducible] noncomputable def o636 (P : Params) : Obj := ⟨(.type "tuple"), none, (.seq #[(.str (Str.ofString "self") 1285), (.str (Str.ofString "data") 1286)] 0), #[]⟩
@[reducible] noncomputable def o637 (P : Params) : Obj := ⟨(.type "tuple"), none, (.seq #[] 0), #[]⟩
@[reducible] noncomputable def o638 (P : Params) : Obj := ⟨.none, none, (.func ⟨(Str.ofString "commentEndState"), (Str.ofString "HTMLTokenizer.commentEndState"), (dArgs (D2 21 54)), .stmts (dBody (D2 21 54)), (dScope (D2 21 54)), 0, [], .none, .none, .none, .none, none, .none, .none, 0⟩), #[]⟩
@[reducible] noncomputable def o639 (P : Params) : Obj := ⟨(.type "code"), none, (.fields #[(.str (Str.ofString "commentEndState") 1282), (.str (Str.ofString "HTMLTokenizer.commentEndState") 1283), (.str (Str.ofString "/claim/cut.py") 1284), (.int 787 0), (.int 1 0), (.int 0 0), (.int 0 0), (.int 3 0), (.ref 634), (.bool true), (.int 181 0), (.ref 635), .none, (.ref 636), (.ref 637), (.ref 638), (.int 1287 0), (.int 787 0), (.str (Str.ofString "/claim/cut.py") 1288)]), #[]⟩
@[reducible] noncomputable def o640 (P : Params) : Obj := ⟨(.type "function"), none, (.func ⟨(Str.ofString "commentEndState"), (Str.ofString "HTMLTokenizer.commentEndState"), (dArgs (D2 21 54)), .stmts (dBody (D2 21 54)), (dScope (D2 21 54)), 3, [], .none, .none, .none, (.str (Str.ofString "html5lib._tokenizer") 827), none, (.ref 639), .none, 0⟩), #[]⟩
@[reducible] noncomputable def o641 (P : Params) : Obj := ⟨(.type "tuple"), none, (.seq #[] 0), #[]⟩
@[reducible] noncomputable def o642 (P : Params) : Obj := ⟨.none, none, (.fields #[]), #[]⟩
@[reducible] noncomputable def o643 (P : Params) : Obj := ⟨(.type "tuple"), none, (.seq #[(.str (Str.ofString "self") 1293), (.str (Str.ofString "data") 1294)] 0), #[]⟩
@[reducible] noncomputable def o644 (P : Params) : Obj := ⟨(.type "tuple"), none, (.seq #[] 0), #[]⟩
@[reducible] noncomputable def o645 (P : Params) : Obj := ⟨.none, none, (.func ⟨(Str.ofString "commentEndBangState"), (Str.ofString "HTMLTokenizer.commentEndBangState"), (dArgs (D2 21 55)), .stmts (dBody (D2 21 55)), (dScope (D2 21 55)), 0, [], .none, .none, .none, .none, none, .none, .none, 0⟩), #[]⟩
@[reducible] noncomputable def o646 (P : Params) : Obj := ⟨(.type "code"), none, (.fields #[(.str (Str.ofString "commentEndBangState") 1290), (.str (Str.ofString "HTMLTokenizer.commentEndBangState") 1291), (.str (Str.ofString "/claim/cut.py") 1292), (.int 812 0), (.int 1 0), (.int 0 0), (.int 0 0), (.int 3 0), (.ref 641), (.bool true), (.int 181 0), (.ref 642), .none, (.ref 643), (.ref 644), (.ref 645), (.int 1295 0), (.int 812 0), (.str (Str.ofString "/claim/cut.py") 1296)]), #[]⟩
@[reducible] noncomputable def o647 (P : Params) : Obj := ⟨(.type "function"), none, (.func ⟨(Str.ofString "commentEndBangState"), (Str.ofString "HTMLTokenizer.commentEndBangState"), (dArgs (D2 21 55)), .stmts (dBody (D2 21 55)), (dScope (D2 21 55)), 3, [], .none, .none, .none, (.str (Str.ofString "html5lib._tokenizer") 827), none, (.ref 646), .none, 0⟩), #[]⟩
@[reducible] noncomputable def o648 (P : Params) : Obj := ⟨(.type "tuple"), none, (.seq #[] 0), #[]⟩
@[reducible] noncomputable def o649 (P : Params) : Obj := ⟨.none, none, (.fields #[]), #[]⟩
@[reducible] noncomputable def o650 (P : Params) : Obj := ⟨(.type "tuple"), none, (.seq #[(.str (Str.ofString "self") 1301), (.str (Str.ofString "data") 1302)] 0), #[]⟩
@[reducible] noncomputable def o651 (P : Params) : Obj := ⟨(.type "tuple"), none, (.seq #[] 0), #[]⟩
@[reducible] noncomputable def o652 (P : Params) : Obj := ⟨.none, none, (.func ⟨(Str.ofString "doctypeState"), (Str.ofString "HTMLTokenizer.doctypeState"), (dArgs (D2 21 56)), .stmts (dBody (D2 21 56)), (dScope (D2 21 56)), 0, [], .none, .none, .none, .none, none, .none, .none, 0⟩), #[]⟩
@[reducible] noncomputable def o653 (P : Params) : Obj := ⟨(.type "code"), none, (.fields #[(.str (Str.ofString "doctypeState") 1298), (.str (Str.ofString "HTMLTokenizer.doctypeState") 1299), (.str (Str.ofString "/claim/cut.py") 1300), (.int 833 0), (.int 1 0), (.int 0 0), (.int 0 0), (.int 3 0), (.ref 648), (.bool true), (.int 181 0), (.ref 649), .none, (.ref 650), (.ref 651), (.ref 652), (.int 1303 0), (.int 833 0), (.str (Str.ofString "/claim/cut.py") 1304)]), #[]⟩
@[reducible] noncomputable def o654 (P : Params) : Obj := ⟨(.type "function"), none, (.func ⟨(Str.ofString "doctypeState"), (Str.ofString "HTMLTokenizer.doctypeState"), (dArgs (D2 21 56)), .stmts (dBody (D2 21 56)), (dScope (D2 21 56)), 3, [], .none, .none, .none, (.str (Str.ofString "html5lib._tokenizer") 827), none, (.ref 653), .none, 0⟩), #[]⟩
@[reducible] noncomputable def o655 (P : Params) : Obj := ⟨(.type "tuple"), none, (.seq #[] 0), #[]⟩
@[reducible] noncomputable def o656 (P : Params) : Obj := ⟨.none, none, (.fields #[]), #[]⟩
@[reducible] noncomputable def o657 (P : Params) : Obj := ⟨(.type "tuple"), none, (.seq #[(.str (Str.ofString "self") 1309), (.str (Str.ofString "data") 1310)] 0), #[]⟩
@[reducible] noncomputable def o658 (P : Params) : Obj := ⟨(.type "tuple"), none, (.seq #[] 0), #[]⟩
@[reducible] noncomputable def o659 (P : Params) : Obj := ⟨.none, none, (.func ⟨(Str.ofString "beforeDoctypeNameState"), (Str.ofString "HTMLTokenizer.beforeDoctypeNameState"), (dArgs (D2 21 57)), .stmts (dBody (D2 21 57)), (dScope (D2 21 57)), 0, [], .none, .none, .none, .none, none, .none, .none, 0⟩), #[]⟩
@[reducible] noncomputable def o660 (P : Params) : Obj := ⟨(.type "code"), none, (.fields #[(.str (Str.ofString "beforeDoctypeNameState") 1306), (.str (Str.ofString "HTMLTokenizer.beforeDoctypeNameState") 1307), (.str (Str.ofString "/claim/cut.py") 1308), (.int 848 0), (.int 1 0), (.int 0 0), (.int 0 0), (.int 3 0), (.ref 655), (.bool true), (.int 181 0), (.ref 656), .none, (.ref 657), (.ref 658), (.ref 659), (.int 1311 0), (.int 848 0), (.str (Str.ofString "/claim/cut.py") 1312)]), #[]⟩
@[reducible] noncomputable def o661 (P : Params) : Obj := ⟨(.type "function"), none, (.func ⟨(Str.ofString "beforeDoctypeNameState"), (Str.ofString "HTMLTokenizer.beforeDoctypeNameState"), (dArgs (D2 21 57)), .stmts (dBody (D2 21 57)), (dScope (D2 21 57)), 3, [], .none, .none, .none, (.str (Str.ofString "html5lib._tokenizer") 827), none, (.ref 660), .none, 0⟩), #[]⟩
@[reducible] noncomputable def o662 (P : Params) : Obj := ⟨(.type "tuple"), none, (.seq #[] 0), #[]⟩
@[reducible] noncomputable def o663 (P : Params) : Obj := ⟨.none, none, (.fields #[]), #[]⟩
@[reducible] noncomputable def o664 (P : Params) : Obj := ⟨(.type "tuple"), none, (.seq #[(.str (Str.ofString "self") 1317), (.str (Str.ofString "data") 1318)] 0), #[]⟩
@[reducible] noncomputable def o665 (P : Params) : Obj := ⟨(.type "tuple"), none, (.seq #[] 0), #[]⟩
@[reducible] noncomputable def o666 (P : Params) : Obj := ⟨.none, none, (.func ⟨(Str.ofString "doctypeNameState"), (Str.ofString "HTMLTokenizer.doctypeNameState"), (dArgs (D2 21 58)), .stmts (dBody (D2 21 58)), (dScope (D2 21 58)), 0, [], .none, .none, .none, .none, none, .none, .none, 0⟩), #[]⟩
@[reducible] noncomputable def o667 (P : Params) : Obj := ⟨(.type "code"), none, (.fields #[(.str (Str.ofString "doctypeNameState") 1314), (.str (Str.ofString "HTMLTokenizer.doctypeNameState") 1315), (.str (Str.ofString "/claim/cut.py") 1316), (.int 871 0), (.int 1 0), (.int 0 0), (.int 0 0), (.int 3 0), (.ref 662), (.bool true), (.int 181 0), (.ref 663), .none, (.ref 664), (.ref 665), (.ref 666), (.int 1319 0), (.int 871 0), (.str (Str.ofString "/claim/cut.py") 1320)]), #[]⟩
@[reducible] noncomputable def o668 (P : Params) : Obj := ⟨(.type "function"), none, (.func ⟨(Str.ofString "doctypeNameState"), (Str.ofString "HTMLTokenizer.doctypeNameState"), (dArgs (D2 21 58)), .stmts (dBody (D2 21 58)), (dScope (D2 21 58)), 3, [], .none, .none, .none, (.str (Str.ofString "html5lib._tokenizer") 827), none, (.ref 667), .none, 0⟩), #[]⟩
@[reducible] noncomputable def o669 (P : Params) : Obj := ⟨(.type "tuple"), none, (.seq #[] 0), #[]⟩
@[reducible] noncomputable def o670 (P : Params) : Obj := ⟨.none, none, (.fields #[]), #[]⟩
@[reducible] noncomputable def o671 (P : Params) : Obj := ⟨(.type "tuple"), none, (.seq #[(.str (Str.ofString "self") 1325), (.str (Str.ofString "data") 1326), (.str (Str.ofString "matched") 1327), (.str (Str.ofString "expected") 1328)] 0), #[]⟩
@[reducible] noncomputable def o672 (P : Params) : Obj := ⟨(.type "tuple"), none, (.seq #[] 0), #[]⟩
@[reducible] noncomputable def o673 (P : Params) : Obj := ⟨.none, none, (.func ⟨(Str.ofString "afterDoctypeNameState"), (Str.ofString "HTMLTokenizer.afterDoctypeNameState"), (dArgs (D2 21 59)), .stmts (dBody (D2 21 59)), (dScope (D2 21 59)), 0, [], .none, .none, .none, .none, none, .none, .none, 0⟩), #[]⟩
@[reducible] noncomputable def o674 (P : Params) : Obj := ⟨(.type "code"), none, (.fields #[(.str (Str.ofString "afterDoctypeNameState") 1322), (.str (Str.ofString "HTMLTokenizer.afterDoctypeNameState") 1323), (.str (Str.ofString "/claim/cut.py") 1324), (.int 894 0), (.int 1 0), (.int 0 0), (.int 0 0), (.int 3 0), (.ref 669), (.bool true), (.int 181 0), (.ref 670), .none, (.ref 671), (.ref 672), (.ref 673), (.int 1329 0), (.int 894 0), (.str (Str.ofString "/claim/cut.py") 1330)]), #[]⟩
@[reducible] noncomputable def o675 (P : Params) : Obj := ⟨(.type "function"), none, (.func ⟨(Str.ofString "afterDoctypeNameState"), (Str.ofString "HTMLTokenizer.afterDoctypeNameState"), (dArgs (D2 21 59)), .stmts (dBody (D2 21 59)), (dScope (D2 21 59)), 3, [], .none, .none, .none, (.str (Str.ofString "html5lib._tokenizer") 827), none, (.ref 674), .none, 0⟩), #[]⟩
@[reducible] noncomputable def o676 (P : Params) : Obj := ⟨(.type "tuple"), none, (.seq #[] 0), #[]⟩
@[reducible] noncomputable def o677 (P : Params) : Obj := ⟨.none, none, (.fields #[]), #[]⟩
@[reducible] noncomputable def o678 (P : Params) : Obj := ⟨(.type "tuple"), none, (.seq #[(.str (Str.ofString "self") 1335), (.str (Str.ofString "data") 1336)] 0), #[]⟩
@[reducible] noncomputable def o679 (P : Params) : Obj := ⟨(.type "tuple"), none, (.seq #[] 0), #[]⟩
@[reducible] noncomputable def o680 (P : Params) : Obj := ⟨.none, none, (.func ⟨(Str.ofString "afterDoctypePublicKeywordState"), (Str.ofString "HTMLTokenizer.afterDoctypePublicKeywordState"), (dArgs (D2 21 60)), .stmts (dBody (D2 21 60)), (dScope (D2 21 60)), 0, [], .none, .none, .none, .none, none, .none, .none, 0⟩), #[]⟩
@[reducible] noncomputable def o681 (P : Params) : Obj := ⟨(.type "code"), none, (.fields #[(.str (Str.ofString "afterDoctypePublicKeywordState") 1332), (.str (Str.ofString "HTMLTokenizer.afterDoctypePublicKeywordState") 1333), (.str (Str.ofString "/claim/cut.py") 1334), (.int 934 0), (.int 1 0), (.int 0 0), (.int 0 0), (.int 3 0), (.ref 676), (.bool true), (.int 181 0), (.ref 677), .none, (.ref 678), (.ref 679), (.ref 680), (.int 1337 0), (.int 934 0), (.str (Str.ofString "/claim/cut.py") 1338)]), #[]⟩
@[reducible] noncomputable def o682 (P : Params) : Obj := ⟨(.type "function"), none, (.func ⟨(Str.ofString "afterDoctypePublicKeywordState"), (Str.ofString "HTMLTokenizer.afterDoctypePublicKeywordState"), (dArgs (D2 21 60)), .stmts (dBody (D2 21 60)), (dScope (D2 21 60)), 3, [], .none, .none, .none, (.str (Str.ofString "html5lib._tokenizer") 827), none, (.ref 681), .none, 0⟩), #[]⟩
@[reducible] noncomputable def o683 (P : Params) : Obj := ⟨(.type "tuple"), none, (.seq #[] 0), #[]⟩
@[reducible] noncomputable def o684 (P : Params) : Obj := ⟨.none, none, (.fields #[]), #[]⟩
@[reducible] noncomputable def o685 (P : Params) : Obj := ⟨(.type "tuple"), none, (.seq #[(.str (Str.ofString "self") 1343), (.str (Str.ofString "data") 1344)] 0), #[]⟩
@[reducible] noncomputable def o686 (P : Params) : Obj := ⟨(.type "tuple"), none, (.seq #[] 0), #[]⟩
@[reducible] noncomputable def o687 (P : Params) : Obj := ⟨.none, none, (.func ⟨(Str.ofString "beforeDoctypePublicIdentifierState"), (Str.ofString "HTMLTokenizer.beforeDoctypePublicIdentifierState"), (dArgs (D2 21 61)), .stmts (dBody (D2 21 61)), (dScope (D2 21 61)), 0, [], .none, .none, .none, .none, none, .none, .none, 0⟩), #[]⟩
@[reducible] noncomputable def o688 (P : Params) : Obj := ⟨(.type "code"), none, (.fields #[(.str (Str.ofString "beforeDoctypePublicIdentifierState") 1340), (.str (Str.ofString "HTMLTokenizer.beforeDoctypePublicIdentifierState") 1341), (.str (Str.ofString "/claim/cut.py") 1342), (.int 952 0), (.int 1 0), (.int 0 0), (.int 0 0), (.int 3 0), (.ref 683), (.bool true), (.int 181 0), (.ref 684), .none, (.ref 685), (.ref 686), (.ref 687), (.int 1345 0), (.int 952 0), (.str (Str.ofString "/claim/cut.py") 1346)]), #[]⟩
@[reducible] noncomputable def o689 (P : Params) : Obj := ⟨(.type "function"), none, (.func ⟨(Str.ofString "beforeDoctypePublicIdentifierState"), (Str.ofString "HTMLTokenizer.beforeDoctypePublicIdentifierState"), (dArgs (D2 21 61)), .stmts (dBody (D2 21 61)), (dScope (D2 21 61)), 3, [], .none, .none, .none, (.str (Str.ofString "html5lib._tokenizer") 827), none, (.ref 688), .none, 0⟩), #[]⟩
@[reducible] noncomputable def o690 (P : Params) : Obj := ⟨(.type "tuple"), none, (.seq #[] 0), #[]⟩
@[reducible] noncomputable def o691 (P : Params) : Obj := ⟨.none, none, (.fields #[]), #[]⟩
@[reducible] noncomputable def o692 (P : Params) : Obj := ⟨(.type "tuple"), none, (.seq #[(.str (Str.ofString "self") 1351), (.str (Str.ofString "data") 1352)] 0), #[]⟩
@[reducible] noncomputable def o693 (P : Params) : Obj := ⟨(.type "tuple"), none, (.seq #[] 0), #[]⟩
@[reducible] noncomputable def o694 (P : Params) : Obj := ⟨.none, none, (.func ⟨(Str.ofString "doctypePublicIdentifierDoubleQuotedState"), (Str.ofString "HTMLTokenizer.doctypePublicIdentifierDoubleQuotedState"), (dArgs (D2 21 62)), .stmts (dBody (D2 21 62)), (dScope (D2 21 62)), 0, [], .none, .none, .none, .none, none, .none, .none, 0⟩), #[]⟩
@[reducible] noncomputable def o695 (P : Params) : Obj := ⟨(.type "code"), none, (.fields #[(.str (Str.ofString "doctypePublicIdentifierDoubleQuotedState") 1348), (.str (Str.ofString "HTMLTokenizer.doctypePublicIdentifierDoubleQuotedState") 1349), (.str (Str.ofString "/claim/cut.py") 1350), (.int 978 0), (.int 1 0), (.int 0 0), (.int 0 0), (.int 3 0), (.ref 690), (.bool true), (.int 181 0), (.ref 691), .none, (.ref 692), (.ref 693), (.ref 694), (.int 1353 0), (.int 978 0), (.str (Str.ofString "/claim/cut.py") 1354)]), #[]⟩
@[reducible] noncomputable def o696 (P : Params) : Obj := ⟨(.type "function"), none, (.func ⟨(Str.ofString "doctypePublicIdentifierDoubleQuotedState"), (Str.ofString "HTMLTokenizer.doctypePublicIdentifierDoubleQuotedState"), (dArgs (D2 21 62)), .stmts (dBody (D2 21 62)), (dScope (D2 21 62)), 3, [], .none, .none, .none, (.str (Str.ofString "html5lib._tokenizer") 827), none, (.ref 695), .none, 0⟩), #[]⟩
@[reducible] noncomputable def o697 (P : Params) : Obj := ⟨(.type "tuple"), none, (.seq #[] 0), #[]⟩
@[reducible] noncomputable def o698 (P : Params) : Obj := ⟨.none, none, (.fields #[]), #[]⟩
@[reducible] noncomputable def o699 (P : Params) : Obj := ⟨(.type "tuple"), none, (.seq #[(.str (Str.ofString "self") 1359), (.str (Str.ofString "data") 1360)] 0), #[]⟩
@[reducible] noncomputable def o700 (P : Params) : Obj := ⟨(.type "tuple"), none, (.seq #[] 0), #[]⟩
@[reducible] noncomputable def o701 (P : Params) : Obj := ⟨.none, none, (.func ⟨(Str.ofString "doctypePublicIdentifierSingleQuotedState"), (Str.ofString "HTMLTokenizer.doctypePublicIdentifierSingleQuotedState"), (dArgs (D2 21 63)), .stmts (dBody (D2 21 63)), (dScope (D2 21 63)), 0, [], .none, .none, .none, .none, none, .none, .none, 0⟩), #[]⟩
@[reducible] noncomputable def o702 (P : Params) : Obj := ⟨(.type "code"), none, (.fields #[(.str (Str.ofString "doctypePublicIdentifierSingleQuotedState") 1356), (.str (Str.ofString "HTMLTokenizer.doctypePublicIdentifierSingleQuotedState") 1357), (.str (Str.ofString "/claim/cut.py") 1358), (.int 999 0), (.int 1 0), (.int 0 0), (.int 0 0), (.int 3 0), (.ref 697), (.bool true), (.int 181 0), (.ref 698), .none, (.ref 699), (.ref 700), (.ref 701), (.int 1361 0), (.int 999 0), (.str (Str.ofString "/claim/cut.py") 1362)]), #[]⟩
@[reducible] noncomputable def o703 (P : Params) : Obj := ⟨(.type "function"), none, (.func ⟨(Str.ofString "doctypePublicIdentifierSingleQuotedState"), (Str.ofString "HTMLTokenizer.doctypePublicIdentifierSingleQuotedState"), (dArgs (D2 21 63)), .stmts (dBody (D2 21 63)), (dScope (D2 21 63)), 3, [], .none, .none, .none, (.str (Str.ofString "html5lib._tokenizer") 827), none, (.ref 702), .none, 0⟩), #[]⟩
@[reducible] noncomputable def o704 (P : Params) : Obj := ⟨(.type "tuple"), none, (.seq #[] 0), #[]⟩
@[reducible] noncomputable def o705 (P : Params) : Obj := ⟨.none, none, (.fields #[]), #[]⟩
@[reducible] noncomputable def o706 (P : Params) : Obj := ⟨(.type "tuple"), none, (.seq #[(.str (Str.ofString "self") 1367), (.str (Str.ofString "data") 1368)] 0), #[]⟩
@[reducible] noncomputable def o707 (P : Params) : Obj := ⟨(.type "tuple"), none, (.seq #[] 0), #[]⟩
@[reducible] noncomputable def o708 (P : Params) : Obj := ⟨.none, none, (.func ⟨(Str.ofString "afterDoctypePublicIdentifierState"), (Str.ofString "HTMLTokenizer.afterDoctypePublicIdentifierState"), (dArgs (D2 21 64)), .stmts (dBody (D2 21 64)), (dScope (D2 21 64)), 0, [], .none, .none, .none, .none, none, .none, .none, 0⟩), #[]⟩
@[reducible] noncomputable def o709 (P : Params) : Obj := ⟨(.type "code"), none, (.fields #[(.str (Str.ofString "afterDoctypePublicIdentifierState") 1364), (.str (Str.ofString "HTMLTokenizer.afterDoctypePublicIdentifierState") 1365), (.str (Str.ofString "/claim/cut.py") 1366), (.int 1020 0), (.int 1 0), (.int 0 0), (.int 0 0), (.int 3 0), (.ref 704), (.bool true), (.int 181 0), (.ref 705), .none, (.ref 706), (.ref 707), (.ref 708), (.int 1369 0), (.int 1020 0), (.str (Str.ofString "/claim/cut.py") 1370)]), #[]⟩
@[reducible] noncomputable def o710 (P : Params) : Obj := ⟨(.type "function"), none, (.func ⟨(Str.ofString "afterDoctypePublicIdentifierState"), (Str.ofString "HTMLTokenizer.afterDoctypePublicIdentifierState"), (dArgs (D2 21 64)), .stmts (dBody (D2 21 64)), (dScope (D2 21 64)), 3, [], .none, .none, .none, (.str (Str.ofString "html5lib._tokenizer") 827), none, (.ref 709), .none, 0⟩), #[]⟩
@[reducible] noncomputable def o711 (P : Params) : Obj := ⟨(.type "tuple"), none, (.seq #[] 0), #[]⟩
@[reducible] noncomputable def o712 (P : Params) : Obj := ⟨.none, none, (.fields #[]), #[]⟩
@[reducible] noncomputable def o713 (P : Params) : Obj := ⟨(.type "tuple"), none, (.seq #[(.str (Str.ofString "self") 1375), (.str (Str.ofString "data") 1376)] 0), #[]⟩
@[reducible] noncomputable def o714 (P : Params) : Obj := ⟨(.type "tuple"), none, (.seq #[] 0), #[]⟩
@[reducible] noncomputable def o715 (P : Params) : Obj := ⟨.none, none, (.func ⟨(Str.ofString "betweenDoctypePublicAndSystemIdentifiersState"), (Str.ofString "HTMLTokenizer.betweenDoctypePublicAndSystemIdentifiersState"), (dArgs (D2 21 65)), .stmts (dBody (D2 21 65)), (dScope (D2 21 65)), 0, [], .none, .none, .none, .none, none, .none, .none, 0⟩), #[]⟩
@[reducible] noncomputable def o716 (P : Params) : Obj := ⟨(.type "code"), none, (.fields #[(.str (Str.ofString "betweenDoctypePublicAndSystemIdentifiersState") 1372), (.str (Str.ofString "HTMLTokenizer.betweenDoctypePublicAndSystemIdentifiersState") 1373), (.str (Str.ofString "/claim/cut.py") 1374), (.int 1046 0), (.int 1 0), (.int 0 0), (.int 0 0), (.int 3 0), (.ref 711), (.bool true), (.int 181 0), (.ref 712), .none, (.ref 713), (.ref 714), (.ref 715), (.int 1377 0), (.int 1046 0), (.str (Str.ofString "/claim/cut.py") 1378)]), #[]⟩
@[reducible] noncomputable def o717 (P : Params) : Obj := ⟨(.type "function"), none, (.func ⟨(Str.ofString "betweenDoctypePublicAndSystemIdentifiersState"), (Str.ofString "HTMLTokenizer.betweenDoctypePublicAndSystemIdentifiersState"), (dArgs (D2 21 65)), .stmts (dBody (D2 21 65)), (dScope (D2 21 65)), 3, [], .none, .none, .none, (.str (Str.ofString "html5lib._tokenizer") 827), none, (.ref 716), .none, 0⟩), #[]⟩
@[reducible] noncomputable def o718 (P : Params) : Obj := ⟨(.type "tuple"), none, (.seq #[] 0), #[]⟩
@[reducible] noncomputable def o719 (P : Params) : Obj := ⟨.none, none, (.fields #[]), #[]⟩
@[reducible] noncomputable def o720 (P : Params) : Obj := ⟨(.type "tuple"), none, (.seq #[(.str (Str.ofString "self") 1383), (.str (Str.ofString "data") 1384)] 0), #[]⟩
@[reducible] noncomputable def o721 (P : Params) : Obj := ⟨(.type "tuple"), none, (.seq #[] 0), #[]⟩
@[reducible] noncomputable def o722 (P : Params) : Obj := ⟨.none, none, (.func ⟨(Str.ofString "afterDoctypeSystemKeywordState"), (Str.ofString "HTMLTokenizer.afterDoctypeSystemKeywordState"), (dArgs (D2 21 66)), .stmts (dBody (D2 21 66)), (dScope (D2 21 66)), 0, [], .none, .none, .none, .none, none, .none, .none, 0⟩), #[]⟩
@[reducible] noncomputable def o723 (P : Params) : Obj := ⟨(.type "code"), none, (.fields #[(.str (Str.ofString "afterDoctypeSystemKeywordState") 1380), (.str (Str.ofString "HTMLTokenizer.afterDoctypeSystemKeywordState") 1381), (.str (Str.ofString "/claim/cut.py") 1382), (.int 1070 0), (.int 1 0), (.int 0 0), (.int 0 0), (.int 3 0), (.ref 718), (.bool true), (.int 181 0), (.ref 719), .none, (.ref 720), (.ref 721), (.ref 722), (.int 1385 0), (.int 1070 0), (.str (Str.ofString "/claim/cut.py") 1386)]), #[]⟩
@[reducible] noncomputable def o724 (P : Params) : Obj := ⟨(.type "function"), none, (.func ⟨(Str.ofString "afterDoctypeSystemKeywordState"), (Str.ofString "HTMLTokenizer.afterDoctypeSystemKeywordState"), (dArgs (D2 21 66)), .stmts (dBody (D2 21 66)), (dScope (D2 21 66)), 3, [], .none, .none, .none, (.str (Str.ofString "html5lib._tokenizer") 827), none, (.ref 723), .none, 0⟩), #[]⟩
@[reducible] noncomputable def o725 (P : Params) : Obj := ⟨(.type "tuple"), none, (.seq #[] 0), #[]⟩
@[reducible] noncomputable def o726 (P : Params) : Obj := ⟨.none, none, (.fields #[]), #[]⟩
@[reducible] noncomputable def o727 (P : Params) : Obj := ⟨(.type "tuple"), none, (.seq #[(.str (Str.ofString "self") 1391), (.str (Str.ofString "data") 1392)] 0), #[]⟩
@[reducible] noncomputable def o728 (P : Params) : Obj := ⟨(.type "tuple"), none, (.seq #[] 0), #[]⟩
@[reducible] noncomputable def o729 (P : Params) : Obj := ⟨.none, none, (.func ⟨(Str.ofString "beforeDoctypeSystemIdentifierState"), (Str.ofString "HTMLTokenizer.beforeDoctypeSystemIdentifierState"), (dArgs (D2 21 67)), .stmts (dBody (D2 21 67)), (dScope (D2 21 67)), 0, [], .none, .none, .none, .none, none, .none, .none, 0⟩), #[]⟩
@[reducible] noncomputable def o730 (P : Params) : Obj := ⟨(.type "code"), none, (.fields #[(.str (Str.ofString "beforeDoctypeSystemIdentifierState") 1388), (.str (Str.ofString "HTMLTokenizer.beforeDoctypeSystemIdentifierState") 1389), (.str (Str.ofString "/claim/cut.py") 1390), (.int 1088 0), (.int 1 0), (.int 0 0), (.int 0 0), (.int 3 0), (.ref 725), (.bool true), (.int 181 0), (.ref 726), .none, (.ref 727), (.ref 728), (.ref 729), (.int 1393 0), (.int 1088 0), (.str (Str.ofString "/claim/cut.py") 1394)]), #[]⟩
@[reducible] noncomputable def o731 (P : Params) : Obj := ⟨(.type "function"), none, (.func ⟨(Str.ofString "beforeDoctypeSystemIdentifierState"), (Str.ofString "HTMLTokenizer.beforeDoctypeSystemIdentifierState"), (dArgs (D2 21 67)), .stmts (dBody (D2 21 67)), (dScope (D2 21 67)), 3, [], .none, .none, .none, (.str (Str.ofString "html5lib._tokenizer") 827), none, (.ref 730), .none, 0⟩), #[]⟩
@[reducible] noncomputable def o732 (P : Params) : Obj := ⟨(.type "tuple"), none, (.seq #[] 0), #[]⟩
@[reducible] noncomputable def o733 (P : Params) : Obj := ⟨.none, none, (.fields #[]), #[]⟩
@[reducible] noncomputable def o734 (P : Params) : Obj := ⟨(.type "tuple"), none, (.seq #[(.str (Str.ofString "self") 1399), (.str (Str.ofString "data") 1400)] 0), #[]⟩
@[reducible] noncomputable def o735 (P : Params) : Obj := ⟨(.type "tuple"), none, (.seq #[] 0), #[]⟩
@[reducible] noncomputable def o736 (P : Params) : Obj := ⟨.none, none, (.func ⟨(Str.ofString "doctypeSystemIdentifierDoubleQuotedState"), (Str.ofString "HTMLTokenizer.doctypeSystemIdentifierDoubleQuotedState"), (dArgs (D2 21 68)), .stmts (dBody (D2 21 68)), (dScope (D2 21 68)), 0, [], .none, .none, .none, .none, none, .none, .none, 0⟩), #[]⟩
@[reducible] noncomputable def o737 (P : Params) : Obj := ⟨(.type "code"), none, (.fields #[(.str (Str.ofString "doctypeSystemIdentifierDoubleQuotedState") 1396), (.str (Str.ofString "HTMLTokenizer.doctypeSystemIdentifierDoubleQuotedState") 1397), (.str (Str.ofString "/claim/cut.py") 1398), (.int 1114 0), (.int 1 0), (.int 0 0), (.int 0 0), (.int 3 0), (.ref 732), (.bool true), (.int 181 0), (.ref 733), .none, (.ref 734), (.ref 735), (.ref 736), (.int 1401 0), (.int 1114 0), (.str (Str.ofString "/claim/cut.py") 1402)]), #[]⟩
@[reducible] noncomputable def o738 (P : Params) : Obj := ⟨(.type "function"), none, (.func ⟨(Str.ofString "doctypeSystemIdentifierDoubleQuotedState"), (Str.ofString "HTMLTokenizer.doctypeSystemIdentifierDoubleQuotedState"), (dArgs (D2 21 68)), .stmts (dBody (D2 21 68)), (dScope (D2 21 68)), 3, [], .none, .none, .none, (.str (Str.ofString "html5lib._tokenizer") 827), none, (.ref 737), .none, 0⟩), #[]⟩
@[reducible] noncomputable def o739 (P : Params) : Obj := ⟨(.type "tuple"), none, (.seq #[] 0), #[]⟩
@[reducible] noncomputable def o740 (P : Params) : Obj := ⟨.none, none, (.fields #[]), #[]⟩
@[reducible] noncomputable def o741 (P : Params) : Obj := ⟨(.type "tuple"), none, (.seq #[(.str (Str.ofString "self") 1407), (.str (Str.ofString "data") 1408)] 0), #[]⟩
@[reducible] noncomputable def o742 (P : Params) : Obj := ⟨(.type "tuple"), none, (.seq #[] 0), #[]⟩
@[reducible] noncomputable def o743 (P : Params) : Obj := ⟨.none, none, (.func ⟨(Str.ofString "doctypeSystemIdentifierSingleQuotedState"), (Str.ofString "HTMLTokenizer.doctypeSystemIdentifierSingleQuotedState"), (dArgs (D2 21 69)), .stmts (dBody (D2 21 69)), (dScope (D2 21 69)), 0, [], .none, .none, .none, .none, none, .none, .none, 0⟩), #[]⟩
@[reducible] noncomputable def o744 (P : Params) : Obj := ⟨(.type "code"), none, (.fields #[(.str (Str.ofString "doctypeSystemIdentifierSingleQuotedState") 1404), (.str (Str.ofString "HTMLTokenizer.doctypeSystemIdentifierSingleQuotedState") 1405), (.str (Str.ofString "/claim/cut.py") 1406), (.int 1135 0), (.int 1 0), (.int 0 0), (.int 0 0), (.int 3 0), (.ref 739), (.bool true), (.int 181 0), (.ref 740), .none, (.ref 741), (.ref 742), (.ref 743), (.int 1409 0), (.int 1135 0), (.str (Str.ofString "/claim/cut.py") 1410)]), #[]⟩
@[reducible] noncomputable def o745 (P : Params) : Obj := ⟨(.type "function"), none, (.func ⟨(Str.ofString "doctypeSystemIdentifierSingleQuotedState"), (Str.ofString "HTMLTokenizer.doctypeSystemIdentifierSingleQuotedState"), (dArgs (D2 21 69)), .stmts (dBody (D2 21 69)), (dScope (D2 21 69)), 3, [], .none, .none, .none, (.str (Str.ofString "html5lib._tokenizer") 827), none, (.ref 744), .none, 0⟩), #[]⟩
@[reducible] noncomputable def o746 (P : Params) : Obj := ⟨(.type "tuple"), none, (.seq #[] 0), #[]⟩
@[reducible] noncomputable def o747 (P : Params) : Obj := ⟨.none, none, (.fields #[]), #[]⟩
@[reducible] noncomputable def o748 (P : Params) : Obj := ⟨(.type "tuple"), none, (.seq #[(.str (Str.ofString "self") 1415), (.str (Str.ofString "data") 1416)] 0), #[]⟩
@[reducible] noncomputable def o749 (P : Params) : Obj := ⟨(.type "tuple"), none, (.seq #[] 0), #[]⟩
@[reducible] noncomputable def o750 (P : Params) : Obj := ⟨.none, none, (.func ⟨(Str.ofString "afterDoctypeSystemIdentifierState"), (Str.ofString "HTMLTokenizer.afterDoctypeSystemIdentifierState"), (dArgs (D2 21 70)), .stmts (dBody (D2 21 70)), (dScope (D2 21 70)), 0, [], .none, .none, .none, .none, none, .none, .none, 0⟩), #[]⟩
@[reducible] noncomputable def o751 (P : Params) : Obj := ⟨(.type "code"), none, (.fields #[(.str (Str.ofString "afterDoctypeSystemIdentifierState") 1412), (.str (Str.ofString "HTMLTokenizer.afterDoctypeSystemIdentifierState") 1413), (.str (Str.ofString "/claim/cut.py") 1414), (.int 1156 0), (.int 1 0), (.int 0 0), (.int 0 0), (.int 3 0), (.ref 746), (.bool true), (.int 181 0), (.ref 747), .none, (.ref 748), (.ref 749), (.ref 750), (.int 1417 0), (.int 1156 0), (.str (Str.ofString "/claim/cut.py") 1418)]), #[]⟩
@[reducible] noncomputable def o752 (P : Params) : Obj := ⟨(.type "function"), none, (.func ⟨(Str.ofString "afterDoctypeSystemIdentifierState"), (Str.ofString "HTMLTokenizer.afterDoctypeSystemIdentifierState"), (dArgs (D2 21 70)), .stmts (dBody (D2 21 70)), (dScope (D2 21 70)), 3, [], .none, .none, .none, (.str (Str.ofString "html5lib._tokenizer") 827), none, (.ref 751), .none, 0⟩), #[]⟩
@[reducible] noncomputable def o753 (P : Params) : Obj := ⟨(.type "tuple"), none, (.seq #[] 0), #[]⟩
@[reducible] noncomputable def o754 (P : Params) : Obj := ⟨.none, none, (.fields #[]), #[]⟩
@[reducible] noncomputable def o755 (P : Params) : Obj := ⟨(.type "tuple"), none, (.seq #[(.str (Str.ofString "self") 1423), (.str (Str.ofString "data") 1424)] 0), #[]⟩
@[reducible] noncomputable def o756 (P : Params) : Obj := ⟨(.type "tuple"), none, (.seq #[] 0), #[]⟩
@[reducible] noncomputable def o757 (P : Params) : Obj := ⟨.none, none, (.func ⟨(Str.ofString "bogusDoctypeState"), (Str.ofString "HTMLTokenizer.bogusDoctypeState"), (dArgs (D2 21 71)), .stmts (dBody (D2 21 71)), (dScope (D2 21 71)), 0, [], .none, .none, .none, .none, none, .none, .none, 0⟩), #[]⟩
@[reducible] noncomputable def o758 (P : Params) : Obj := ⟨(.type "code"), none, (.fields #[(.str (Str.ofString "bogusDoctypeState") 1420), (.str (Str.ofString "HTMLTokenizer.bogusDoctypeState") 1421), (.str (Str.ofString "/claim/cut.py") 1422), (.int 1173 0), (.int 1 0), (.int 0 0), (.int 0 0), (.int 3 0), (.ref 753), (.bool true), (.int 181 0), (.ref 754), .none, (.ref 755), (.ref 756), (.ref 757), (.int 1425 0), (.int 1173 0), (.str (Str.ofString "/claim/cut.py") 1426)]), #[]⟩
@[reducible] noncomputable def o759 (P : Params) : Obj := ⟨(.type "function"), none, (.func ⟨(Str.ofString "bogusDoctypeState"), (Str.ofString "HTMLTokenizer.bogusDoctypeState"), (dArgs (D2 21 71)), .stmts (dBody (D2 21 71)), (dScope (D2 21 71)), 3, [], .none, .none, .none, (.str (Str.ofString "html5lib._tokenizer") 827), none, (.ref 758), .none, 0⟩), #[]⟩
@[reducible] noncomputable def o760 (P : Params) : Obj := ⟨(.type "tuple"), none, (.seq #[(.str (Str.ofString "currentToken") 1428), (.str (Str.ofString "escape") 1429), (.str (Str.ofString "escapeFlag") 1430), (.str (Str.ofString "lastFourChars") 1431), (.str (Str.ofString "parser") 1432), (.str (Str.ofString "state") 1433), (.str (Str.ofString "stream") 1434), (.str (Str.ofString "tokenQueue") 1435)] 0), #[]⟩
@[reducible] noncomputable def o761 (P : Params) : Obj := ⟨(.type "dict"), none, (.dict #[⟨(PyData.keyHash P (Str.ofString "__module__")), (.str (Str.ofString "__module__") 851), (.str (Str.ofString "html5lib._tokenizer") 827)⟩, ⟨(PyData.keyHash P (Str.ofString "__firstlineno__")), (.str (Str.ofString "__firstlineno__") 855), (.int 182 854)⟩, ⟨(PyData.keyHash P (Str.ofString "__init__")), (.str (Str.ofString "__init__") 864), (.ref 261)⟩, ⟨(PyData.keyHash P (Str.ofString "__iter__")), (.str (Str.ofString "__iter__") 871), (.ref 268)⟩, ⟨(PyData.keyHash P (Str.ofString "consumeNumberEntity")), (.str (Str.ofString "consumeNumberEntity") 886), (.ref 275)⟩, ⟨(PyData.keyHash P (Str.ofString "consumeEntity")), (.str (Str.ofString "consumeEntity") 901), (.ref 283)⟩, ⟨(PyData.keyHash P (Str.ofString "processEntityInAttribute")), (.str (Str.ofString "processEntityInAttribute") 909), (.ref 290)⟩, ⟨(PyData.keyHash P (Str.ofString "emitCurrentToken")), (.str (Str.ofString "emitCurrentToken") 919), (.ref 297)⟩, ⟨(PyData.keyHash P (Str.ofString "dataState")), (.str (Str.ofString "dataState") 928), (.ref 304)⟩, ⟨(PyData.keyHash P (Str.ofString "entityDataState")), (.str (Str.ofString "entityDataState") 935), (.ref 311)⟩, ⟨(PyData.keyHash P (Str.ofString "rcdataState")), (.str (Str.ofString "rcdataState") 942), (.ref 318)⟩, ⟨(PyData.keyHash P (Str.ofString "characterReferenceInRcdata")), (.str (Str.ofString "characterReferenceInRcdata") 949), (.ref 325)⟩, ⟨(PyData.keyHash P (Str.ofString "rawtextState")), (.str (Str.ofString "rawtextState") 956), (.ref 332)⟩, ⟨(PyData.keyHash P (Str.ofString "scriptDataState")), (.str (Str.ofString "scriptDataState") 963), (.ref 339)⟩, ⟨(PyData.keyHash P (Str.ofString "plaintextState")), (.str (Str.ofString "plaintextState") 970), (.ref 346)⟩, ⟨(PyData.keyHash P (Str.ofString "tagOpenState")), (.str (Str.ofString "tagOpenState") 978), (.ref 353)⟩, ⟨(PyData.keyHash P (Str.ofString "closeTagOpenState")), (.str (Str.ofString "closeTagOpenState") 986), (.ref 360)⟩, ⟨(PyData.keyHash P (Str.ofString "tagNameState")), (.str (Str.ofString "tagNameState") 994), (.ref 367)⟩, ⟨(PyData.keyHash P (Str.ofString "rcdataLessThanSignState")), (.str (Str.ofString "rcdataLessThanSignState") 1001), (.ref 374)⟩, ⟨(PyData.keyHash P (Str.ofString "rcdataEndTagOpenState")), (.str (Str.ofString "rcdataEndTagOpenState") 1008), (.ref 381)⟩, ⟨(PyData.keyHash P (Str.ofString "rcdataEndTagNameState")), (.str (Str.ofString "rcdataEndTagNameState") 1015), (.ref 388)⟩, ⟨(PyData.keyHash P (Str.ofString "rawtextLessThanSignState")), (.str (Str.ofString "rawtextLessThanSignState") 1022), (.ref 395)⟩, ⟨(PyData.keyHash P (Str.ofString "rawtextEndTagOpenState")), (.str (Str.ofString "rawtextEndTagOpenState") 1029), (.ref 402)⟩, ⟨(PyData.keyHash P (Str.ofString "rawtextEndTagNameState")), (.str (Str.ofString "rawtextEndTagNameState") 1036), (.ref 409)⟩, ⟨(PyData.keyHash P (Str.ofString "scriptDataLessThanSignState")), (.str (Str.ofString "scriptDataLessThanSignState") 1043), (.ref 416)⟩, ⟨(PyData.keyHash P (Str.ofString "scriptDataEndTagOpenState")), (.str (Str.ofString "scriptDataEndTagOpenState") 1050), (.ref 423)⟩, ⟨(PyData.keyHash P (Str.ofString "scriptDataEndTagNameState")), (.str (Str.ofString "scriptDataEndTagNameState") 1057), (.ref 430)⟩, ⟨(PyData.keyHash P (Str.ofString "scriptDataEscapeStartState")), (.str (Str.ofString "scriptDataEscapeStartState") 1064), (.ref 437)⟩, ⟨(PyData.keyHash P (Str.ofString "scriptDataEscapeStartDashState")), (.str (Str.ofString "scriptDataEscapeStartDashState") 1071), (.ref 444)⟩, ⟨(PyData.keyHash P (Str.ofString "scriptDataEscapedState")), (.str (Str.ofString "scriptDataEscapedState") 1078), (.ref 451)⟩, ⟨(PyData.keyHash P (Str.ofString "scriptDataEscapedDashState")), (.str (Str.ofString "scriptDataEscapedDashState") 1085), (.ref 458)⟩, ⟨(PyData.keyHash P (Str.ofString "scriptDataEscapedDashDashState")), (.str (Str.ofString "scriptDataEscapedDashDashState") 1092), (.ref 465)⟩, ⟨(PyData.keyHash P (Str.ofString "scriptDataEscapedLessThanSignState")), (.str (Str.ofString "scriptDataEscapedLessThanSignState") 1099), (.ref 472)⟩, ⟨(PyData.keyHash P (Str.ofString "scriptDataEscapedEndTagOpenState")), (.str (Str.ofString "scriptDataEscapedEndTagOpenState") 1106), (.ref 479)⟩, ⟨(PyData.keyHash P (Str.ofString "scriptDataEscapedEndTagNameState")), (.str (Str.ofString "scriptDataEscapedEndTagNameState") 1113), (.ref 486)⟩, ⟨(PyData.keyHash P (Str.ofString "scriptDataDoubleEscapeStartState")), (.str (Str.ofString "scriptDataDoubleEscapeStartState") 1120), (.ref 493)⟩, ⟨(PyData.keyHash P (Str.ofString "scriptDataDoubleEscapedState")), (.str (Str.ofString "scriptDataDoubleEscapedState") 1127), (.ref 500)⟩, ⟨(PyData.keyHash P (Str.ofString "scriptDataDoubleEscapedDashState")), (.str (Str.ofString "scriptDataDoubleEscapedDashState") 1134), (.ref 507)⟩, ⟨(PyData.keyHash P (Str.ofString "scriptDataDoubleEscapedDashDashState")), (.str (Str.ofString "scriptDataDoubleEscapedDashDashState") 1141), (.ref 514)⟩, ⟨(PyData.keyHash P (Str.ofString "scriptDataDoubleEscapedLessThanSignState")), (.str (Str.ofString "scriptDataDoubleEscapedLessThanSignState") 1148), (.ref 521)⟩, ⟨(PyData.keyHash P (Str.ofString "scriptDataDoubleEscapeEndState")), (.str (Str.ofString "scriptDataDoubleEscapeEndState") 1155), (.ref 528)⟩, ⟨(PyData.keyHash P (Str.ofString "beforeAttributeNameState")), (.str (Str.ofString "beforeAttributeNameState") 1163), (.ref 535)⟩, ⟨(PyData.keyHash P (Str.ofString "attributeNameState")), (.str (Str.ofString "attributeNameState") 1175), (.ref 542)⟩, ⟨(PyData.keyHash P (Str.ofString "afterAttributeNameState")), (.str (Str.ofString "afterAttributeNameState") 1183), (.ref 549)⟩, ⟨(PyData.keyHash P (Str.ofString "beforeAttributeValueState")), (.str (Str.ofString "beforeAttributeValueState") 1191), (.ref 556)⟩, ⟨(PyData.keyHash P (Str.ofString "attributeValueDoubleQuotedState")), (.str (Str.ofString "attributeValueDoubleQuotedState") 1199), (.ref 563)⟩, ⟨(PyData.keyHash P (Str.ofString "attributeValueSingleQuotedState")), (.str (Str.ofString "attributeValueSingleQuotedState") 1207), (.ref 570)⟩, ⟨(PyData.keyHash P (Str.ofString "attributeValueUnQuotedState")), (.str (Str.ofString "attributeValueUnQuotedState") 1215), (.ref 577)⟩, ⟨(PyData.keyHash P (Str.ofString "afterAttributeValueState")), (.str (Str.ofString "afterAttributeValueState") 1223), (.ref 584)⟩, ⟨(PyData.keyHash P (Str.ofString "selfClosingStartTagState")), (.str (Str.ofString "selfClosingStartTagState") 1231), (.ref 591)⟩, ⟨(PyData.keyHash P (Str.ofString "bogusCommentState")), (.str (Str.ofString "bogusCommentState") 1239), (.ref 598)⟩, ⟨(PyData.keyHash P (Str.ofString "markupDeclarationOpenState")), (.str (Str.ofString "markupDeclarationOpenState") 1249), (.ref 605)⟩, ⟨(PyData.keyHash P (Str.ofString "commentStartState")), (.str (Str.ofString "commentStartState") 1257), (.ref 612)⟩, ⟨(PyData.keyHash P (Str.ofString "commentStartDashState")), (.str (Str.ofString "commentStartDashState") 1265), (.ref 619)⟩, ⟨(PyData.keyHash P (Str.ofString "commentState")), (.str (Str.ofString "commentState") 1273), (.ref 626)⟩, ⟨(PyData.keyHash P (Str.ofString "commentEndDashState")), (.str (Str.ofString "commentEndDashState") 1281), (.ref 633)⟩, ⟨(PyData.keyHash P (Str.ofString "commentEndState")), (.str (Str.ofString "commentEndState") 1289), (.ref 640)⟩, ⟨(PyData.keyHash P (Str.ofString "commentEndBangState")), (.str (Str.ofString "commentEndBangState") 1297), (.ref 647)⟩, ⟨(PyData.keyHash P (Str.ofString "doctypeState")), (.str (Str.ofString "doctypeState") 1305), (.ref 654)⟩, ⟨(PyData.keyHash P (Str.ofString "beforeDoctypeNameState")), (.str (Str.ofString "beforeDoctypeNameState") 1313), (.ref 661)⟩, ⟨(PyData.keyHash P (Str.ofString "doctypeNameState")), (.str (Str.ofString "doctypeNameState") 1321), (.ref 668)⟩, ⟨(PyData.keyHash P (Str.ofString "afterDoctypeNameState")), (.str (Str.ofString "afterDoctypeNameState") 1331), (.ref 675)⟩, ⟨(PyData.keyHash P (Str.ofString "afterDoctypePublicKeywordState")), (.str (Str.ofString "afterDoctypePublicKeywordState") 1339), (.ref 682)⟩, ⟨(PyData.keyHash P (Str.ofString "beforeDoctypePublicIdentifierState")), (.str (Str.ofString "beforeDoctypePublicIdentifierState") 1347), (.ref 689)⟩, ⟨(PyData.keyHash P (Str.ofString "doctypePublicIdentifierDoubleQuotedState")), (.str (Str.ofString "doctypePublicIdentifierDoubleQuotedState") 1355), (.ref 696)⟩, ⟨(PyData.keyHash P (Str.ofString "doctypePublicIdentifierSingleQuotedState")), (.str (Str.ofString "doctypePublicIdentifierSingleQuotedState") 1363), (.ref 703)⟩, ⟨(PyData.keyHash P (Str.ofString "afterDoctypePublicIdentifierState")), (.str (Str.ofString "afterDoctypePublicIdentifierState") 1371), (.ref 710)⟩, ⟨(PyData.keyHash P (Str.ofString "betweenDoctypePublicAndSystemIdentifiersState")), (.str (Str.ofString "betweenDoctypePublicAndSystemIdentifiersState") 1379), (.ref 717)⟩, ⟨(PyData.keyHash P (Str.ofString "afterDoctypeSystemKeywordState")), (.str (Str.ofString "afterDoctypeSystemKeywordState") 1387), (.ref 724)⟩, ⟨(PyData.keyHash P (Str.ofString "beforeDoctypeSystemIdentifierState")), (.str (Str.ofString "beforeDoctypeSystemIdentifierState") 1395), (.ref 731)⟩, ⟨(PyData.keyHash P (Str.ofString "doctypeSystemIdentifierDoubleQuotedState")), (.str (Str.ofString "doctypeSystemIdentifierDoubleQuotedState") 1403), (.ref 738)⟩, ⟨(PyData.keyHash P (Str.ofString "doctypeSystemIdentifierSingleQuotedState")), (.str (Str.ofString "doctypeSystemIdentifierSingleQuotedState") 1411), (.ref 745)⟩, ⟨(PyData.keyHash P (Str.ofString "afterDoctypeSystemIdentifierState")), (.str (Str.ofString "afterDoctypeSystemIdentifierState") 1419), (.ref 752)⟩, ⟨(PyData.keyHash P (Str.ofString "bogusDoctypeState")), (.str (Str.ofString "bogusDoctypeState") 1427), (.ref 759)⟩, ⟨(PyData.keyHash P (Str.ofString "__static_attributes__")), (.str (Str.ofString "__static_attributes__") 1436), (.ref 760)⟩, ⟨(PyData.keyHash P (Str.ofString "__dict__")), (.str (Str.ofString "__dict__") 1438), (.ref 763)⟩, ⟨(PyData.keyHash P (Str.ofString "__weakref__")), (.str (Str.ofString "__weakref__") 1440), (.ref 764)⟩, ⟨(PyData.keyHash P (Str.ofString "__doc__")), (.str (Str.ofString "__doc__") 1441), .none⟩] 4), #[]⟩
@[reducible] noncomputable def o762 (P : Params) : Obj := ⟨(.type "type"), none, (.cls ⟨(Str.ofString "HTMLTokenizer"), [(.type "object")], [(.ref 762), (.type "object")], 761, (Str.ofString "HTMLTokenizer"), true, [], [], false, none, false⟩), #[(some (.ref 247)), none, (some (.str (Str.ofString "HTMLTokenizer") 844)), (some (.str (Str.ofString "HTMLTokenizer") 852)), (some (.builtin "object.__new__")), (some (.bool true))]⟩
@[reducible] noncomputable def o763 (P : Params) : Obj := ⟨(.type "getset_descriptor"), none, (.fields #[(.str (Str.ofString "__dict__") 1437), (.ref 762), (.builtin "function.__dict__"), (.builtin "function.__dict__#set")]), #[]⟩
@[reducible] noncomputable def o764 (P : Params) : Obj := ⟨(.type "getset_descriptor"), none, (.fields #[(.str (Str.ofString "__weakref__") 1439), (.ref 762), (.builtin "ExceptionGroup.__weakref__"), .none]), #[]⟩
@[reducible] noncomputable def o765 (P : Params) : Obj := ⟨(.type "super"), none, (.fields #[(.ref 762), (.ref 762), (.ref 762)]), #[]⟩
@[reducible] noncomputable def o766 (P : Params) : Obj := ⟨(.type "builtin_function_or_method"), none, (.fields #[(.builtin "object.__init_subclass__"), (.ref 762)]), #[]⟩
@[reducible] noncomputable def t4 (P : Params) : BT := (.node (boot_o_0 P) (.node (boot_o_1 P) (.node (o3''' P) (.node (boot_o_7 P) (.node (o15 P) (.node (o31 P) (.node (o63 P) (.node (o127 P) (.node (o255 P) (.node (o511 P) .nil .nil) .nil) (.node (o383 P) (.node (o639 P) .nil .nil) .nil)) (.node (o191 P) (.node (o319 P) (.node (o575 P) .nil .nil) .nil) (.node (o447 P) (.node (o703 P) .nil .nil) .nil))) (.node (o95 P) (.node (o159 P) (.node (o287 P) (.node (o543 P) .nil .nil) .nil) (.node (o415 P) (.node (o671 P) .nil .nil) .nil)) (.node (o223 P) (.node (o351 P) (.node (o607 P) .nil .nil) .nil) (.node (o479 P) (.node (o735 P) .nil .nil) .nil)))) (.node (o47 P) (.node (o79 P) (.node (o143 P) (.node (o271 P) (.node (o527 P) .nil .nil) .nil) (.node (o399 P) (.node (o655 P) .nil .nil) .nil)) (.node (o207 P) (.node (o335 P) (.node (o591 P) .nil .nil) .nil) (.node (o463 P) (.node (o719 P) .nil .nil) .nil))) (.node (o111 P) (.node (o175 P) (.node (o303 P) (.node (o559 P) .nil .nil) .nil) (.node (o431 P) (.node (o687 P) .nil .nil) .nil)) (.node (o239 P) (.node (o367 P) (.node (o623 P) .nil .nil) .nil) (.node (o495 P) (.node (o751 P) .nil .nil) .nil))))) (.node (o23 P) (.node (o39 P) (.node (o71 P) (.node (o135 P) (.node (o263 P) (.node (o519 P) .nil .nil) .nil) (.node (o391 P) (.node (o647 P) .nil .nil) .nil)) (.node (o199 P) (.node (o327 P) (.node (o583 P) .nil .nil) .nil) (.node (o455 P) (.node (o711 P) .nil .nil) .nil))) (.node (o103 P) (.node (o167 P) (.node (o295 P) (.node (o551 P) .nil .nil) .nil) (.node (o423 P) (.node (o679 P) .nil .nil) .nil)) (.node (o231 P) (.node (o359 P) (.node (o615 P) .nil .nil) .nil) (.node (o487 P) (.node (o743 P) .nil .nil) .nil)))) (.node (o55 P) (.node (o87 P) (.node (o151 P) (.node (o279 P) (.node (o535 P) .nil .nil) .nil) (.node (o407 P) (.node (o663 P) .nil .nil) .nil)) (.node (o215 P) (.node (o343 P) (.node (o599 P) .nil .nil) .nil) (.node (o471 P) (.node (o727 P) .nil .nil) .nil))) (.node (o119 P) (.node (o183 P) (.node (o311 P) (.node (o567 P) .nil .nil) .nil) (.node (o439 P) (.node (o695 P) .nil .nil) .nil)) (.node (o247 P) (.node (o375 P) (.node (o631 P) .nil .nil) .nil) (.node (o503 P) (.node (o759 P) .nil .nil) .nil)))))) (.node (o11 P) (.node (o19 P) (.node (o35 P) (.node (o67 P) (.node (o131 P) (.node (o259 P) (.node (o515 P) .nil .nil) .nil) (.node (o387 P) (.node (o643 P) .nil .nil) .nil)) (.node (o195 P) (.node (o323 P) (.node (o579 P) .nil .nil) .nil) (.node (o451 P) (.node (o707 P) .nil .nil) .nil))) (.node (o99 P) (.node (o163 P) (.node (o291 P) (.node (o547 P) .nil .nil) .nil) (.node (o419 P) (.node (o675 P) .nil .nil) .nil)) (.node (o227 P) (.node (o355 P) (.node (o611 P) .nil .nil) .nil) (.node (o483 P) (.node (o739 P) .nil .nil) .nil)))) (.node (o51 P) (.node (o83 P) (.node (o147 P) (.node (o275 P) (.node (o531 P) .nil .nil) .nil) (.node (o403 P) (.node (o659 P) .nil .nil) .nil)) (.node (o211 P) (.node (o339 P) (.node (o595 P) .nil .nil) .nil) (.node (o467 P) (.node (o723 P) .nil .nil) .nil))) (.node (o115 P) (.node (o179 P) (.node (o307 P) (.node (o563 P) .nil .nil) .nil) (.node (o435 P) (.node (o691 P) .nil .nil) .nil)) (.node (o243 P) (.node (o371 P) (.node (o627 P) .nil .nil) .nil) (.node (o499 P) (.node (o755 P) .nil .nil) .nil))))) (.node (o27 P) (.node (o43 P) (.node (o75 P) (.node (o139 P) (.node (o267 P) (.node (o523 P) .nil .nil) .nil) (.node (o395 P) (.node (o651 P) .nil .nil) .nil)) (.node (o203 P) (.node (o331 P) (.node (o587 P) .nil .nil) .nil) (.node (o459 P) (.node (o715 P) .nil .nil) .nil))) (.node (o107 P) (.node (o171 P) (.node (o299 P) (.node (o555 P) .nil .nil) .nil) (.node (o427 P) (.node (o683 P) .nil .nil) .nil)) (.node (o235 P) (.node (o363 P) (.node (o619 P) .nil .nil) .nil) (.node (o491 P) (.node (o747 P) .nil .nil) .nil)))) (.node (o59 P) (.node (o91 P) (.node (o155 P) (.node (o283 P) (.node (o539 P) .nil .nil) .nil) (.node (o411 P) (.node (o667 P) .nil .nil) .nil)) (.node (o219 P) (.node (o347 P) (.node (o603 P) .nil .nil) .nil) (.node (o475 P) (.node (o731 P) .nil .nil) .nil))) (.node (o123 P) (.node (o187 P) (.node (o315 P) (.node (o571 P) .nil .nil) .nil) (.node (o443 P) (.node (o699 P) .nil .nil) .nil)) (.node (o251 P) (.node (o379 P) (.node (o635 P) .nil .nil) .nil) (.node (o507 P) (.node (o763 P) .nil .nil) .nil))))))) (.node (boot_o_5 P) (.node (boot_o_9 P) (.node (o17 P) (.node (o33 P) (.node (o65 P) (.node (o129 P) (.node (o257 P) (.node (o513 P) .nil .nil) .nil) (.node (o385 P) (.node (o641 P) .nil .nil) .nil)) (.node (o193 P) (.node (o321 P) (.node (o577 P) .nil .nil) .nil) (.node (o449 P) (.node (o705 P) .nil .nil) .nil))) (.node (o97 P) (.node (o161 P) (.node (o289 P) (.node (o545 P) .nil .nil) .nil) (.node (o417 P) (.node (o673 P) .nil .nil) .nil)) (.node (o225 P) (.node (o353 P) (.node (o609 P) .nil .nil) .nil) (.node (o481 P) (.node (o737 P) .nil .nil) .nil)))) (.node (o49 P) (.node (o81 P) (.node (o145 P) (.node (o273 P) (.node (o529 P) .nil .nil) .nil) (.node (o401 P) (.node (o657 P) .nil .nil) .nil)) (.node (o209 P) (.node (o337 P) (.node (o593 P) .nil .nil) .nil) (.node (o465 P) (.node (o721 P) .nil .nil) .nil))) (.node (o113 P) (.node (o177 P) (.node (o305 P) (.node (o561 P) .nil .nil) .nil) (.node (o433 P) (.node (o689 P) .nil .nil) .nil)) (.node (o241 P) (.node (o369 P) (.node (o625 P) .nil .nil) .nil) (.node (o497 P) (.node (o753 P) .nil .nil) .nil))))) (.node (o25 P) (.node (o41 P) (.node (o73 P) (.node (o137 P) (.node (o265 P) (.node (o521 P) .nil .nil) .nil) (.node (o393 P) (.node (o649 P) .nil .nil) .nil)) (.node (o201 P) (.node (o329 P) (.node (o585 P) .nil .nil) .nil) (.node (o457 P) (.node (o713 P) .nil .nil) .nil))) (.node (o105 P) (.node (o169 P) (.node (o297 P) (.node (o553 P) .nil .nil) .nil) (.node (o425 P) (.node (o681 P) .nil .nil) .nil)) (.node (o233 P) (.node (o361 P) (.node (o617 P) .nil .nil) .nil) (.node (o489 P) (.node (o745 P) .nil .nil) .nil)))) (.node (o57 P) (.node (o89 P) (.node (o153 P) (.node (o281 P) (.node (o537 P) .nil .nil) .nil) (.node (o409 P) (.node (o665 P) .nil .nil) .nil)) (.node (o217 P) (.node (o345 P) (.node (o601 P) .nil .nil) .nil) (.node (o473 P) (.node (o729 P) .nil .nil) .nil))) (.node (o121 P) (.node (o185 P) (.node (o313 P) (.node (o569 P) .nil .nil) .nil) (.node (o441 P) (.node (o697 P) .nil .nil) .nil)) (.node (o249 P) (.node (o377 P) (.node (o633 P) .nil .nil) .nil) (.node (o505 P) (.node (o761 P) .nil .nil) .nil)))))) (.node (o13 P) (.node (o21 P) (.node (o37 P) (.node (o69 P) (.node (o133 P) (.node (o261 P) (.node (o517 P) .nil .nil) .nil) (.node (o389 P) (.node (o645 P) .nil .nil) .nil)) (.node (o197 P) (.node (o325 P) (.node (o581 P) .nil .nil) .nil) (.node (o453 P) (.node (o709 P) .nil .nil) .nil))) (.node (o101 P) (.node (o165 P) (.node (o293 P) (.node (o549 P) .nil .nil) .nil) (.node (o421 P) (.node (o677 P) .nil .nil) .nil)) (.node (o229 P) (.node (o357 P) (.node (o613 P) .nil .nil) .nil) (.node (o485 P) (.node (o741 P) .nil .nil) .nil)))) (.node (o53 P) (.node (o85 P) (.node (o149 P) (.node (o277 P) (.node (o533 P) .nil .nil) .nil) (.node (o405 P) (.node (o661 P) .nil .nil) .nil)) (.node (o213 P) (.node (o341 P) (.node (o597 P) .nil .nil) .nil) (.node (o469 P) (.node (o725 P) .nil .nil) .nil))) (.node (o117 P) (.node (o181 P) (.node (o309 P) (.node (o565 P) .nil .nil) .nil) (.node (o437 P) (.node (o693 P) .nil .nil) .nil)) (.node (o245 P) (.node (o373 P) (.node (o629 P) .nil .nil) .nil) (.node (o501 P) (.node (o757 P) .nil .nil) .nil))))) (.node (o29 P) (.node (o45 P) (.node (o77 P) (.node (o141 P) (.node (o269 P) (.node (o525 P) .nil .nil) .nil) (.node (o397 P) (.node (o653 P) .nil .nil) .nil)) (.node (o205 P) (.node (o333 P) (.node (o589 P) .nil .nil) .nil) (.node (o461 P) (.node (o717 P) .nil .nil) .nil))) (.node (o109 P) (.node (o173 P) (.node (o301 P) (.node (o557 P) .nil .nil) .nil) (.node (o429 P) (.node (o685 P) .nil .nil) .nil)) (.node (o237 P) (.node (o365 P) (.node (o621 P) .nil .nil) .nil) (.node (o493 P) (.node (o749 P) .nil .nil) .nil)))) (.node (o61 P) (.node (o93 P) (.node (o157 P) (.node (o285 P) (.node (o541 P) .nil .nil) .nil) (.node (o413 P) (.node (o669 P) .nil .nil) .nil)) (.node (o221 P) (.node (o349 P) (.node (o605 P) .nil .nil) .nil) (.node (o477 P) (.node (o733 P) .nil .nil) .nil))) (.node (o125 P) (.node (o189 P) (.node (o317 P) (.node (o573 P) .nil .nil) .nil) (.node (o445 P) (.node (o701 P) .nil .nil) .nil)) (.node (o253 P) (.node (o381 P) (.node (o637 P) .nil .nil) .nil) (.node (o509 P) (.node (o765 P) .nil .nil) .nil)))))))) (.node (boot_o_2 P) (.node (boot_o_4 P) (.node (boot_o_8 P) (.node (o16 P) (.node (o32 P) (.node (o64 P) (.node (o128 P) (.node (o256 P) (.node (o512 P) .nil .nil) .nil) (.node (o384 P) (.node (o640 P) .nil .nil) .nil)) (.node (o192 P) (.node (o320 P) (.node (o576 P) .nil .nil) .nil) (.node (o448 P) (.node (o704 P) .nil .nil) .nil))) (.node (o96 P) (.node (o160 P) (.node (o288 P) (.node (o544 P) .nil .nil) .nil) (.node (o416 P) (.node (o672 P) .nil .nil) .nil)) (.node (o224 P) (.node (o352 P) (.node (o608 P) .nil .nil) .nil) (.node (o480 P) (.node (o736 P) .nil .nil) .nil)))) (.node (o48 P) (.node (o80 P) (.node (o144 P) (.node (o272 P) (.node (o528 P) .nil .nil) .nil) (.node (o400 P) (.node (o656 P) .nil .nil) .nil)) (.node (o208 P) (.node (o336 P) (.node (o592 P) .nil .nil) .nil) (.node (o464 P) (.node (o720 P) .nil .nil) .nil))) (.node (o112 P) (.node (o176 P) (.node (o304 P) (.node (o560 P) .nil .nil) .nil) (.node (o432 P) (.node (o688 P) .nil .nil) .nil)) (.node (o240 P) (.node (o368 P) (.node (o624 P) .nil .nil) .nil) (.node (o496 P) (.node (o752 P) .nil .nil) .nil))))) (.node (o24 P) (.node (o40 P) (.node (o72 P) (.node (o136 P) (.node (o264 P) (.node (o520 P) .nil .nil) .nil) (.node (o392 P) (.node (o648 P) .nil .nil) .nil)) (.node (o200 P) (.node (o328 P) (.node (o584 P) .nil .nil) .nil) (.node (o456 P) (.node (o712 P) .nil .nil) .nil))) (.node (o104 P) (.node (o168 P) (.node (o296 P) (.node (o552 P) .nil .nil) .nil) (.node (o424 P) (.node (o680 P) .nil .nil) .nil)) (.node (o232 P) (.node (o360 P) (.node (o616 P) .nil .nil) .nil) (.node (o488 P) (.node (o744 P) .nil .nil) .nil)))) (.node (o56 P) (.node (o88 P) (.node (o152 P) (.node (o280 P) (.node (o536 P) .nil .nil) .nil) (.node (o408 P) (.node (o664 P) .nil .nil) .nil)) (.node (o216 P) (.node (o344 P) (.node (o600 P) .nil .nil) .nil) (.node (o472 P) (.node (o728 P) .nil .nil) .nil))) (.node (o120 P) (.node (o184 P) (.node (o312 P) (.node (o568 P) .nil .nil) .nil) (.node (o440 P) (.node (o696 P) .nil .nil) .nil)) (.node (o248 P) (.node (o376 P) (.node (o632 P) .nil .nil) .nil) (.node (o504 P) (.node (o760 P) .nil .nil) .nil)))))) (.node (o12''' P) (.node (o20 P) (.node (o36 P) (.node (o68 P) (.node (o132 P) (.node (o260 P) (.node (o516 P) .nil .nil) .nil) (.node (o388 P) (.node (o644 P) .nil .nil) .nil)) (.node (o196 P) (.node (o324 P) (.node (o580 P) .nil .nil) .nil) (.node (o452 P) (.node (o708 P) .nil .nil) .nil))) (.node (o100 P) (.node (o164 P) (.node (o292 P) (.node (o548 P) .nil .nil) .nil) (.node (o420 P) (.node (o676 P) .nil .nil) .nil)) (.node (o228 P) (.node (o356 P) (.node (o612 P) .nil .nil) .nil) (.node (o484 P) (.node (o740 P) .nil .nil) .nil)))) (.node (o52 P) (.node (o84 P) (.node (o148 P) (.node (o276 P) (.node (o532 P) .nil .nil) .nil) (.node (o404 P) (.node (o660 P) .nil .nil) .nil)) (.node (o212 P) (.node (o340 P) (.node (o596 P) .nil .nil) .nil) (.node (o468 P) (.node (o724 P) .nil .nil) .nil))) (.node (o116 P) (.node (o180 P) (.node (o308 P) (.node (o564 P) .nil .nil) .nil) (.node (o436 P) (.node (o692 P) .nil .nil) .nil)) (.node (o244 P) (.node (o372 P) (.node (o628 P) .nil .nil) .nil) (.node (o500 P) (.node (o756 P) .nil .nil) .nil))))) (.node (o28 P) (.node (o44 P) (.node (o76 P) (.node (o140 P) (.node (o268 P) (.node (o524 P) .nil .nil) .nil) (.node (o396 P) (.node (o652 P) .nil .nil) .nil)) (.node (o204 P) (.node (o332 P) (.node (o588 P) .nil .nil) .nil) (.node (o460 P) (.node (o716 P) .nil .nil) .nil))) (.node (o108 P) (.node (o172 P) (.node (o300 P) (.node (o556 P) .nil .nil) .nil) (.node (o428 P) (.node (o684 P) .nil .nil) .nil)) (.node (o236 P) (.node (o364 P) (.node (o620 P) .nil .nil) .nil) (.node (o492 P) (.node (o748 P) .nil .nil) .nil)))) (.node (o60 P) (.node (o92 P) (.node (o156 P) (.node (o284 P) (.node (o540 P) .nil .nil) .nil) (.node (o412 P) (.node (o668 P) .nil .nil) .nil)) (.node (o220 P) (.node (o348 P) (.node (o604 P) .nil .nil) .nil) (.node (o476 P) (.node (o732 P) .nil .nil) .nil))) (.node (o124 P) (.node (o188 P) (.node (o316 P) (.node (o572 P) .nil .nil) .nil) (.node (o444 P) (.node (o700 P) .nil .nil) .nil)) (.node (o252 P) (.node (o380 P) (.node (o636 P) .nil .nil) .nil) (.node (o508 P) (.node (o764 P) .nil .nil) .nil))))))) (.node (boot_o_6 P) (.node (boot_o_10 P) (.node (o18 P) (.node (o34 P) (.node (o66 P) (.node (o130 P) (.node (o258 P) (.node (o514 P) .nil .nil) .nil) (.node (o386 P) (.node (o642 P) .nil .nil) .nil)) (.node (o194 P) (.node (o322 P) (.node (o578 P) .nil .nil) .nil) (.node (o450 P) (.node (o706 P) .nil .nil) .nil))) (.node (o98 P) (.node (o162 P) (.node (o290 P) (.node (o546 P) .nil .nil) .nil) (.node (o418 P) (.node (o674 P) .nil .nil) .nil)) (.node (o226 P) (.node (o354 P) (.node (o610 P) .nil .nil) .nil) (.node (o482 P) (.node (o738 P) .nil .nil) .nil)))) (.node (o50 P) (.node (o82 P) (.node (o146 P) (.node (o274 P) (.node (o530 P) .nil .nil) .nil) (.node (o402 P) (.node (o658 P) .nil .nil) .nil)) (.node (o210 P) (.node (o338 P) (.node (o594 P) .nil .nil) .nil) (.node (o466 P) (.node (o722 P) .nil .nil) .nil))) (.node (o114 P) (.node (o178 P) (.node (o306 P) (.node (o562 P) .nil .nil) .nil) (.node (o434 P) (.node (o690 P) .nil .nil) .nil)) (.node (o242 P) (.node (o370 P) (.node (o626 P) .nil .nil) .nil) (.node (o498 P) (.node (o754 P) .nil .nil) .nil))))) (.node (o26 P) (.node (o42 P) (.node (o74 P) (.node (o138 P) (.node (o266 P) (.node (o522 P) .nil .nil) .nil) (.node (o394 P) (.node (o650 P) .nil .nil) .nil)) (.node (o202 P) (.node (o330 P) (.node (o586 P) .nil .nil) .nil) (.node (o458 P) (.node (o714 P) .nil .nil) .nil))) (.node (o106 P) (.node (o170 P) (.node (o298 P) (.node (o554 P) .nil .nil) .nil) (.node (o426 P) (.node (o682 P) .nil .nil) .nil)) (.node (o234 P) (.node (o362 P) (.node (o618 P) .nil .nil) .nil) (.node (o490 P) (.node (o746 P) .nil .nil) .nil)))) (.node (o58 P) (.node (o90 P) (.node (o154 P) (.node (o282 P) (.node (o538 P) .nil .nil) .nil) (.node (o410 P) (.node (o666 P) .nil .nil) .nil)) (.node (o218 P) (.node (o346 P) (.node (o602 P) .nil .nil) .nil) (.node (o474 P) (.node (o730 P) .nil .nil) .nil))) (.node (o122 P) (.node (o186 P) (.node (o314 P) (.node (o570 P) .nil .nil) .nil) (.node (o442 P) (.node (o698 P) .nil .nil) .nil)) (.node (o250 P) (.node (o378 P) (.node (o634 P) .nil .nil) .nil) (.node (o506 P) (.node (o762 P) .nil .nil) .nil)))))) (.node (o14 P) (.node (o22 P) (.node (o38 P) (.node (o70 P) (.node (o134 P) (.node (o262 P) (.node (o518 P) .nil .nil) .nil) (.node (o390 P) (.node (o646 P) .nil .nil) .nil)) (.node (o198 P) (.node (o326 P) (.node (o582 P) .nil .nil) .nil) (.node (o454 P) (.node (o710 P) .nil .nil) .nil))) (.node (o102 P) (.node (o166 P) (.node (o294 P) (.node (o550 P) .nil .nil) .nil) (.node (o422 P) (.node (o678 P) .nil .nil) .nil)) (.node (o230 P) (.node (o358 P) (.node (o614 P) .nil .nil) .nil) (.node (o486 P) (.node (o742 P) .nil .nil) .nil)))) (.node (o54 P) (.node (o86 P) (.node (o150 P) (.node (o278 P) (.node (o534 P) .nil .nil) .nil) (.node (o406 P) (.node (o662 P) .nil .nil) .nil)) (.node (o214 P) (.node (o342 P) (.node (o598 P) .nil .nil) .nil) (.node (o470 P) (.node (o726 P) .nil .nil) .nil))) (.node (o118 P) (.node (o182 P) (.node (o310 P) (.node (o566 P) .nil .nil) .nil) (.node (o438 P) (.node (o694 P) .nil .nil) .nil)) (.node (o246 P) (.node (o374 P) (.node (o630 P) .nil .nil) .nil) (.node (o502 P) (.node (o758 P) .nil .nil) .nil))))) (.node (o30 P) (.node (o46 P) (.node (o78 P) (.node (o142 P) (.node (o270 P) (.node (o526 P) .nil .nil) .nil) (.node (o398 P) (.node (o654 P) .nil .nil) .nil)) (.node (o206 P) (.node (o334 P) (.node (o590 P) .nil .nil) .nil) (.node (o462 P) (.node (o718 P) .nil .nil) .nil))) (.node (o110 P) (.node (o174 P) (.node (o302 P) (.node (o558 P) .nil .nil) .nil) (.node (o430 P) (.node (o686 P) .nil .nil) .nil)) (.node (o238 P) (.node (o366 P) (.node (o622 P) .nil .nil) .nil) (.node (o494 P) (.node (o750 P) .nil .nil) .nil)))) (.node (o62 P) (.node (o94 P) (.node (o158 P) (.node (o286 P) (.node (o542 P) .nil .nil) .nil) (.node (o414 P) (.node (o670 P) .nil .nil) .nil)) (.node (o222 P) (.node (o350 P) (.node (o606 P) .nil .nil) .nil) (.node (o478 P) (.node (o734 P) .nil .nil) .nil))) (.node (o126 P) (.node (o190 P) (.node (o318 P) (.node (o574 P) .nil .nil) .nil) (.node (o446 P) (.node (o702 P) .nil .nil) .nil)) (.node (o254 P) (.node (o382 P) (.node (o638 P) .nil .nil) .nil) (.node (o510 P) (.node (o766 P) .nil .nil) .nil)))))))))
@[reducible] noncomputable def o3'''' (P : Params) : Obj := ⟨(.type "dict"), none, (.dict #[⟨(PyData.keyHash P (Str.ofString "__name__")), (.str (Str.ofString "__name__") 165), (.str (Str.ofString "law_qy0005_08") 1444)⟩, ⟨(PyData.keyHash P (Str.ofString "__doc__")), (.str (Str.ofString "__doc__") 166), .none⟩, ⟨(PyData.keyHash P (Str.ofString "__package__")), (.str (Str.ofString "__package__") 167), .none⟩, ⟨(PyData.keyHash P (Str.ofString "__loader__")), (.str (Str.ofString "__loader__") 168), (.builtin "__main__.__loader__#opaque")⟩, ⟨(PyData.keyHash P (Str.ofString "__spec__")), (.str (Str.ofString "__spec__") 169), .none⟩, ⟨(PyData.keyHash P (Str.ofString "__annotations__")), (.str (Str.ofString "__annotations__") 170), (.ref 6)⟩, ⟨(PyData.keyHash P (Str.ofString "__builtins__")), (.str (Str.ofString "__builtins__") 171), (.ref 4)⟩, ⟨(PyData.keyHash P (Str.ofString "__file__")), (.str (Str.ofString "__file__") 173), (.str (Str.ofString "/claim/cut.py") 172)⟩, ⟨(PyData.keyHash P (Str.ofString "__cached__")), (.str (Str.ofString "__cached__") 174), .none⟩, ⟨(PyData.keyHash P (Str.ofString "_wall")), (.str (Str.ofString "_wall") 193), (.ref 21)⟩, ⟨(PyData.keyHash P (Str.ofString "EOF")), (.str (Str.ofString "EOF") 196), .none⟩, ⟨(PyData.keyHash P (Str.ofString "spaceCharacters")), (.str (Str.ofString "spaceCharacters") 202), (.ref 22)⟩, ⟨(PyData.keyHash P (Str.ofString "asciiLetters")), (.str (Str.ofString "asciiLetters") 256), (.ref 27)⟩, ⟨(PyData.keyHash P (Str.ofString "digits")), (.str (Str.ofString "digits") 268), (.ref 32)⟩, ⟨(PyData.keyHash P (Str.ofString "hexDigits")), (.str (Str.ofString "hexDigits") 292), (.ref 37)⟩, ⟨(PyData.keyHash P (Str.ofString "asciiLower")), (.str (Str.ofString "asciiLower") 298), (.ref 42)⟩, ⟨(PyData.keyHash P (Str.ofString "entities")), (.str (Str.ofString "entities") 428), (.ref 43)⟩, ⟨(PyData.keyHash P (Str.ofString "replacementCharacters")), (.str (Str.ofString "replacementCharacters") 531), (.ref 46)⟩, ⟨(PyData.keyHash P (Str.ofString "tokenTypes")), (.str (Str.ofString "tokenTypes") 556), (.ref 48)⟩, ⟨(PyData.keyHash P (Str.ofString "tagTokenTypes")), (.str (Str.ofString "tagTokenTypes") 563), (.ref 49)⟩, ⟨(PyData.keyHash P (Str.ofString "Text")), (.str (Str.ofString "Text") 604), (.ref 73)⟩, ⟨(PyData.keyHash P (Str.ofString "_is_invalid")), (.str (Str.ofString "_is_invalid") 611), (.ref 84)⟩, ⟨(PyData.keyHash P (Str.ofString "HTMLUnicodeInputStream")), (.str (Str.ofString "HTMLUnicodeInputStream") 737), (.ref 166)⟩, ⟨(PyData.keyHash P (Str.ofString "bisect_left")), (.str (Str.ofString "bisect_left") 751), (.ref 178)⟩, ⟨(PyData.keyHash P (Str.ofString "Trie")), (.str (Str.ofString "Trie") 826), (.ref 230)⟩, ⟨(PyData.keyHash P (Str.ofString "entitiesTrie")), (.str (Str.ofString "entitiesTrie") 843), (.ref 236)⟩, ⟨(PyData.keyHash P (Str.ofString "HTMLTokenizer")), (.str (Str.ofString "HTMLTokenizer") 1443), (.ref 762)⟩, ⟨(PyData.keyHash P (Str.ofString "_law_SMALL")), (.str (Str.ofString "_law_SMALL") 1447), (.str (Str.ofString "0123456789abcdef") 1446)⟩, ⟨(PyData.keyHash P (Str.ofString "_law_LARGE")), (.str (Str.ofString "_law_LARGE") 1449), (.str (Str.ofString "0123456789ABCDEF") 1448)⟩, ⟨(PyData.keyHash P (Str.ofString "_law_OLD")), (.str (Str.ofString "_law_OLD") 1451), (.str (Str.ofString "€\x81‚ƒ„…†‡ˆ‰Š‹Œ\x8dŽ\x8f\x90‘’“”•–—˜™š›œ\x9džŸ") 1450)⟩, ⟨(PyData.keyHash P (Str.ofString "_law_BEHIND")), (.str (Str.ofString "_law_BEHIND") 1476), (.ref 767)⟩, ⟨(PyData.keyHash P (Str.ofString "_law_sign")), (.str (Str.ofString "_law_sign") 1483), (.ref 776)⟩, ⟨(PyData.keyHash P (Str.ofString "law")), (.str (Str.ofString "law") 1502), (.ref 783)⟩] 33), #[]⟩
@[reducible] noncomputable def o12'''' (P : Params) : Obj := ⟨.none, none, (.fields #[(.int 1 0), (.int 0 0), (.ref 20), (.int 10 0), (.int 0 0), (.ref 41), (.int 17 0), (.int 0 0), (.ref 55), (.int 27 0), (.int 0 0), (.ref 83), (.int 29 0), (.int 0 0), (.ref 90), (.int 134 0), (.int 0 0), (.ref 177), (.int 144 0), (.int 0 0), (.ref 184), (.int 182 0), (.int 0 0), (.ref 252), (.int 1190 0), (.int 0 0), (.ref 775), (.int 1198 0), (.int 0 0), (.ref 782)]), #[]⟩
@[reducible] noncomputable def o767 (P : Params) : Obj := ⟨(.type "dict"), none, (.dict #[⟨10, (.int 10 1452), (.ref 768)⟩, ⟨16, (.int 16 1463), (.ref 769)⟩] 2), #[]⟩
@[reducible] noncomputable def o768 (P : Params) : Obj := ⟨(.type "list"), none, (.seq #[(.str (Str.ofString "") 1453), (.str (Str.ofString ";") 1454), (.str (Str.ofString ";;") 1455), (.str (Str.ofString "a;") 1456), (.str (Str.ofString "F") 1457), (.str (Str.ofString "x1;") 1458), (.str (Str.ofString " ;") 1459), (.str (Str.ofString "&") 1460), (.str (Str.ofString "١;") 1461), (.str (Str.ofString "_1;") 1462)] 0), #[]⟩
@[reducible] noncomputable def o769 (P : Params) : Obj := ⟨(.type "list"), none, (.seq #[(.str (Str.ofString "") 1464), (.str (Str.ofString ";") 1465), (.str (Str.ofString ";;") 1466), (.str (Str.ofString "g;") 1467), (.str (Str.ofString "G") 1468), (.str (Str.ofString "x1;") 1469), (.str (Str.ofString " ;") 1470), (.str (Str.ofString "&") 1471), (.str (Str.ofString "١;") 1472), (.str (Str.ofString "_1;") 1473)] 0), #[]⟩
@[reducible] noncomputable def o770 (P : Params) : Obj := ⟨(.type "tuple"), none, (.seq #[] 0), #[]⟩
@[reducible] noncomputable def o771 (P : Params) : Obj := ⟨.none, none, (.fields #[]), #[]⟩
@[reducible] noncomputable def o772 (P : Params) : Obj := ⟨(.type "tuple"), none, (.seq #[(.str (Str.ofString "value") 1480)] 0), #[]⟩
@[reducible] noncomputable def o773 (P : Params) : Obj := ⟨(.type "tuple"), none, (.seq #[] 0), #[]⟩
@[reducible] noncomputable def a__law_sign : Arguments := (fun x (_ : x = dArgs (D1 27)) => x) _ (by conv => rhs; whnf)
@[reducible] noncomputable def b__law_sign : List Stmt := (fun x (_ : x = dBody (D1 27)) => x) _ (by conv => rhs; whnf)
@[reducible] noncomputable def c__law_sign : Scope := (fun x (_ : x = dScope (D1 27)) => x) _ (by conv => rhs; whnf)
@[reducible] noncomputable def o774 (P : Params) : Obj := ⟨.none, none, (.func ⟨(Str.ofString "_law_sign"), (Str.ofString "_law_sign"), a__law_sign, .stmts b__law_sign, c__law_sign, 0, [], .none, .none, .none, .none, none, .none, .none, 0⟩), #[]⟩
@[reducible] noncomputable def o775 (P : Params) : Obj := ⟨(.type "code"), none, (.fields #[(.str (Str.ofString "_law_sign") 1477), (.str (Str.ofString "_law_sign") 1478), (.str (Str.ofString "/claim/cut.py") 1479), (.int 1190 0), (.int 1 0), (.int 0 0), (.int 0 0), (.int 3 0), (.ref 770), (.bool true), (.int 181 0), (.ref 771), .none, (.ref 772), (.ref 773), (.ref 774), (.int 1481 0), (.int 1190 0), (.str (Str.ofString "/claim/cut.py") 1482)]), #[]⟩
@[reducible] noncomputable def o776 (P : Params) : Obj := ⟨(.type "function"), none, (.func ⟨(Str.ofString "_law_sign"), (Str.ofString "_law_sign"), a__law_sign, .stmts b__law_sign, c__law_sign, 3, [], .none, .none, .none, (.str (Str.ofString "law_qy0005_08") 1444), none, (.ref 775), .none, 0⟩), #[]⟩
@[reducible] noncomputable def o777 (P : Params) : Obj := ⟨(.type "tuple"), none, (.seq #[] 0), #[]⟩
@[reducible] noncomputable def o778 (P : Params) : Obj := ⟨.none, none, (.fields #[]), #[]⟩
@[reducible] noncomputable def o779 (P : Params) : Obj := ⟨(.type "tuple"), none, (.seq #[(.str (Str.ofString "script") 1487), (.str (Str.ofString "head") 1488), (.str (Str.ofString "base") 1489), (.str (Str.ofString "behind") 1490), (.str (Str.ofString "text") 1491), (.str (Str.ofString "value") 1492), (.str (Str.ofString "n") 1493), (.str (Str.ofString "one") 1494), (.str (Str.ofString "sign") 1495), (.str (Str.ofString "told") 1496), (.str (Str.ofString "due") 1497), (.str (Str.ofString "rest") 1498), (.str (Str.ofString "t") 1499)] 0), #[]⟩
@[reducible] noncomputable def o780 (P : Params) : Obj := ⟨(.type "tuple"), none, (.seq #[] 0), #[]⟩
@[reducible] noncomputable def a_law : Arguments := (fun x (_ : x = dArgs (D1 28)) => x) _ (by conv => rhs; whnf)
@[reducible] noncomputable def b_law : List Stmt := (fun x (_ : x = dBody (D1 28)) => x) _ (by conv => rhs; whnf)
@[reducible] noncomputable def c_law : Scope := (fun x (_ : x = dScope (D1 28)) => x) _ (by conv => rhs; whnf)
@[reducible] noncomputable def o781 (P : Params) : Obj := ⟨.none, none, (.func ⟨(Str.ofString "law"), (Str.ofString "law"), a_law, .stmts b_law, c_law, 0, [], .none, .none, .none, .none, none, .none, .none, 0⟩), #[]⟩
@[reducible] noncomputable def o782 (P : Params) : Obj := ⟨(.type "code"), none, (.fields #[(.str (Str.ofString "law") 1484), (.str (Str.ofString "law") 1485), (.str (Str.ofString "/claim/cut.py") 1486), (.int 1198 0), (.int 1 0), (.int 0 0), (.int 0 0), (.int 3 0), (.ref 777), (.bool true), (.int 181 0), (.ref 778), .none, (.ref 779), (.ref 780), (.ref 781), (.int 1500 0), (.int 1198 0), (.str (Str.ofString "/claim/cut.py") 1501)]), #[]⟩
@[reducible] noncomputable def o783 (P : Params) : Obj := ⟨(.type "function"), none, (.func ⟨(Str.ofString "law"), (Str.ofString "law"), a_law, .stmts b_law, c_law, 3, [], .none, .none, .none, (.str (Str.ofString "law_qy0005_08") 1444), none, (.ref 782), .none, 0⟩), #[]⟩
@[reducible] noncomputable def t5 (P : Params) : BT := (.node (boot_o_0 P) (.node (boot_o_1 P) (.node (o3'''' P) (.node (boot_o_7 P) (.node (o15 P) (.node (o31 P) (.node (o63 P) (.node (o127 P) (.node (o255 P) (.node (o511 P) .nil .nil) (.node (o767 P) .nil .nil)) (.node (o383 P) (.node (o639 P) .nil .nil) .nil)) (.node (o191 P) (.node (o319 P) (.node (o575 P) .nil .nil) .nil) (.node (o447 P) (.node (o703 P) .nil .nil) .nil))) (.node (o95 P) (.node (o159 P) (.node (o287 P) (.node (o543 P) .nil .nil) .nil) (.node (o415 P) (.node (o671 P) .nil .nil) .nil)) (.node (o223 P) (.node (o351 P) (.node (o607 P) .nil .nil) .nil) (.node (o479 P) (.node (o735 P) .nil .nil) .nil)))) (.node (o47 P) (.node (o79 P) (.node (o143 P) (.node (o271 P) (.node (o527 P) .nil .nil) (.node (o783 P) .nil .nil)) (.node (o399 P) (.node (o655 P) .nil .nil) .nil)) (.node (o207 P) (.node (o335 P) (.node (o591 P) .nil .nil) .nil) (.node (o463 P) (.node (o719 P) .nil .nil) .nil))) (.node (o111 P) (.node (o175 P) (.node (o303 P) (.node (o559 P) .nil .nil) .nil) (.node (o431 P) (.node (o687 P) .nil .nil) .nil)) (.node (o239 P) (.node (o367 P) (.node (o623 P) .nil .nil) .nil) (.node (o495 P) (.node (o751 P) .nil .nil) .nil))))) (.node (o23 P) (.node (o39 P) (.node (o71 P) (.node (o135 P) (.node (o263 P) (.node (o519 P) .nil .nil) (.node (o775 P) .nil .nil)) (.node (o391 P) (.node (o647 P) .nil .nil) .nil)) (.node (o199 P) (.node (o327 P) (.node (o583 P) .nil .nil) .nil) (.node (o455 P) (.node (o711 P) .nil .nil) .nil))) (.node (o103 P) (.node (o167 P) (.node (o295 P) (.node (o551 P) .nil .nil) .nil) (.node (o423 P) (.node (o679 P) .nil .nil) .nil)) (.node (o231 P) (.node (o359 P) (.node (o615 P) .nil .nil) .nil) (.node (o487 P) (.node (o743 P) .nil .nil) .nil)))) (.node (o55 P) (.node (o87 P) (.node (o151 P) (.node (o279 P) (.node (o535 P) .nil .nil) .nil) (.node (o407 P) (.node (o663 P) .nil .nil) .nil)) (.node (o215 P) (.node (o343 P) (.node (o599 P) .nil .nil) .nil) (.node (o471 P) (.node (o727 P) .nil .nil) .nil))) (.node (o119 P) (.node (o183 P) (.node (o311 P) (.node (o567 P) .nil .nil) .nil) (.node (o439 P) (.node (o695 P) .nil .nil) .nil)) (.node (o247 P) (.node (o375 P) (.node (o631 P) .nil .nil) .nil) (.node (o503 P) (.node (o759 P) .nil .nil) .nil)))))) (.node (o11 P) (.node (o19 P) (.node (o35 P) (.node (o67 P) (.node (o131 P) (.node (o259 P) (.node (o515 P) .nil .nil) (.node (o771 P) .nil .nil)) (.node (o387 P) (.node (o643 P) .nil .nil) .nil)) (.node (o195 P) (.node (o323 P) (.node (o579 P) .nil .nil) .nil) (.node (o451 P) (.node (o707 P) .nil .nil) .nil))) (.node (o99 P) (.node (o163 P) (.node (o291 P) (.node (o547 P) .nil .nil) .nil) (.node (o419 P) (.node (o675 P) .nil .nil) .nil)) (.node (o227 P) (.node (o355 P) (.node (o611 P) .nil .nil) .nil) (.node (o483 P) (.node (o739 P) .nil .nil) .nil)))) (.node (o51 P) (.node (o83 P) (.node (o147 P) (.node (o275 P) (.node (o531 P) .nil .nil) .nil) (.node (o403 P) (.node (o659 P) .nil .nil) .nil)) (.node (o211 P) (.node (o339 P) (.node (o595 P) .nil .nil) .nil) (.node (o467 P) (.node (o723 P) .nil .nil) .nil))) (.node (o115 P) (.node (o179 P) (.node (o307 P) (.node (o563 P) .nil .nil) .nil) (.node (o435 P) (.node (o691 P) .nil .nil) .nil)) (.node (o243 P) (.node (o371 P) (.node (o627 P) .nil .nil) .nil) (.node (o499 P) (.node (o755 P) .nil .nil) .nil))))) (.node (o27 P) (.node (o43 P) (.node (o75 P) (.node (o139 P) (.node (o267 P) (.node (o523 P) .nil .nil) (.node (o779 P) .nil .nil)) (.node (o395 P) (.node (o651 P) .nil .nil) .nil)) (.node (o203 P) (.node (o331 P) (.node (o587 P) .nil .nil) .nil) (.node (o459 P) (.node (o715 P) .nil .nil) .nil))) (.node (o107 P) (.node (o171 P) (.node (o299 P) (.node (o555 P) .nil .nil) .nil) (.node (o427 P) (.node (o683 P) .nil .nil) .nil)) (.node (o235 P) (.node (o363 P) (.node (o619 P) .nil .nil) .nil) (.node (o491 P) (.node (o747 P) .nil .nil) .nil)))) (.node (o59 P) (.node (o91 P) (.node (o155 P) (.node (o283 P) (.node (o539 P) .nil .nil) .nil) (.node (o411 P) (.node (o667 P) .nil .nil) .nil)) (.node (o219 P) (.node (o347 P) (.node (o603 P) .nil .nil) .nil) (.node (o475 P) (.node (o731 P) .nil .nil) .nil))) (.node (o123 P) (.node (o187 P) (.node (o315 P) (.node (o571 P) .nil .nil) .nil) (.node (o443 P) (.node (o699 P) .nil .nil) .nil)) (.node (o251 P) (.node (o379 P) (.node (o635 P) .nil .nil) .nil) (.node (o507 P) (.node (o763 P) .nil .nil) .nil))))))) (.node (boot_o_5 P) (.node (boot_o_9 P) (.node (o17 P) (.node (o33 P) (.node (o65 P) (.node (o129 P) (.node (o257 P) (.node (o513 P) .nil .nil) (.node (o769 P) .nil .nil)) (.node (o385 P) (.node (o641 P) .nil .nil) .nil)) (.node (o193 P) (.node (o321 P) (.node (o577 P) .nil .nil) .nil) (.node (o449 P) (.node (o705 P) .nil .nil) .nil))) (.node (o97 P) (.node (o161 P) (.node (o289 P) (.node (o545 P) .nil .nil) .nil) (.node (o417 P) (.node (o673 P) .nil .nil) .nil)) (.node (o225 P) (.node (o353 P) (.node (o609 P) .nil .nil) .nil) (.node (o481 P) (.node (o737 P) .nil .nil) .nil)))) (.node (o49 P) (.node (o81 P) (.node (o145 P) (.node (o273 P) (.node (o529 P) .nil .nil) .nil) (.node (o401 P) (.node (o657 P) .nil .nil) .nil)) (.node (o209 P) (.node (o337 P) (.node (o593 P) .nil .nil) .nil) (.node (o465 P) (.node (o721 P) .nil .nil) .nil))) (.node (o113 P) (.node (o177 P) (.node (o305 P) (.node (o561 P) .nil .nil) .nil) (.node (o433 P) (.node (o689 P) .nil .nil) .nil)) (.node (o241 P) (.node (o369 P) (.node (o625 P) .nil .nil) .nil) (.node (o497 P) (.node (o753 P) .nil .nil) .nil))))) (.node (o25 P) (.node (o41 P) (.node (o73 P) (.node (o137 P) (.node (o265 P) (.node (o521 P) .nil .nil) (.node (o777 P) .nil .nil)) (.node (o393 P) (.node (o649 P) .nil .nil) .nil)) (.node (o201 P) (.node (o329 P) (.node (o585 P) .nil .nil) .nil) (.node (o457 P) (.node (o713 P) .nil .nil) .nil))) (.node (o105 P) (.node (o169 P) (.node (o297 P) (.node (o553 P) .nil .nil) .nil) (.node (o425 P) (.node (o681 P) .nil .nil) .nil)) (.node (o233 P) (.node (o361 P) (.node (o617 P) .nil .nil) .nil) (.node (o489 P) (.node (o745 P) .nil .nil) .nil)))) (.node (o57 P) (.node (o89 P) (.node (o153 P) (.node (o281 P) (.node (o537 P) .nil .nil) .nil) (.node (o409 P) (.node (o665 P) .nil .nil) .nil)) (.node (o217 P) (.node (o345 P) (.node (o601 P) .nil .nil) .nil) (.node (o473 P) (.node (o729 P) .nil .nil) .nil))) (.node (o121 P) (.node (o185 P) (.node (o313 P) (.node (o569 P) .nil .nil) .nil) (.node (o441 P) (.node (o697 P) .nil .nil) .nil)) (.node (o249 P) (.node (o377 P) (.node (o633 P) .nil .nil) .nil) (.node (o505 P) (.node (o761 P) .nil .nil) .nil)))))) (.node (o13 P) (.node (o21 P) (.node (o37 P) (.node (o69 P) (.node (o133 P) (.node (o261 P) (.node (o517 P) .nil .nil) (.node (o773 P) .nil .nil)) (.node (o389 P) (.node (o645 P) .nil .nil) .nil)) (.node (o197 P) (.node (o325 P) (.node (o581 P) .nil .nil) .nil) (.node (o453 P) (.node (o709 P) .nil .nil) .nil))) (.node (o101 P) (.node (o165 P) (.node (o293 P) (.node (o549 P) .nil .nil) .nil) (.node (o421 P) (.node (o677 P) .nil .nil) .nil)) (.node (o229 P) (.node (o357 P) (.node (o613 P) .nil .nil) .nil) (.node (o485 P) (.node (o741 P) .nil .nil) .nil)))) (.node (o53 P) (.node (o85 P) (.node (o149 P) (.node (o277 P) (.node (o533 P) .nil .nil) .nil) (.node (o405 P) (.node (o661 P) .nil .nil) .nil)) (.node (o213 P) (.node (o341 P) (.node (o597 P) .nil .nil) .nil) (.node (o469 P) (.node (o725 P) .nil .nil) .nil))) (.node (o117 P) (.node (o181 P) (.node (o309 P) (.node (o565 P) .nil .nil) .nil) (.node (o437 P) (.node (o693 P) .nil .nil) .nil)) (.node (o245 P) (.node (o373 P) (.node (o629 P) .nil .nil) .nil) (.node (o501 P) (.node (o757 P) .nil .nil) .nil))))) (.node (o29 P) (.node (o45 P) (.node (o77 P) (.node (o141 P) (.node (o269 P) (.node (o525 P) .nil .nil) (.node (o781 P) .nil .nil)) (.node (o397 P) (.node (o653 P) .nil .nil) .nil)) (.node (o205 P) (.node (o333 P) (.node (o589 P) .nil .nil) .nil) (.node (o461 P) (.node (o717 P) .nil .nil) .nil))) (.node (o109 P) (.node (o173 P) (.node (o301 P) (.node (o557 P) .nil .nil) .nil) (.node (o429 P) (.node (o685 P) .nil .nil) .nil)) (.node (o237 P) (.node (o365 P) (.node (o621 P) .nil .nil) .nil) (.node (o493 P) (.node (o749 P) .nil .nil) .nil)))) (.node (o61 P) (.node (o93 P) (.node (o157 P) (.node (o285 P) (.node (o541 P) .nil .nil) .nil) (.node (o413 P) (.node (o669 P) .nil .nil) .nil)) (.node (o221 P) (.node (o349 P) (.node (o605 P) .nil .nil) .nil) (.node (o477 P) (.node (o733 P) .nil .nil) .nil))) (.node (o125 P) (.node (o189 P) (.node (o317 P) (.node (o573 P) .nil .nil) .nil) (.node (o445 P) (.node (o701 P) .nil .nil) .nil)) (.node (o253 P) (.node (o381 P) (.node (o637 P) .nil .nil) .nil) (.node (o509 P) (.node (o765 P) .nil .nil) .nil)))))))) (.node (boot_o_2 P) (.node (boot_o_4 P) (.node (boot_o_8 P) (.node (o16 P) (.node (o32 P) (.node (o64 P) (.node (o128 P) (.node (o256 P) (.node (o512 P) .nil .nil) (.node (o768 P) .nil .nil)) (.node (o384 P) (.node (o640 P) .nil .nil) .nil)) (.node (o192 P) (.node (o320 P) (.node (o576 P) .nil .nil) .nil) (.node (o448 P) (.node (o704 P) .nil .nil) .nil))) (.node (o96 P) (.node (o160 P) (.node (o288 P) (.node (o544 P) .nil .nil) .nil) (.node (o416 P) (.node (o672 P) .nil .nil) .nil)) (.node (o224 P) (.node (o352 P) (.node (o608 P) .nil .nil) .nil) (.node (o480 P) (.node (o736 P) .nil .nil) .nil)))) (.node (o48 P) (.node (o80 P) (.node (o144 P) (.node (o272 P) (.node (o528 P) .nil .nil) .nil) (.node (o400 P) (.node (o656 P) .nil .nil) .nil)) (.node (o208 P) (.node (o336 P) (.node (o592 P) .nil .nil) .nil) (.node (o464 P) (.node (o720 P) .nil .nil) .nil))) (.node (o112 P) (.node (o176 P) (.node (o304 P) (.node (o560 P) .nil .nil) .nil) (.node (o432 P) (.node (o688 P) .nil .nil) .nil)) (.node (o240 P) (.node (o368 P) (.node (o624 P) .nil .nil) .nil) (.node (o496 P) (.node (o752 P) .nil .nil) .nil))))) (.node (o24 P) (.node (o40 P) (.node (o72 P) (.node (o136 P) (.node (o264 P) (.node (o520 P) .nil .nil) (.node (o776 P) .nil .nil)) (.node (o392 P) (.node (o648 P) .nil .nil) .nil)) (.node (o200 P) (.node (o328 P) (.node (o584 P) .nil .nil) .nil) (.node (o456 P) (.node (o712 P) .nil .nil) .nil))) (.node (o104 P) (.node (o168 P) (.node (o296 P) (.node (o552 P) .nil .nil) .nil) (.node (o424 P) (.node (o680 P) .nil .nil) .nil)) (.node (o232 P) (.node (o360 P) (.node (o616 P) .nil .nil) .nil) (.node (o488 P) (.node (o744 P) .nil .nil) .nil)))) (.node (o56 P) (.node (o88 P) (.node (o152 P) (.node (o280 P) (.node (o536 P) .nil .nil) .nil) (.node (o408 P) (.node (o664 P) .nil .nil) .nil)) (.node (o216 P) (.node (o344 P) (.node (o600 P) .nil .nil) .nil) (.node (o472 P) (.node (o728 P) .nil .nil) .nil))) (.node (o120 P) (.node (o184 P) (.node (o312 P) (.node (o568 P) .nil .nil) .nil) (.node (o440 P) (.node (o696 P) .nil .nil) .nil)) (.node (o248 P) (.node (o376 P) (.node (o632 P) .nil .nil) .nil) (.node (o504 P) (.node (o760 P) .nil .nil) .nil)))))) (.node (o12'''' P) (.node (o20 P) (.node (o36 P) (.node (o68 P) (.node (o132 P) (.node (o260 P) (.node (o516 P) .nil .nil) (.node (o772 P) .nil .nil)) (.node (o388 P) (.node (o644 P) .nil .nil) .nil)) (.node (o196 P) (.node (o324 P) (.node (o580 P) .nil .nil) .nil) (.node (o452 P) (.node (o708 P) .nil .nil) .nil))) (.node (o100 P) (.node (o164 P) (.node (o292 P) (.node (o548 P) .nil .nil) .nil) (.node (o420 P) (.node (o676 P) .nil .nil) .nil)) (.node (o228 P) (.node (o356 P) (.node (o612 P) .nil .nil) .nil) (.node (o484 P) (.node (o740 P) .nil .nil) .nil)))) (.node (o52 P) (.node (o84 P) (.node (o148 P) (.node (o276 P) (.node (o532 P) .nil .nil) .nil) (.node (o404 P) (.node (o660 P) .nil .nil) .nil)) (.node (o212 P) (.node (o340 P) (.node (o596 P) .nil .nil) .nil) (.node (o468 P) (.node (o724 P) .nil .nil) .nil))) (.node (o116 P) (.node (o180 P) (.node (o308 P) (.node (o564 P) .nil .nil) .nil) (.node (o436 P) (.node (o692 P) .nil .nil) .nil)) (.node (o244 P) (.node (o372 P) (.node (o628 P) .nil .nil) .nil) (.node (o500 P) (.node (o756 P) .nil .nil) .nil))))) (.node (o28 P) (.node (o44 P) (.node (o76 P) (.node (o140 P) (.node (o268 P) (.node (o524 P) .nil .nil) (.node (o780 P) .nil .nil)) (.node (o396 P) (.node (o652 P) .nil .nil) .nil)) (.node (o204 P) (.node (o332 P) (.node (o588 P) .nil .nil) .nil) (.node (o460 P) (.node (o716 P) .nil .nil) .nil))) (.node (o108 P) (.node (o172 P) (.node (o300 P) (.node (o556 P) .nil .nil) .nil) (.node (o428 P) (.node (o684 P) .nil .nil) .nil)) (.node (o236 P) (.node (o364 P) (.node (o620 P) .nil .nil) .nil) (.node (o492 P) (.node (o748 P) .nil .nil) .nil)))) (.node (o60 P) (.node (o92 P) (.node (o156 P) (.node (o284 P) (.node (o540 P) .nil .nil) .nil) (.node (o412 P) (.node (o668 P) .nil .nil) .nil)) (.node (o220 P) (.node (o348 P) (.node (o604 P) .nil .nil) .nil) (.node (o476 P) (.node (o732 P) .nil .nil) .nil))) (.node (o124 P) (.node (o188 P) (.node (o316 P) (.node (o572 P) .nil .nil) .nil) (.node (o444 P) (.node (o700 P) .nil .nil) .nil)) (.node (o252 P) (.node (o380 P) (.node (o636 P) .nil .nil) .nil) (.node (o508 P) (.node (o764 P) .nil .nil) .nil))))))) (.node (boot_o_6 P) (.node (boot_o_10 P) (.node (o18 P) (.node (o34 P) (.node (o66 P) (.node (o130 P) (.node (o258 P) (.node (o514 P) .nil .nil) (.node (o770 P) .nil .nil)) (.node (o386 P) (.node (o642 P) .nil .nil) .nil)) (.node (o194 P) (.node (o322 P) (.node (o578 P) .nil .nil) .nil) (.node (o450 P) (.node (o706 P) .nil .nil) .nil))) (.node (o98 P) (.node (o162 P) (.node (o290 P) (.node (o546 P) .nil .nil) .nil) (.node (o418 P) (.node (o674 P) .nil .nil) .nil)) (.node (o226 P) (.node (o354 P) (.node (o610 P) .nil .nil) .nil) (.node (o482 P) (.node (o738 P) .nil .nil) .nil)))) (.node (o50 P) (.node (o82 P) (.node (o146 P) (.node (o274 P) (.node (o530 P) .nil .nil) .nil) (.node (o402 P) (.node (o658 P) .nil .nil) .nil)) (.node (o210 P) (.node (o338 P) (.node (o594 P) .nil .nil) .nil) (.node (o466 P) (.node (o722 P) .nil .nil) .nil))) (.node (o114 P) (.node (o178 P) (.node (o306 P) (.node (o562 P) .nil .nil) .nil) (.node (o434 P) (.node (o690 P) .nil .nil) .nil)) (.node (o242 P) (.node (o370 P) (.node (o626 P) .nil .nil) .nil) (.node (o498 P) (.node (o754 P) .nil .nil) .nil))))) (.node (o26 P) (.node (o42 P) (.node (o74 P) (.node (o138 P) (.node (o266 P) (.node (o522 P) .nil .nil) (.node (o778 P) .nil .nil)) (.node (o394 P) (.node (o650 P) .nil .nil) .nil)) (.node (o202 P) (.node (o330 P) (.node (o586 P) .nil .nil) .nil) (.node (o458 P) (.node (o714 P) .nil .nil) .nil))) (.node (o106 P) (.node (o170 P) (.node (o298 P) (.node (o554 P) .nil .nil) .nil) (.node (o426 P) (.node (o682 P) .nil .nil) .nil)) (.node (o234 P) (.node (o362 P) (.node (o618 P) .nil .nil) .nil) (.node (o490 P) (.node (o746 P) .nil .nil) .nil)))) (.node (o58 P) (.node (o90 P) (.node (o154 P) (.node (o282 P) (.node (o538 P) .nil .nil) .nil) (.node (o410 P) (.node (o666 P) .nil .nil) .nil)) (.node (o218 P) (.node (o346 P) (.node (o602 P) .nil .nil) .nil) (.node (o474 P) (.node (o730 P) .nil .nil) .nil))) (.node (o122 P) (.node (o186 P) (.node (o314 P) (.node (o570 P) .nil .nil) .nil) (.node (o442 P) (.node (o698 P) .nil .nil) .nil)) (.node (o250 P) (.node (o378 P) (.node (o634 P) .nil .nil) .nil) (.node (o506 P) (.node (o762 P) .nil .nil) .nil)))))) (.node (o14 P) (.node (o22 P) (.node (o38 P) (.node (o70 P) (.node (o134 P) (.node (o262 P) (.node (o518 P) .nil .nil) (.node (o774 P) .nil .nil)) (.node (o390 P) (.node (o646 P) .nil .nil) .nil)) (.node (o198 P) (.node (o326 P) (.node (o582 P) .nil .nil) .nil) (.node (o454 P) (.node (o710 P) .nil .nil) .nil))) (.node (o102 P) (.node (o166 P) (.node (o294 P) (.node (o550 P) .nil .nil) .nil) (.node (o422 P) (.node (o678 P) .nil .nil) .nil)) (.node (o230 P) (.node (o358 P) (.node (o614 P) .nil .nil) .nil) (.node (o486 P) (.node (o742 P) .nil .nil) .nil)))) (.node (o54 P) (.node (o86 P) (.node (o150 P) (.node (o278 P) (.node (o534 P) .nil .nil) .nil) (.node (o406 P) (.node (o662 P) .nil .nil) .nil)) (.node (o214 P) (.node (o342 P) (.node (o598 P) .nil .nil) .nil) (.node (o470 P) (.node (o726 P) .nil .nil) .nil))) (.node (o118 P) (.node (o182 P) (.node (o310 P) (.node (o566 P) .nil .nil) .nil) (.node (o438 P) (.node (o694 P) .nil .nil) .nil)) (.node (o246 P) (.node (o374 P) (.node (o630 P) .nil .nil) .nil) (.node (o502 P) (.node (o758 P) .nil .nil) .nil))))) (.node (o30 P) (.node (o46 P) (.node (o78 P) (.node (o142 P) (.node (o270 P) (.node (o526 P) .nil .nil) (.node (o782 P) .nil .nil)) (.node (o398 P) (.node (o654 P) .nil .nil) .nil)) (.node (o206 P) (.node (o334 P) (.node (o590 P) .nil .nil) .nil) (.node (o462 P) (.node (o718 P) .nil .nil) .nil))) (.node (o110 P) (.node (o174 P) (.node (o302 P) (.node (o558 P) .nil .nil) .nil) (.node (o430 P) (.node (o686 P) .nil .nil) .nil)) (.node (o238 P) (.node (o366 P) (.node (o622 P) .nil .nil) .nil) (.node (o494 P) (.node (o750 P) .nil .nil) .nil)))) (.node (o62 P) (.node (o94 P) (.node (o158 P) (.node (o286 P) (.node (o542 P) .nil .nil) .nil) (.node (o414 P) (.node (o670 P) .nil .nil) .nil)) (.node (o222 P) (.node (o350 P) (.node (o606 P) .nil .nil) .nil) (.node (o478 P) (.node (o734 P) .nil .nil) .nil))) (.node (o126 P) (.node (o190 P) (.node (o318 P) (.node (o574 P) .nil .nil) .nil) (.node (o446 P) (.node (o702 P) .nil .nil) .nil)) (.node (o254 P) (.node (o382 P) (.node (o638 P) .nil .nil) .nil) (.node (o510 P) (.node (o766 P) .nil .nil) .nil)))))))))
@[reducible] noncomputable def heapF (P : Params) : Heap := ⟨⟨[boot_o_0 P, boot_o_1 P, boot_o_2 P, o3'''' P, boot_o_4 P, boot_o_5 P, boot_o_6 P, boot_o_7 P, boot_o_8 P, boot_o_9 P, boot_o_10 P, o11 P, o12'''' P, o13 P, o14 P, o15 P, o16 P, o17 P, o18 P, o19 P, o20 P, o21 P, o22 P, o23 P, o24 P, o25 P, o26 P, o27 P, o28 P, o29 P, o30 P, o31 P, o32 P, o33 P, o34 P, o35 P, o36 P, o37 P, o38 P, o39 P, o40 P, o41 P, o42 P, o43 P, o44 P, o45 P, o46 P, o47 P, o48 P, o49 P, o50 P, o51 P, o52 P, o53 P, o54 P, o55 P, o56 P, o57 P, o58 P, o59 P, o60 P, o61 P, o62 P, o63 P, o64 P, o65 P, o66 P, o67 P, o68 P, o69 P, o70 P, o71 P, o72 P, o73 P, o74 P, o75 P, o76 P, o77 P, o78 P, o79 P, o80 P, o81 P, o82 P, o83 P, o84 P, o85 P, o86 P, o87 P, o88 P, o89 P, o90 P, o91 P, o92 P, o93 P, o94 P, o95 P, o96 P, o97 P, o98 P, o99 P, o100 P, o101 P, o102 P, o103 P, o104 P, o105 P, o106 P, o107 P, o108 P, o109 P, o110 P, o111 P, o112 P, o113 P, o114 P, o115 P, o116 P, o117 P, o118 P, o119 P, o120 P, o121 P, o122 P, o123 P, o124 P, o125 P, o126 P, o127 P, o128 P, o129 P, o130 P, o131 P, o132 P, o133 P, o134 P, o135 P, o136 P, o137 P, o138 P, o139 P, o140 P, o141 P, o142 P, o143 P, o144 P, o145 P, o146 P, o147 P, o148 P, o149 P, o150 P, o151 P, o152 P, o153 P, o154 P, o155 P, o156 P, o157 P, o158 P, o159 P, o160 P, o161 P, o162 P, o163 P, o164 P, o165 P, o166 P, o167 P, o168 P, o169 P, o170 P, o171 P, o172 P, o173 P, o174 P, o175 P, o176 P, o177 P, o178 P, o179 P, o180 P, o181 P, o182 P, o183 P, o184 P, o185 P, o186 P, o187 P, o188 P, o189 P, o190 P, o191 P, o192 P, o193 P, o194 P, o195 P, o196 P, o197 P, o198 P, o199 P, o200 P, o201 P, o202 P, o203 P, o204 P, o205 P, o206 P, o207 P, o208 P, o209 P, o210 P, o211 P, o212 P, o213 P, o214 P, o215 P, o216 P, o217 P, o218 P, o219 P, o220 P, o221 P, o222 P, o223 P, o224 P, o225 P, o226 P, o227 P, o228 P, o229 P, o230 P, o231 P, o232 P, o233 P, o234 P, o235 P, o236 P, o237 P, o238 P, o239 P, o240 P, o241 P, o242 P, o243 P, o244 P, o245 P, o246 P, o247 P, o248 P, o249 P, o250 P, o251 P, o252 P, o253 P, o254 P, o255 P, o256 P, o257 P, o258 P, o259 P, o260 P, o261 P, o262 P, o263 P, o264 P, o265 P, o266 P, o267 P, o268 P, o269 P, o270 P, o271 P, o272 P, o273 P, o274 P, o275 P, o276 P, o277 P, o278 P, o279 P, o280 P, o281 P, o282 P, o283 P, o284 P, o285 P, o286 P, o287 P, o288 P, o289 P, o290 P, o291 P, o292 P, o293 P, o294 P, o295 P, o296 P, o297 P, o298 P, o299 P, o300 P, o301 P, o302 P, o303 P, o304 P, o305 P, o306 P, o307 P, o308 P, o309 P, o310 P, o311 P, o312 P, o313 P, o314 P, o315 P, o316 P, o317 P, o318 P, o319 P, o320 P, o321 P, o322 P, o323 P, o324 P, o325 P, o326 P, o327 P, o328 P, o329 P, o330 P, o331 P, o332 P, o333 P, o334 P, o335 P, o336 P, o337 P, o338 P, o339 P, o340 P, o341 P, o342 P, o343 P, o344 P, o345 P, o346 P, o347 P, o348 P, o349 P, o350 P, o351 P, o352 P, o353 P, o354 P, o355 P, o356 P, o357 P, o358 P, o359 P, o360 P, o361 P, o362 P, o363 P, o364 P, o365 P, o366 P, o367 P, o368 P, o369 P, o370 P, o371 P, o372 P, o373 P, o374 P, o375 P, o376 P, o377 P, o378 P, o379 P, o380 P, o381 P, o382 P, o383 P, o384 P, o385 P, o386 P, o387 P, o388 P, o389 P, o390 P, o391 P, o392 P, o393 P, o394 P, o395 P, o396 P, o397 P, o398 P, o399 P, o400 P, o401 P, o402 P, o403 P, o404 P, o405 P, o406 P, o407 P, o408 P, o409 P, o410 P, o411 P, o412 P, o413 P, o414 P, o415 P, o416 P, o417 P, o418 P, o419 P, o420 P, o421 P, o422 P, o423 P, o424 P, o425 P, o426 P, o427 P, o428 P, o429 P, o430 P, o431 P, o432 P, o433 P, o434 P, o435 P, o436 P, o437 P, o438 P, o439 P, o440 P, o441 P, o442 P, o443 P, o444 P, o445 P, o446 P, o447 P, o448 P, o449 P, o450 P, o451 P, o452 P, o453 P, o454 P, o455 P, o456 P, o457 P, o458 P, o459 P, o460 P, o461 P, o462 P, o463 P, o464 P, o465 P, o466 P, o467 P, o468 P, o469 P, o470 P, o471 P, o472 P, o473 P, o474 P, o475 P, o476 P, o477 P, o478 P, o479 P, o480 P, o481 P, o482 P, o483 P, o484 P, o485 P, o486 P, o487 P, o488 P, o489 P, o490 P, o491 P, o492 P, o493 P, o494 P, o495 P, o496 P, o497 P, o498 P, o499 P, o500 P, o501 P, o502 P, o503 P, o504 P, o505 P, o506 P, o507 P, o508 P, o509 P, o510 P, o511 P, o512 P, o513 P, o514 P, o515 P, o516 P, o517 P, o518 P, o519 P, o520 P, o521 P, o522 P, o523 P, o524 P, o525 P, o526 P, o527 P, o528 P, o529 P, o530 P, o531 P, o532 P, o533 P, o534 P, o535 P, o536 P, o537 P, o538 P, o539 P, o540 P, o541 P, o542 P, o543 P, o544 P, o545 P, o546 P, o547 P, o548 P, o549 P, o550 P, o551 P, o552 P, o553 P, o554 P, o555 P, o556 P, o557 P, o558 P, o559 P, o560 P, o561 P, o562 P, o563 P, o564 P, o565 P, o566 P, o567 P, o568 P, o569 P, o570 P, o571 P, o572 P, o573 P, o574 P, o575 P, o576 P, o577 P, o578 P, o579 P, o580 P, o581 P, o582 P, o583 P, o584 P, o585 P, o586 P, o587 P, o588 P, o589 P, o590 P, o591 P, o592 P, o593 P, o594 P, o595 P, o596 P, o597 P, o598 P, o599 P, o600 P, o601 P, o602 P, o603 P, o604 P, o605 P, o606 P, o607 P, o608 P, o609 P, o610 P, o611 P, o612 P, o613 P, o614 P, o615 P, o616 P, o617 P, o618 P, o619 P, o620 P, o621 P, o622 P, o623 P, o624 P, o625 P, o626 P, o627 P, o628 P, o629 P, o630 P, o631 P, o632 P, o633 P, o634 P, o635 P, o636 P, o637 P, o638 P, o639 P, o640 P, o641 P, o642 P, o643 P, o644 P, o645 P, o646 P, o647 P, o648 P, o649 P, o650 P, o651 P, o652 P, o653 P, o654 P, o655 P, o656 P, o657 P, o658 P, o659 P, o660 P, o661 P, o662 P, o663 P, o664 P, o665 P, o666 P, o667 P, o668 P, o669 P, o670 P, o671 P, o672 P, o673 P, o674 P, o675 P, o676 P, o677 P, o678 P, o679 P, o680 P, o681 P, o682 P, o683 P, o684 P, o685 P, o686 P, o687 P, o688 P, o689 P, o690 P, o691 P, o692 P, o693 P, o694 P, o695 P, o696 P, o697 P, o698 P, o699 P, o700 P, o701 P, o702 P, o703 P, o704 P, o705 P, o706 P, o707 P, o708 P, o709 P, o710 P, o711 P, o712 P, o713 P, o714 P, o715 P, o716 P, o717 P, o718 P, o719 P, o720 P, o721 P, o722 P, o723 P, o724 P, o725 P, o726 P, o727 P, o728 P, o729 P, o730 P, o731 P, o732 P, o733 P, o734 P, o735 P, o736 P, o737 P, o738 P, o739 P, o740 P, o741 P, o742 P, o743 P, o744 P, o745 P, o746 P, o747 P, o748 P, o749 P, o750 P, o751 P, o752 P, o753 P, o754 P, o755 P, o756 P, o757 P, o758 P, o759 P, o760 P, o761 P, o762 P, o763 P, o764 P, o765 P, o766 P, o767 P, o768 P, o769 P, o770 P, o771 P, o772 P, o773 P, o774 P, o775 P, o776 P, o777 P, o778 P, o779 P, o780 P, o781 P, o782 P, o783 P]⟩, {}⟩
noncomputable def hd.heap_39 : Params → Frag := fun P => (nat_lit 2, boot_o_2 P) :: (nat_lit 3, o3'''' P) :: (nat_lit 15, o15 P) :: (nat_lit 17, o17 P) :: (nat_lit 18, o18 P) :: (nat_lit 20, o20 P) :: (nat_lit 21, o21 P) :: (nat_lit 22, o22 P) :: (nat_lit 27, o27 P) :: (nat_lit 32, o32 P) :: (nat_lit 37, o37 P) :: (nat_lit 38, o38 P) :: (nat_lit 41, o41 P) :: (nat_lit 42, o42 P) :: (nat_lit 43, o43 P) :: (nat_lit 46, o46 P) :: (nat_lit 48, o48 P) :: (nat_lit 49, o49 P) :: (nat_lit 50, o50 P) :: (nat_lit 57, o57 P) :: (nat_lit 59, o59 P) :: (nat_lit 60, o60 P) :: (nat_lit 62, o62 P) :: (nat_lit 63, o63 P) :: (nat_lit 64, o64 P) :: (nat_lit 66, o66 P) :: (nat_lit 67, o67 P) :: (nat_lit 69, o69 P) :: (nat_lit 70, o70 P) :: (nat_lit 71, o71 P) :: (nat_lit 72, o72 P) :: (nat_lit 73, o73 P) :: (nat_lit 74, o74 P) :: (nat_lit 75, o75 P) :: (nat_lit 78, o78 P) :: (nat_lit 80, o80 P) :: (nat_lit 81, o81 P) :: (nat_lit 83, o83 P) :: (nat_lit 84, o84 P) :: (nat_lit 85, o85 P) :: (nat_lit 92, o92 P) :: (nat_lit 94, o94 P) :: (nat_lit 95, o95 P) :: (nat_lit 97, o97 P) :: (nat_lit 98, o98 P) :: (nat_lit 99, o99 P) :: (nat_lit 101, o101 P) :: (nat_lit 102, o102 P) :: (nat_lit 104, o104 P) :: (nat_lit 105, o105 P) :: (nat_lit 106, o106 P) :: (nat_lit 108, o108 P) :: (nat_lit 109, o109 P) :: (nat_lit 111, o111 P) :: (nat_lit 112, o112 P) :: (nat_lit 113, o113 P) :: (nat_lit 115, o115 P) :: (nat_lit 116, o116 P) :: (nat_lit 118, o118 P) :: (nat_lit 119, o119 P) :: (nat_lit 120, o120 P) :: (nat_lit 122, o122 P) :: (nat_lit 123, o123 P) :: (nat_lit 125, o125 P) :: (nat_lit 126, o126 P) :: (nat_lit 127, o127 P) :: (nat_lit 129, o129 P) :: (nat_lit 130, o130 P) :: (nat_lit 132, o132 P) :: (nat_lit 133, o133 P) :: (nat_lit 134, o134 P) :: (nat_lit 135, o135 P) :: (nat_lit 137, o137 P) :: (nat_lit 138, o138 P) :: (nat_lit 140, o140 P) :: (nat_lit 141, o141 P) :: (nat_lit 142, o142 P) :: (nat_lit 144, o144 P) :: (nat_lit 145, o145 P) :: (nat_lit 147, o147 P) :: (nat_lit 148, o148 P) :: (nat_lit 149, o149 P) :: (nat_lit 150, o150 P) :: (nat_lit 152, o152 P) :: (nat_lit 153, o153 P) :: (nat_lit 155, o155 P) :: (nat_lit 156, o156 P) :: (nat_lit 157, o157 P) :: (nat_lit 159, o159 P) :: (nat_lit 160, o160 P) :: (nat_lit 162, o162 P) :: (nat_lit 163, o163 P) :: (nat_lit 164, o164 P) :: (nat_lit 165, o165 P) :: (nat_lit 166, o166 P) :: (nat_lit 167, o167 P) :: (nat_lit 168, o168 P) :: (nat_lit 171, o171 P) :: (nat_lit 172, o172 P) :: (nat_lit 174, o174 P) :: (nat_lit 175, o175 P) :: (nat_lit 177, o177 P) :: (nat_lit 178, o178 P) :: (nat_lit 179, o179 P) :: (nat_lit 186, o186 P) :: (nat_lit 188, o188 P) :: (nat_lit 189, o189 P) :: (nat_lit 191, o191 P) :: (nat_lit 192, o192 P) :: (nat_lit 193, o193 P) :: (nat_lit 195, o195 P) :: (nat_lit 196, o196 P) :: (nat_lit 198, o198 P) :: (nat_lit 199, o199 P) :: (nat_lit 200, o200 P) :: (nat_lit 202, o202 P) :: (nat_lit 203, o203 P) :: (nat_lit 205, o205 P) :: (nat_lit 206, o206 P) :: (nat_lit 207, o207 P) :: (nat_lit 209, o209 P) :: (nat_lit 210, o210 P) :: (nat_lit 212, o212 P) :: (nat_lit 213, o213 P) :: (nat_lit 214, o214 P) :: (nat_lit 216, o216 P) :: (nat_lit 217, o217 P) :: (nat_lit 219, o219 P) :: (nat_lit 220, o220 P) :: (nat_lit 221, o221 P) :: (nat_lit 223, o223 P) :: (nat_lit 224, o224 P) :: (nat_lit 226, o226 P) :: (nat_lit 227, o227 P) :: (nat_lit 228, o228 P) :: (nat_lit 229, o229 P) :: (nat_lit 230, o230 P) :: (nat_lit 231, o231 P) :: (nat_lit 232, o232 P) :: (nat_lit 235, o235 P) :: (nat_lit 236, o236 P) :: (nat_lit 243, o243 P) :: (nat_lit 246, o246 P) :: (nat_lit 247, o247 P) :: (nat_lit 254, o254 P) :: (nat_lit 255, o255 P) :: (nat_lit 257, o257 P) :: (nat_lit 258, o258 P) :: (nat_lit 260, o260 P) :: (nat_lit 261, o261 P) :: (nat_lit 262, o262 P) :: (nat_lit 264, o264 P) :: (nat_lit 265, o265 P) :: (nat_lit 267, o267 P) :: (nat_lit 268, o268 P) :: (nat_lit 269, o269 P) :: (nat_lit 271, o271 P) :: (nat_lit 272, o272 P) :: (nat_lit 274, o274 P) :: (nat_lit 275, o275 P) :: (nat_lit 276, o276 P) :: (nat_lit 277, o277 P) :: (nat_lit 279, o279 P) :: (nat_lit 280, o280 P) :: (nat_lit 282, o282 P) :: (nat_lit 283, o283 P) :: (nat_lit 284, o284 P) :: (nat_lit 286, o286 P) :: (nat_lit 287, o287 P) :: (nat_lit 289, o289 P) :: (nat_lit 290, o290 P) :: (nat_lit 291, o291 P) :: (nat_lit 293, o293 P) :: (nat_lit 294, o294 P) :: (nat_lit 296, o296 P) :: (nat_lit 297, o297 P) :: (nat_lit 298, o298 P) :: (nat_lit 300, o300 P) :: (nat_lit 301, o301 P) :: (nat_lit 303, o303 P) :: (nat_lit 304, o304 P) :: (nat_lit 305, o305 P) :: (nat_lit 307, o307 P) :: (nat_lit 308, o308 P) :: (nat_lit 310, o310 P) :: (nat_lit 311, o311 P) :: (nat_lit 312, o312 P) :: (nat_lit 314, o314 P) :: (nat_lit 315, o315 P) :: (nat_lit 317, o317 P) :: (nat_lit 318, o318 P) :: (nat_lit 319, o319 P) :: (nat_lit 321, o321 P) :: (nat_lit 322, o322 P) :: (nat_lit 324, o324 P) :: (nat_lit 325, o325 P) :: (nat_lit 326, o326 P) :: (nat_lit 328, o328 P) :: (nat_lit 329, o329 P) :: (nat_lit 331, o331 P) :: (nat_lit 332, o332 P) :: (nat_lit 333, o333 P) :: (nat_lit 335, o335 P) :: (nat_lit 336, o336 P) :: (nat_lit 338, o338 P) :: (nat_lit 339, o339 P) :: (nat_lit 340, o340 P) :: (nat_lit 342, o342 P) :: (nat_lit 343, o343 P) :: (nat_lit 345, o345 P) :: (nat_lit 346, o346 P) :: (nat_lit 347, o347 P) :: (nat_lit 349, o349 P) :: (nat_lit 350, o350 P) :: (nat_lit 352, o352 P) :: (nat_lit 353, o353 P) :: (nat_lit 354, o354 P) :: (nat_lit 356, o356 P) :: (nat_lit 357, o357 P) :: (nat_lit 359, o359 P) :: (nat_lit 360, o360 P) :: (nat_lit 361, o361 P) :: (nat_lit 363, o363 P) :: (nat_lit 364, o364 P) :: (nat_lit 366, o366 P) :: (nat_lit 367, o367 P) :: (nat_lit 368, o368 P) :: (nat_lit 370, o370 P) :: (nat_lit 371, o371 P) :: (nat_lit 373, o373 P) :: (nat_lit 374, o374 P) :: (nat_lit 375, o375 P) :: (nat_lit 377, o377 P) :: (nat_lit 378, o378 P) :: (nat_lit 380, o380 P) :: (nat_lit 381, o381 P) :: (nat_lit 382, o382 P) :: (nat_lit 384, o384 P) :: (nat_lit 385, o385 P) :: (nat_lit 387, o387 P) :: (nat_lit 388, o388 P) :: (nat_lit 389, o389 P) :: (nat_lit 391, o391 P) :: (nat_lit 392, o392 P) :: (nat_lit 394, o394 P) :: (nat_lit 395, o395 P) :: (nat_lit 396, o396 P) :: (nat_lit 398, o398 P) :: (nat_lit 399, o399 P) :: (nat_lit 401, o401 P) :: (nat_lit 402, o402 P) :: (nat_lit 403, o403 P) :: (nat_lit 405, o405 P) :: (nat_lit 406, o406 P) :: (nat_lit 408, o408 P) :: (nat_lit 409, o409 P) :: (nat_lit 410, o410 P) :: (nat_lit 412, o412 P) :: (nat_lit 413, o413 P) :: (nat_lit 415, o415 P) :: (nat_lit 416, o416 P) :: (nat_lit 417, o417 P) :: (nat_lit 419, o419 P) :: (nat_lit 420, o420 P) :: (nat_lit 422, o422 P) :: (nat_lit 423, o423 P) :: (nat_lit 424, o424 P) :: (nat_lit 426, o426 P) :: (nat_lit 427, o427 P) :: (nat_lit 429, o429 P) :: (nat_lit 430, o430 P) :: (nat_lit 431, o431 P) :: (nat_lit 433, o433 P) :: (nat_lit 434, o434 P) :: (nat_lit 436, o436 P) :: (nat_lit 437, o437 P) :: (nat_lit 438, o438 P) :: (nat_lit 440, o440 P) :: (nat_lit 441, o441 P) :: (nat_lit 443, o443 P) :: (nat_lit 444, o444 P) :: (nat_lit 445, o445 P) :: (nat_lit 447, o447 P) :: (nat_lit 448, o448 P) :: (nat_lit 450, o450 P) :: (nat_lit 451, o451 P) :: (nat_lit 452, o452 P) :: (nat_lit 454, o454 P) :: (nat_lit 455, o455 P) :: (nat_lit 457, o457 P) :: (nat_lit 458, o458 P) :: (nat_lit 459, o459 P) :: (nat_lit 461, o461 P) :: (nat_lit 462, o462 P) :: (nat_lit 464, o464 P) :: (nat_lit 465, o465 P) :: (nat_lit 466, o466 P) :: (nat_lit 468, o468 P) :: (nat_lit 469, o469 P) :: (nat_lit 471, o471 P) :: (nat_lit 472, o472 P) :: (nat_lit 473, o473 P) :: (nat_lit 475, o475 P) :: (nat_lit 476, o476 P) :: (nat_lit 478, o478 P) :: (nat_lit 479, o479 P) :: (nat_lit 480, o480 P) :: (nat_lit 482, o482 P) :: (nat_lit 483, o483 P) :: (nat_lit 485, o485 P) :: (nat_lit 486, o486 P) :: (nat_lit 487, o487 P) :: (nat_lit 489, o489 P) :: (nat_lit 490, o490 P) :: (nat_lit 492, o492 P) :: (nat_lit 493, o493 P) :: (nat_lit 494, o494 P) :: (nat_lit 496, o496 P) :: (nat_lit 497, o497 P) :: (nat_lit 499, o499 P) :: (nat_lit 500, o500 P) :: (nat_lit 501, o501 P) :: (nat_lit 503, o503 P) :: (nat_lit 504, o504 P) :: (nat_lit 506, o506 P) :: (nat_lit 507, o507 P) :: (nat_lit 508, o508 P) :: (nat_lit 510, o510 P) :: (nat_lit 511, o511 P) :: (nat_lit 513, o513 P) :: (nat_lit 514, o514 P) :: (nat_lit 515, o515 P) :: (nat_lit 517, o517 P) :: (nat_lit 518, o518 P) :: (nat_lit 520, o520 P) :: (nat_lit 521, o521 P) :: (nat_lit 522, o522 P) :: (nat_lit 524, o524 P) :: (nat_lit 525, o525 P) :: (nat_lit 527, o527 P) :: (nat_lit 528, o528 P) :: (nat_lit 529, o529 P) :: (nat_lit 531, o531 P) :: (nat_lit 532, o532 P) :: (nat_lit 534, o534 P) :: (nat_lit 535, o535 P) :: (nat_lit 536, o536 P) :: (nat_lit 538, o538 P) :: (nat_lit 539, o539 P) :: (nat_lit 541, o541 P) :: (nat_lit 542, o542 P) :: (nat_lit 543, o543 P) :: (nat_lit 545, o545 P) :: (nat_lit 546, o546 P) :: (nat_lit 548, o548 P) :: (nat_lit 549, o549 P) :: (nat_lit 550, o550 P) :: (nat_lit 552, o552 P) :: (nat_lit 553, o553 P) :: (nat_lit 555, o555 P) :: (nat_lit 556, o556 P) :: (nat_lit 557, o557 P) :: (nat_lit 559, o559 P) :: (nat_lit 560, o560 P) :: (nat_lit 562, o562 P) :: (nat_lit 563, o563 P) :: (nat_lit 564, o564 P) :: (nat_lit 566, o566 P) :: (nat_lit 567, o567 P) :: (nat_lit 569, o569 P) :: (nat_lit 570, o570 P) :: (nat_lit 571, o571 P) :: (nat_lit 573, o573 P) :: (nat_lit 574, o574 P) :: (nat_lit 576, o576 P) :: (nat_lit 577, o577 P) :: (nat_lit 578, o578 P) :: (nat_lit 580, o580 P) :: (nat_lit 581, o581 P) :: (nat_lit 583, o583 P) :: (nat_lit 584, o584 P) :: (nat_lit 585, o585 P) :: (nat_lit 587, o587 P) :: (nat_lit 588, o588 P) :: (nat_lit 590, o590 P) :: (nat_lit 591, o591 P) :: (nat_lit 592, o592 P) :: (nat_lit 594, o594 P) :: (nat_lit 595, o595 P) :: (nat_lit 597, o597 P) :: (nat_lit 598, o598 P) :: (nat_lit 599, o599 P) :: (nat_lit 601, o601 P) :: (nat_lit 602, o602 P) :: (nat_lit 604, o604 P) :: (nat_lit 605, o605 P) :: (nat_lit 606, o606 P) :: (nat_lit 608, o608 P) :: (nat_lit 609, o609 P) :: (nat_lit 611, o611 P) :: (nat_lit 612, o612 P) :: (nat_lit 613, o613 P) :: (nat_lit 615, o615 P) :: (nat_lit 616, o616 P) :: (nat_lit 618, o618 P) :: (nat_lit 619, o619 P) :: (nat_lit 620, o620 P) :: (nat_lit 622, o622 P) :: (nat_lit 623, o623 P) :: (nat_lit 625, o625 P) :: (nat_lit 626, o626 P) :: (nat_lit 627, o627 P) :: (nat_lit 629, o629 P) :: (nat_lit 630, o630 P) :: (nat_lit 632, o632 P) :: (nat_lit 633, o633 P) :: (nat_lit 634, o634 P) :: (nat_lit 636, o636 P) :: (nat_lit 637, o637 P) :: (nat_lit 639, o639 P) :: (nat_lit 640, o640 P) :: (nat_lit 641, o641 P) :: (nat_lit 643, o643 P) :: (nat_lit 644, o644 P) :: (nat_lit 646, o646 P) :: (nat_lit 647, o647 P) :: (nat_lit 648, o648 P) :: (nat_lit 650, o650 P) :: (nat_lit 651, o651 P) :: (nat_lit 653, o653 P) :: (nat_lit 654, o654 P) :: (nat_lit 655, o655 P) :: (nat_lit 657, o657 P) :: (nat_lit 658, o658 P) :: (nat_lit 660, o660 P) :: (nat_lit 661, o661 P) :: (nat_lit 662, o662 P) :: (nat_lit 664, o664 P) :: (nat_lit 665, o665 P) :: (nat_lit 667, o667 P) :: (nat_lit 668, o668 P) :: (nat_lit 669, o669 P) :: (nat_lit 671, o671 P) :: (nat_lit 672, o672 P) :: (nat_lit 674, o674 P) :: (nat_lit 675, o675 P) :: (nat_lit 676, o676 P) :: (nat_lit 678, o678 P) :: (nat_lit 679, o679 P) :: (nat_lit 681, o681 P) :: (nat_lit 682, o682 P) :: (nat_lit 683, o683 P) :: (nat_lit 685, o685 P) :: (nat_lit 686, o686 P) :: (nat_lit 688, o688 P) :: (nat_lit 689, o689 P) :: (nat_lit 690, o690 P) :: (nat_lit 692, o692 P) :: (nat_lit 693, o693 P) :: (nat_lit 695, o695 P) :: (nat_lit 696, o696 P) :: (nat_lit 697, o697 P) :: (nat_lit 699, o699 P) :: (nat_lit 700, o700 P) :: (nat_lit 702, o702 P) :: (nat_lit 703, o703 P) :: (nat_lit 704, o704 P) :: (nat_lit 706, o706 P) :: (nat_lit 707, o707 P) :: (nat_lit 709, o709 P) :: (nat_lit 710, o710 P) :: (nat_lit 711, o711 P) :: (nat_lit 713, o713 P) :: (nat_lit 714, o714 P) :: (nat_lit 716, o716 P) :: (nat_lit 717, o717 P) :: (nat_lit 718, o718 P) :: (nat_lit 720, o720 P) :: (nat_lit 721, o721 P) :: (nat_lit 723, o723 P) :: (nat_lit 724, o724 P) :: (nat_lit 725, o725 P) :: (nat_lit 727, o727 P) :: (nat_lit 728, o728 P) :: (nat_lit 730, o730 P) :: (nat_lit 731, o731 P) :: (nat_lit 732, o732 P) :: (nat_lit 734, o734 P) :: (nat_lit 735, o735 P) :: (nat_lit 737, o737 P) :: (nat_lit 738, o738 P) :: (nat_lit 739, o739 P) :: (nat_lit 741, o741 P) :: (nat_lit 742, o742 P) :: (nat_lit 744, o744 P) :: (nat_lit 745, o745 P) :: (nat_lit 746, o746 P) :: (nat_lit 748, o748 P) :: (nat_lit 749, o749 P) :: (nat_lit 751, o751 P) :: (nat_lit 752, o752 P) :: (nat_lit 753, o753 P) :: (nat_lit 755, o755 P) :: (nat_lit 756, o756 P) :: (nat_lit 758, o758 P) :: (nat_lit 759, o759 P) :: (nat_lit 760, o760 P) :: (nat_lit 761, o761 P) :: (nat_lit 762, o762 P) :: (nat_lit 763, o763 P) :: (nat_lit 764, o764 P) :: (nat_lit 767, o767 P) :: (nat_lit 768, o768 P) :: (nat_lit 769, o769 P) :: (nat_lit 770, o770 P) :: (nat_lit 772, o772 P) :: (nat_lit 773, o773 P) :: (nat_lit 775, o775 P) :: (nat_lit 776, o776 P) :: (nat_lit 777, o777 P) :: (nat_lit 779, o779 P) :: (nat_lit 780, o780 P) :: (nat_lit 782, o782 P) :: (nat_lit 783, o783 P) :: []

abbrev P0 : Program := PySem.Challenge.rw_qy0005_08.row.prog
noncomputable def env0 : Env := { scope := PySem.Challenge.pw_qy0005_08.main.scope, locals := mainNs, globals := mainNs, cells := [], code := .ref 13, frame := some 14 }
noncomputable def bS : List Stmt := behindTheImports P0
noncomputable abbrev cE : Code := Code.body (behindTheImports P0) env0
noncomputable def r1 : List Stmt := bS.drop 12
noncomputable def r2 : List Stmt := r1.drop 8
noncomputable def r3 : List Stmt := r2.drop 1
noncomputable def r4 : List Stmt := r3.drop 5
noncomputable def g1 : List Stmt := bS.take 12
noncomputable def g2 : List Stmt := r1.take 8
noncomputable def g3 : List Stmt := r2.take 1
noncomputable def g4 : List Stmt := r3.take 5
noncomputable def g5 : List Stmt := r4
theorem bS_is : behindTheImports P0 = g1 ++ (g2 ++ (g3 ++ (g4 ++ (g5 ++ [])))) := by
  unfold g1 g2 g3 g4 g5
  rw [List.append_nil, r4, List.take_append_drop, r3, List.take_append_drop, r2, List.take_append_drop, r1, List.take_append_drop, bS]
theorem pre_q (w : World) (os : OsState) : Fast.tw15667345088766844465 Fast.tw14364793385576792824 P0 w 11 (some (.ref 6)) 12 ⟨boot_heap w.params, ⟨[]⟩, boot_drawn, boot_toks, os⟩ (topStub P0) =
    some (⟨heapA w.params, ⟨[]⟩, {}, 187, os⟩, ⟨Fast.tw11892475500146522536 Fast.tw14364793385576792824 cE, cE, ⟨0, 0, 0, 0⟩, [topFrame ⟨0, 0, 0, 0⟩]⟩) := by kernel_rfl
theorem block_q (w : World) (os : OsState) : Fast.tw14374325043358763698 Fast.tw14364793385576792824 P0 w 11 (some (.ref 6)) 1 1 ⟨heapA w.params, ⟨[]⟩, {}, 187, os⟩ (blockOf (behindTheImports P0) env0 cE ⟨0, 0, 0, 0⟩ [topFrame ⟨0, 0, 0, 0⟩]) =
    some (.next, (⟨t0 w.params, 15, {}, ⟨[]⟩, {}, 187, os⟩ : SharedT).abs, cE, ⟨0, 0, 0, 0⟩) := by kernel_rfl
theorem piece1f (w : World) (os : OsState) : Fast.tw10110043849684766642 Fast.tw14364793385576792824 P0 (w.withFollow "special-get-raises" false) 11 (some (.ref 6)) 1 3037 ⟨t0 (w.withFollow "special-get-raises" false).params, 15, {}, ⟨[]⟩, {}, 187, os⟩ (piecesOf g1 env0 cE ⟨0, 0, 0, 0⟩ [topFrame ⟨0, 0, 0, 0⟩]) =
    some (.next, ⟨t1 (w.withFollow "special-get-raises" false).params, 50, {}, ⟨[]⟩, {}, 564, os⟩, cE, ⟨15, 0, 15, 13⟩) := by kernel_rfl
theorem piece1t (w : World) (os : OsState) : Fast.tw10110043849684766642 Fast.tw14364793385576792824 P0 (w.withFollow "special-get-raises" true) 11 (some (.ref 6)) 1 3037 ⟨t0 (w.withFollow "special-get-raises" true).params, 15, {}, ⟨[]⟩, {}, 187, os⟩ (piecesOf g1 env0 cE ⟨0, 0, 0, 0⟩ [topFrame ⟨0, 0, 0, 0⟩]) =
    some (.next, ⟨t1 (w.withFollow "special-get-raises" true).params, 50, {}, ⟨[]⟩, {}, 564, os⟩, cE, ⟨15, 0, 15, 13⟩) := by kernel_rfl
theorem piece1q (w : World) : ∀ os : OsState, Fast.tw10110043849684766642 Fast.tw14364793385576792824 P0 w 11 (some (.ref 6)) 1 3037 ⟨t0 (w).params, 15, {}, ⟨[]⟩, {}, 187, os⟩ (piecesOf g1 env0 cE ⟨0, 0, 0, 0⟩ [topFrame ⟨0, 0, 0, 0⟩]) =
    some (.next, ⟨t1 (w).params, 50, {}, ⟨[]⟩, {}, 564, os⟩, cE, ⟨15, 0, 15, 13⟩) :=
  byRow2 "special-get-raises" (P := fun w => ∀ os : OsState, Fast.tw10110043849684766642 Fast.tw14364793385576792824 P0 w 11 (some (.ref 6)) 1 3037 ⟨t0 (w).params, 15, {}, ⟨[]⟩, {}, 187, os⟩ (piecesOf g1 env0 cE ⟨0, 0, 0, 0⟩ [topFrame ⟨0, 0, 0, 0⟩]) =
    some (.next, ⟨t1 (w).params, 50, {}, ⟨[]⟩, {}, 564, os⟩, cE, ⟨15, 0, 15, 13⟩)) (fun w os => piece1f w os) (fun w os => piece1t w os) w
theorem piece2q (w : World) (os : OsState) : Fast.tw10110043849684766642 Fast.tw14364793385576792824 P0 (w) 11 (some (.ref 6)) 1 1293 ⟨t1 (w).params, 50, {}, ⟨[]⟩, {}, 564, os⟩ (piecesOf g2 env0 cE ⟨15, 0, 15, 13⟩ [topFrame ⟨0, 0, 0, 0⟩]) =
    some (.next, ⟨t2 (w).params, 235, {}, ⟨[]⟩, {}, 829, os⟩, cE, ⟨180, 0, 180, 8⟩) := by kernel_rfl
theorem piece3f (w : World) (os : OsState) : Fast.tw10110043849684766642 Fast.tw14364793385576792824 P0 (w.withFollow "special-get-raises" false) 11 (some (.ref 6)) 1 1239 ⟨t2 (w.withFollow "special-get-raises" false).params, 235, {}, ⟨[]⟩, {}, 829, os⟩ (piecesOf g3 env0 cE ⟨180, 0, 180, 8⟩ [topFrame ⟨0, 0, 0, 0⟩]) =
    some (.next, ⟨t3 (w.withFollow "special-get-raises" false).params, 247, {}, ⟨[]⟩, {}, 844, os⟩, cE, ⟨181, 0, 181, 12⟩) := by kernel_rfl
theorem piece3t (w : World) (os : OsState) : Fast.tw10110043849684766642 Fast.tw14364793385576792824 P0 (w.withFollow "special-get-raises" true) 11 (some (.ref 6)) 1 1239 ⟨t2 (w.withFollow "special-get-raises" true).params, 235, {}, ⟨[]⟩, {}, 829, os⟩ (piecesOf g3 env0 cE ⟨180, 0, 180, 8⟩ [topFrame ⟨0, 0, 0, 0⟩]) =
    some (.next, ⟨t3 (w.withFollow "special-get-raises" true).params, 247, {}, ⟨[]⟩, {}, 844, os⟩, cE, ⟨181, 0, 181, 12⟩) := by kernel_rfl
theorem piece3q (w : World) : ∀ os : OsState, Fast.tw10110043849684766642 Fast.tw14364793385576792824 P0 w 11 (some (.ref 6)) 1 1239 ⟨t2 (w).params, 235, {}, ⟨[]⟩, {}, 829, os⟩ (piecesOf g3 env0 cE ⟨180, 0, 180, 8⟩ [topFrame ⟨0, 0, 0, 0⟩]) =
    some (.next, ⟨t3 (w).params, 247, {}, ⟨[]⟩, {}, 844, os⟩, cE, ⟨181, 0, 181, 12⟩) :=
  byRow2 "special-get-raises" (P := fun w => ∀ os : OsState, Fast.tw10110043849684766642 Fast.tw14364793385576792824 P0 w 11 (some (.ref 6)) 1 1239 ⟨t2 (w).params, 235, {}, ⟨[]⟩, {}, 829, os⟩ (piecesOf g3 env0 cE ⟨180, 0, 180, 8⟩ [topFrame ⟨0, 0, 0, 0⟩]) =
    some (.next, ⟨t3 (w).params, 247, {}, ⟨[]⟩, {}, 844, os⟩, cE, ⟨181, 0, 181, 12⟩)) (fun w os => piece3f w os) (fun w os => piece3t w os) w
theorem piece4q (w : World) (os : OsState) : Fast.tw10110043849684766642 Fast.tw14364793385576792824 P0 (w) 11 (some (.ref 6)) 1 2540 ⟨t3 (w).params, 247, {}, ⟨[]⟩, {}, 844, os⟩ (piecesOf g4 env0 cE ⟨181, 0, 181, 12⟩ [topFrame ⟨0, 0, 0, 0⟩]) =
    some (.next, ⟨t4 (w).params, 767, {}, ⟨[]⟩, {}, 1452, os⟩, cE, ⟨1188, 0, 1188, 8⟩) := by kernel_rfl
theorem piece5f (w : World) (os : OsState) : Fast.tw10110043849684766642 Fast.tw14364793385576792824 P0 (w.withFollow "special-get-raises" false) 11 (some (.ref 6)) 1 129 ⟨t4 (w.withFollow "special-get-raises" false).params, 767, {}, ⟨[]⟩, {}, 1452, os⟩ (piecesOf g5 env0 cE ⟨1188, 0, 1188, 8⟩ [topFrame ⟨0, 0, 0, 0⟩]) =
    some (.next, ⟨t5 (w.withFollow "special-get-raises" false).params, 784, {}, ⟨[]⟩, {}, 1503, os⟩, cE, ⟨1198, 0, 1223, 105⟩) := by kernel_rfl
theorem piece5t (w : World) (os : OsState) : Fast.tw10110043849684766642 Fast.tw14364793385576792824 P0 (w.withFollow "special-get-raises" true) 11 (some (.ref 6)) 1 129 ⟨t4 (w.withFollow "special-get-raises" true).params, 767, {}, ⟨[]⟩, {}, 1452, os⟩ (piecesOf g5 env0 cE ⟨1188, 0, 1188, 8⟩ [topFrame ⟨0, 0, 0, 0⟩]) =
    some (.next, ⟨t5 (w.withFollow "special-get-raises" true).params, 784, {}, ⟨[]⟩, {}, 1503, os⟩, cE, ⟨1198, 0, 1223, 105⟩) := by kernel_rfl
theorem piece5q (w : World) : ∀ os : OsState, Fast.tw10110043849684766642 Fast.tw14364793385576792824 P0 w 11 (some (.ref 6)) 1 129 ⟨t4 (w).params, 767, {}, ⟨[]⟩, {}, 1452, os⟩ (piecesOf g5 env0 cE ⟨1188, 0, 1188, 8⟩ [topFrame ⟨0, 0, 0, 0⟩]) =
    some (.next, ⟨t5 (w).params, 784, {}, ⟨[]⟩, {}, 1503, os⟩, cE, ⟨1198, 0, 1223, 105⟩) :=
  byRow2 "special-get-raises" (P := fun w => ∀ os : OsState, Fast.tw10110043849684766642 Fast.tw14364793385576792824 P0 w 11 (some (.ref 6)) 1 129 ⟨t4 (w).params, 767, {}, ⟨[]⟩, {}, 1452, os⟩ (piecesOf g5 env0 cE ⟨1188, 0, 1188, 8⟩ [topFrame ⟨0, 0, 0, 0⟩]) =
    some (.next, ⟨t5 (w).params, 784, {}, ⟨[]⟩, {}, 1503, os⟩, cE, ⟨1198, 0, 1223, 105⟩)) (fun w os => piece5f w os) (fun w os => piece5t w os) w
theorem fin_q (w : World) (os : OsState) : Fast.tw14082659384304107361 Fast.tw14364793385576792824 P0 w 11 (some (.ref 6)) 2 (⟨t5 (w).params, 784, {}, ⟨[]⟩, {}, 1503, os⟩ : SharedT).abs ⟨doneF .next, cE, ⟨1198, 0, 1223, 105⟩, [topFrame ⟨0, 0, 0, 0⟩]⟩ =
    some ⟨heapF w.params, ⟨[]⟩, {}, 1503, os⟩ := by kernel_rfl
end Mine
end

section
open PySem PySem.W PyProof.Rows
set_option Elab.async false
set_option linter.unusedVariables false
set_option maxRecDepth 100000
namespace Mine
theorem run_all (w : World) (os : OsState) : topRun treeTable P0 w 11 (some (.ref 6)) (12 + (1 + (3037 + (1293 + (1239 + (2540 + (129 + 2))))))) ⟨boot_heap w.params, ⟨[]⟩, boot_drawn, boot_toks, os⟩ (topStub P0) = some ⟨heapF w.params, ⟨[]⟩, {}, 1503, os⟩ := by
  have e0 := pre_q w os
  have e1 := block_q w os
  have e2 := piece1q w os
  have e3 := piece2q w os
  have e4 := piece3q w os
  have e5 := piece4q w os
  have e6 := piece5q w os
  have e7 := fin_q w os
  rw [← Fast.te15667345088766844465, ← Fast.te14364793385576792824, ← Fast.te11892475500146522536] at e0
  rw [← Fast.te14374325043358763698, ← Fast.te14364793385576792824] at e1
  rw [← Fast.te10110043849684766642, ← Fast.te14364793385576792824] at e2 e3 e4 e5 e6
  rw [← Fast.te14082659384304107361, ← Fast.te14364793385576792824] at e7
  have k := piece_nil (env := env0) (q := ⟨0, 0, 0, 0⟩) e7
  have k := piece_app (segRun_of e6) k
  have k := piece_app (segRun_of e5) k
  have k := piece_app (segRun_of e4) k
  have k := piece_app (segRun_of e3) k
  have k := piece_app (segRun_of e2) k
  rw [← bS_is] at k
  have k := piece_block e1 k
  exact go_top e0 k
end Mine
end

section
open PySem PySem.W PyProof.Rows
set_option Elab.async false
set_option linter.unusedVariables false
set_option maxRecDepth 100000
namespace Mine
def hd.view_39 : Program := view P0 [0, 2, 3, 4, 5, 6, 7, 8, 9, 10, 11, 13, 14, 15, 18, 20, 21, 23, 24, 25, 26, 27, 28]
abbrev looses : List Str := [Str.ofString "asciiLetters", Str.ofString "digits", Str.ofString "hexDigits", Str.ofString "entities", Str.ofString "replacementCharacters", Str.ofString "tokenTypes", Str.ofString "tagTokenTypes", Str.ofString "HTMLUnicodeInputStream", Str.ofString "bisect_left", Str.ofString "entitiesTrie", Str.ofString "HTMLTokenizer", Str.ofString "_law_BEHIND"]
abbrev lvs : List (Str × WData) := [((Str.ofString "asciiLetters"), WData.tuple [WData.str ⟨#[97]⟩, WData.str ⟨#[98]⟩, WData.str ⟨#[99]⟩, WData.str ⟨#[100]⟩, WData.str ⟨#[101]⟩, WData.str ⟨#[102]⟩, WData.str ⟨#[103]⟩, WData.str ⟨#[104]⟩, WData.str ⟨#[105]⟩, WData.str ⟨#[106]⟩, WData.str ⟨#[107]⟩, WData.str ⟨#[108]⟩, WData.str ⟨#[109]⟩, WData.str ⟨#[110]⟩, WData.str ⟨#[111]⟩, WData.str ⟨#[112]⟩, WData.str ⟨#[113]⟩, WData.str ⟨#[114]⟩, WData.str ⟨#[115]⟩, WData.str ⟨#[116]⟩, WData.str ⟨#[117]⟩, WData.str ⟨#[118]⟩, WData.str ⟨#[119]⟩, WData.str ⟨#[120]⟩, WData.str ⟨#[121]⟩, WData.str ⟨#[122]⟩, WData.str ⟨#[65]⟩, WData.str ⟨#[66]⟩, WData.str ⟨#[67]⟩, WData.str ⟨#[68]⟩, WData.str ⟨#[69]⟩, WData.str ⟨#[70]⟩, WData.str ⟨#[71]⟩, WData.str ⟨#[72]⟩, WData.str ⟨#[73]⟩, WData.str ⟨#[74]⟩, WData.str ⟨#[75]⟩, WData.str ⟨#[76]⟩, WData.str ⟨#[77]⟩, WData.str ⟨#[78]⟩, WData.str ⟨#[79]⟩, WData.str ⟨#[80]⟩, WData.str ⟨#[81]⟩, WData.str ⟨#[82]⟩, WData.str ⟨#[83]⟩, WData.str ⟨#[84]⟩, WData.str ⟨#[85]⟩, WData.str ⟨#[86]⟩, WData.str ⟨#[87]⟩, WData.str ⟨#[88]⟩, WData.str ⟨#[89]⟩, WData.str ⟨#[90]⟩]), ((Str.ofString "digits"), WData.tuple [WData.str ⟨#[48]⟩, WData.str ⟨#[49]⟩, WData.str ⟨#[50]⟩, WData.str ⟨#[51]⟩, WData.str ⟨#[52]⟩, WData.str ⟨#[53]⟩, WData.str ⟨#[54]⟩, WData.str ⟨#[55]⟩, WData.str ⟨#[56]⟩, WData.str ⟨#[57]⟩]), ((Str.ofString "hexDigits"), WData.tuple [WData.str ⟨#[48]⟩, WData.str ⟨#[49]⟩, WData.str ⟨#[50]⟩, WData.str ⟨#[51]⟩, WData.str ⟨#[52]⟩, WData.str ⟨#[53]⟩, WData.str ⟨#[54]⟩, WData.str ⟨#[55]⟩, WData.str ⟨#[56]⟩, WData.str ⟨#[57]⟩, WData.str ⟨#[97]⟩, WData.str ⟨#[98]⟩, WData.str ⟨#[99]⟩, WData.str ⟨#[100]⟩, WData.str ⟨#[101]⟩, WData.str ⟨#[102]⟩, WData.str ⟨#[65]⟩, WData.str ⟨#[66]⟩, WData.str ⟨#[67]⟩, WData.str ⟨#[68]⟩, WData.str ⟨#[69]⟩, WData.str ⟨#[70]⟩]), ((Str.ofString "tagTokenTypes"), WData.tuple [WData.int 3, WData.int 4, WData.int 5])]
noncomputable abbrev hook : Hook := kHook hd.heap_39 [2, 3, 15, 17, 18, 20, 21, 22, 27, 32, 37, 38, 41, 42, 43, 46, 48, 49, 50, 57, 59, 60, 62, 63, 64, 66, 67, 69, 70, 71, 72, 73, 74, 75, 78, 80, 81, 83, 84, 85, 92, 94, 95, 97, 98, 99, 101, 102, 104, 105, 106, 108, 109, 111, 112, 113, 115, 116, 118, 119, 120, 122, 123, 125, 126, 127, 129, 130, 132, 133, 134, 135, 137, 138, 140, 141, 142, 144, 145, 147, 148, 149, 150, 152, 153, 155, 156, 157, 159, 160, 162, 163, 164, 165, 166, 167, 168, 171, 172, 174, 175, 177, 178, 179, 186, 188, 189, 191, 192, 193, 195, 196, 198, 199, 200, 202, 203, 205, 206, 207, 209, 210, 212, 213, 214, 216, 217, 219, 220, 221, 223, 224, 226, 227, 228, 229, 230, 231, 232, 235, 236, 243, 246, 247, 254, 255, 257, 258, 260, 261, 262, 264, 265, 267, 268, 269, 271, 272, 274, 275, 276, 277, 279, 280, 282, 283, 284, 286, 287, 289, 290, 291, 293, 294, 296, 297, 298, 300, 301, 303, 304, 305, 307, 308, 310, 311, 312, 314, 315, 317, 318, 319, 321, 322, 324, 325, 326, 328, 329, 331, 332, 333, 335, 336, 338, 339, 340, 342, 343, 345, 346, 347, 349, 350, 352, 353, 354, 356, 357, 359, 360, 361, 363, 364, 366, 367, 368, 370, 371, 373, 374, 375, 377, 378, 380, 381, 382, 384, 385, 387, 388, 389, 391, 392, 394, 395, 396, 398, 399, 401, 402, 403, 405, 406, 408, 409, 410, 412, 413, 415, 416, 417, 419, 420, 422, 423, 424, 426, 427, 429, 430, 431, 433, 434, 436, 437, 438, 440, 441, 443, 444, 445, 447, 448, 450, 451, 452, 454, 455, 457, 458, 459, 461, 462, 464, 465, 466, 468, 469, 471, 472, 473, 475, 476, 478, 479, 480, 482, 483, 485, 486, 487, 489, 490, 492, 493, 494, 496, 497, 499, 500, 501, 503, 504, 506, 507, 508, 510, 511, 513, 514, 515, 517, 518, 520, 521, 522, 524, 525, 527, 528, 529, 531, 532, 534, 535, 536, 538, 539, 541, 542, 543, 545, 546, 548, 549, 550, 552, 553, 555, 556, 557, 559, 560, 562, 563, 564, 566, 567, 569, 570, 571, 573, 574, 576, 577, 578, 580, 581, 583, 584, 585, 587, 588, 590, 591, 592, 594, 595, 597, 598, 599, 601, 602, 604, 605, 606, 608, 609, 611, 612, 613, 615, 616, 618, 619, 620, 622, 623, 625, 626, 627, 629, 630, 632, 633, 634, 636, 637, 639, 640, 641, 643, 644, 646, 647, 648, 650, 651, 653, 654, 655, 657, 658, 660, 661, 662, 664, 665, 667, 668, 669, 671, 672, 674, 675, 676, 678, 679, 681, 682, 683, 685, 686, 688, 689, 690, 692, 693, 695, 696, 697, 699, 700, 702, 703, 704, 706, 707, 709, 710, 711, 713, 714, 716, 717, 718, 720, 721, 723, 724, 725, 727, 728, 730, 731, 732, 734, 735, 737, 738, 739, 741, 742, 744, 745, 746, 748, 749, 751, 752, 753, 755, 756, 758, 759, 760, 761, 762, 763, 764, 767, 768, 769, 770, 772, 773, 775, 776, 777, 779, 780, 782, 783] (fun _ => by kernel_rfl)
abbrev xts (s : Shared) : Bool := xlAt hd.view_39 lvs s && recOk (RowW.records PySem.Challenge.rw_qy0005_08.row.toRowW) s
noncomputable abbrev sF (w : World) (os : OsState) : Shared := ⟨heapF w.params, ⟨[]⟩, {}, 1503, os⟩
theorem open_is : ∀ w : World, (fencedOpening treeTable P0 w 16592).map (fun s => (s.heap, s.gens, s.drawn, s.toks)) = some (boot_heap w.params, ⟨[]⟩, boot_drawn, boot_toks) :=
  boot_open (by kernel_rfl) (by decide) (fun s => by kernel_rfl)
theorem size_is (w : World) : ((boot_heap w.params).isNs mainGlobals && (⟨[]⟩ : Array GenState).size == 0, (boot_heap w.params).objs.size, (boot_heap w.params).nsMap mainGlobals "__annotations__") = (true, 11, some (.ref 6)) := by
  rw [Fast.te8920871248978507458]; kernel_rfl
theorem look_0 (w : World) (os : OsState) : (staticsOk (importedModules P0.main.body) (boot_heap w.params) (heapF w.params) && namesBound P0 (heapF w.params) && gensDone (sF w os) && laidKept (boot_heap w.params) (heapF w.params)) = true := by
  rw [Fast.te5923862056798008813]; kernel_rfl
theorem look_1 (w : World) (os : OsState) : seen ((recsOf hd.view_39).map (·.name)) (ownsOf hd.view_39) [] { sF w os with gens := #[] } = expectedOf hd.view_39 := by
  rw [Fast.te5160383126252970620, Fast.te3399658132070893891, Fast.te5991557255702980513]; kernel_rfl
theorem look_2 (w : World) (os : OsState) : (sF w os).heap.bltView = bltViewBooted := by kernel_rfl
theorem look_3 (w : World) (os : OsState) : ((sF w os).heap.keysOk (looseW hd.view_39 looses) ((recsOf hd.view_39).map (·.name)) ((litsOf hd.view_39).map (·.1)) ((clssOf hd.view_39 (looseW hd.view_39 looses)).map (·.name)) && (sF w os).heap.accountedOkI (importedModules P0.main.body) && (sF w os).heap.isNs mainGlobals && (sF w os).heap.isNs builtinsNs && tablesOk hd.view_39 (sF w os).heap && xts (sF w os) && (if true then (sF w os).gens.size == 0 else !leftWithCleanup (sF w os).gens)) = true := by
  rw [Fast.te10880121769531294198, Fast.te821141287760084731, Fast.te3399658132070893891, Fast.te7409074990110511671, Fast.te13664370479719496447, Fast.te14722251495701143533, Fast.te5923862056798008813, Fast.te10994771534591457954]; kernel_rfl
theorem look_4 (w : World) (os : OsState) : tabsOk hd.view_39 (sF w os) = true := by
  rw [Fast.te479339242167458305]; kernel_rfl
theorem look_5 (w : World) (os : OsState) : pinSeenD hd.view_39 (drecsOf hd.view_39) (sF w os) = pinGoodD (drecsOf hd.view_39) := by
  rw [Fast.te16090120013241838585, Fast.te3247288618530077131]; kernel_rfl
theorem look_6 (w : World) (os : OsState) : plainSeenE hd.view_39 (looseW hd.view_39 looses) (sF w os) = plainGoodE hd.view_39 (looseW hd.view_39 looses) := by
  rw [Fast.te2386780881361962483, Fast.te821141287760084731]; kernel_rfl
theorem look_7 (w : World) (os : OsState) : plainSeenD hd.view_39 looses (sF w os) = plainGoodD hd.view_39 looses := by
  rw [Fast.te11698064438423848299]; kernel_rfl
theorem look_8 (w : World) (os : OsState) : wideSeen hd.view_39 (sF w os) = wideGood hd.view_39 := by
  rw [Fast.te7317090234206586261]; kernel_rfl
theorem look_9 (w : World) (os : OsState) : clsSeenW hd.view_39 looses (sF w os) = clsGoodW hd.view_39 looses := by
  rw [Fast.te7369524293546568484]; kernel_rfl
theorem look_y (w : World) (os : OsState) : hook.obs (sF w os) = hook.val w := by kernel_rfl
theorem left : LeftO P0 hd.view_39 looses xts hook.obs hook.val 16592 :=
  LeftO.of_pieces (m₀ := 11) (ann := some (.ref 6)) (M := 12 + (1 + (3037 + (1293 + (1239 + (2540 + (129 + 2))))))) (H₀ := boot_heap) (H₁ := heapF) open_is size_is run_all (by decide) (fun w => funext fun os =>
    looks_pair (look_0 w os) (looks_pair (looks_pair (look_1 w os) (looks_pair (look_2 w os) (looks_pair (look_3 w os) (looks_pair (look_4 w os) (looks_pair (look_5 w os) (looks_pair (look_6 w os) (looks_pair (look_7 w os) (looks_pair (look_8 w os) (look_9 w os))))))))) (look_y w os)))
end Mine
end

section
open PySem PySem.W PyProof.Rows
set_option Elab.async false
set_option linter.unusedVariables false
set_option maxRecDepth 100000
namespace Mine
theorem said_2 : ((moduleNames P0.main.body).isEmpty || lookedIntoSs (moduleNames P0.main.body) P0.main.body) = true := by
  rewrite [Fast.te9807087744658564304, Fast.te12862048085361865435]; kernel_rfl
theorem said_3 : namesResolve P0 = true := by
  rewrite [Fast.te8377067652309620493]; kernel_rfl
theorem said_4 : P0.boundNames.all (fun n => !worldNames.contains n) = true := by
  rewrite [Fast.te18344453789297297638, Fast.te3471404346716756564, Fast.te14412699480532031325]; kernel_rfl
theorem look_is : ({ strict := !(importedModules P0.main.body).all cThrough.contains, foot := none, bare := (["vars", "dir", "locals"] : List Str).filter (readsOut P0 P0.main.body) } : Look) = { strict := false, foot := none, bare := [] } := by
  rewrite [Fast.te5923862056798008813, Fast.te3471404346716756564, Fast.te17691160309236699985, Fast.te13343964577679436407]; kernel_rfl
theorem road_app (lk : Look) : ∀ a b : List Stmt, noRoadLSs lk (a ++ b) = (noRoadLSs lk a && noRoadLSs lk b)
  | [], b => by simp only [List.nil_append, noRoadLSs, Bool.true_and]
  | s :: r, b => by simp only [List.cons_append, noRoadLSs, road_app lk r b, Bool.and_assoc]
theorem road_cut {lk : Look} {l : List Stmt} (n : Nat) (h1 : noRoadLSs lk (l.take n) = true) (h2 : noRoadLSs lk (l.drop n) = true) : noRoadLSs lk l = true := by
  rw [← List.take_append_drop n l, road_app, h1, h2]; rfl
def bare : Stmt → Stmt
  | .ClassDef n bs ks _ ds tps sc ts bd sa p => .ClassDef n bs ks [] ds tps sc ts bd sa p
  | s => s
theorem road_cls {lk : Look} {s : Stmt} (h1 : noRoadLSs lk [bare s] = true) (h2 : noRoadLSs lk.inClass (dBody s) = true) : noRoadLSs lk [s] = true := by
  cases s with
  | ClassDef n bs ks b ds tps sc ts bd sa p =>
    simp only [bare, dBody, noRoadLSs, noRoadLS, Bool.and_eq_true, Bool.and_true] at h1 h2 ⊢
    simp only [h1, h2, and_self]
  | _ => exact h1
abbrev lk0 : Look := { strict := false, foot := none, bare := [] }
theorem road_1 : noRoadLSs lk0 (P0.main.body.take 21) = true := by rewrite [Fast.te8326940854005059898]; kernel_rfl
theorem road_2 : noRoadLSs lk0 [bare (nth (P0.main.body) 21)] = true := by rewrite [Fast.te8326940854005059898]; kernel_rfl
theorem road_3 : noRoadLSs lk0.inClass ((dBody (nth (P0.main.body) 21)).take 10) = true := by rewrite [Fast.te8326940854005059898]; kernel_rfl
theorem road_4 : noRoadLSs lk0.inClass (((dBody (nth (P0.main.body) 21)).drop 10).take 20) = true := by rewrite [Fast.te8326940854005059898]; kernel_rfl
theorem road_5 : noRoadLSs lk0.inClass (((dBody (nth (P0.main.body) 21)).drop 10).drop 20) = true := by rewrite [Fast.te8326940854005059898]; kernel_rfl
theorem road_6 : noRoadLSs lk0 ((P0.main.body.drop 21).drop 1) = true := by rewrite [Fast.te8326940854005059898]; kernel_rfl
theorem road_7 : (P0.main.body.drop 21).take 1 = [nth P0.main.body 21] := by kernel_rfl
theorem said_5 : noRoadLSs { strict := !(importedModules P0.main.body).all cThrough.contains, foot := none, bare := (["vars", "dir", "locals"] : List Str).filter (readsOut P0 P0.main.body) } P0.main.body = true := by
  rw [look_is]
  refine road_cut 21 road_1 (road_cut 1 ?_ road_6)
  rw [road_7]
  exact road_cls road_2 (road_cut 10 road_3 (road_cut 20 road_4 road_5))
theorem said_6 : namesMeet P0 P0.main.body (fun _ n => attrL n) = true := by
  rewrite [Fast.te17119622794617984870, Fast.te17868728402115742887]; kernel_rfl
set_option maxHeartbeats 4000000 in
theorem said : OpenLaw.wellSaid PySem.Challenge.rw_qy0005_08 = true := by
  unfold OpenLaw.wellSaid OpenRow.wellSaid OpenRow.partSaid looksOpen
  repeat' (with_reducible apply look_both)
  all_goals first
    | with_reducible exact said_2
    | with_reducible exact said_3
    | with_reducible exact said_4
    | with_reducible exact said_5
    | with_reducible exact said_6
    | skip
  all_goals
    (try rewrite [Fast.te11788848310118352699]); (try rewrite [Fast.te18344453789297297638]); (try rewrite [Fast.te3471404346716756564]); (try rewrite [Fast.te8326940854005059898])
    (try rewrite [Fast.te17119622794617984870]); (try rewrite [Fast.te13582783067957832011]); (try rewrite [Fast.te5318747976498570220]); (try rewrite [Fast.te12749700546528644094])
    (try rewrite [Fast.te10501279942588096481]); (try rewrite [Fast.te8179353310426384613]); (try rewrite [Fast.te797321630700447069]); (try rewrite [Fast.te9572597257264208301])
    (try rewrite [Fast.te9558739934217749035]); (try rewrite [Fast.te16286561074155671207]); (try rewrite [Fast.te6984425678791042302]); (try rewrite [Fast.te17095254045102204799])
    (try rewrite [Fast.te12879404354523853263]); (try rewrite [Fast.te482687673346738481]); (try rewrite [Fast.te10792542408131684335]); (try rewrite [Fast.te7723801398212525404])
    kernel_rfl
end Mine
end

section
open PySem PySem.W PyProof.Rows
set_option Elab.async false
set_option linter.unusedVariables false
set_option maxRecDepth 100000
namespace Mine
theorem chains_ok : (chainsOk hd.view_39 && opensWell PySem.Challenge.rw_qy0005_08.row.prog && (frees PySem.Challenge.rw_qy0005_08.row.toRowW && PySem.Challenge.rw_qy0005_08.row.within.isEmpty)) = true := by decide +kernel
theorem whole_app (top : Scope) (cx : TablesWhole.Ctx) (sc : Scope) : ∀ a b : List Stmt, TablesWhole.wSs TablesWhole.holds top cx sc (a ++ b) = (TablesWhole.wSs TablesWhole.holds top cx sc a && TablesWhole.wSs TablesWhole.holds top cx sc b)
  | [], b => by simp only [List.nil_append, TablesWhole.wSs]; exact (Bool.true_and _).symm
  | s :: r, b => by
    simp only [List.cons_append, TablesWhole.wSs, whole_app top cx sc r b]
    exact (Bool.and_assoc _ _ _).symm
theorem whole_cut {top : Scope} {cx : TablesWhole.Ctx} {sc : Scope} {l : List Stmt} (n : Nat) (h1 : TablesWhole.wSs TablesWhole.holds top cx sc (l.take n) = true) (h2 : TablesWhole.wSs TablesWhole.holds top cx sc (l.drop n) = true) : TablesWhole.wSs TablesWhole.holds top cx sc l = true := by
  rw [← List.take_append_drop n l, whole_app, h1, h2]; rfl
noncomputable abbrev mainM : Module := PySem.Challenge.pw_qy0005_08.main
theorem told_is : TablesWhole.wSs TablesWhole.gather mainM.scope ⟨mainM.scope, [], [], [], none⟩ mainM.scope mainM.body = [] := by kernel_rfl
abbrev cx0 : TablesWhole.Ctx := ⟨PySem.Challenge.pw_qy0005_08.main.scope, [], [], [], none⟩
theorem whole_1 : TablesWhole.wSs TablesWhole.holds mainM.scope cx0 mainM.scope (mainM.body.take 21) = true := by kernel_rfl
theorem whole_2 : TablesWhole.wSs TablesWhole.holds mainM.scope cx0 mainM.scope (mainM.body.drop 21) = true := by kernel_rfl
theorem tables_of {p : Program} (ht : TablesWhole.wSs TablesWhole.gather p.main.scope ⟨p.main.scope, [], [], [], none⟩ p.main.scope p.main.body = []) (hs : TablesWhole.wSs TablesWhole.holds p.main.scope ⟨p.main.scope, [], [], [], none⟩ p.main.scope p.main.body = true)
    (hn : TablesWhole.noTwice p.main.scope = true) (hm : p.modules = []) (hp : p.parses = []) (hh : p.harvested = []) : p.tablesWhole = true := by
  unfold Program.tablesWhole TablesWhole.wProgram TablesWhole.wModule
  rw [hm, hp, hh]
  dsimp only
  rw [ht, hs, hn]
  rfl
theorem tables_ok : PySem.Challenge.rw_qy0005_08.row.prog.tablesWhole = true :=
  tables_of (p := PySem.Challenge.pw_qy0005_08) told_is (whole_cut 21 whole_1 whole_2) (by kernel_rfl) rfl rfl rfl
end Mine
end

section
open PySem PySem.W PyProof.Rows PySem.Builtin PySem.Builtin.Str
set_option Elab.async false
namespace Mine
/- texts: a sign that does not stand in a text -/
theorem no_sub {x y : Str} {c : Nat} (hy : c ∈ y.cps.toList) (hx : c ∉ x.cps.toList) (i : Nat) : subAt x y i = false := by
  cases h : subAt x y i with
  | false => rfl
  | true =>
    rw [StrLaws.subAt_eq] at h
    have e := eq_of_beq h
    rw [← e] at hy
    exact absurd (List.mem_of_mem_drop (List.mem_of_mem_take hy)) hx
theorem occ_nil {x y : Str} {c : Nat} (hy : c ∈ y.cps.toList) (hx : c ∉ x.cps.toList) (lo hi lim : Nat) : occurrences x y lo hi lim = [] := by
  cases h : occurrences x y lo hi lim with
  | nil => rfl
  | cons a r =>
    have := (PySem.StrLaws.occ_spec x y lo hi lim a (by rw [h]; exact .head _)).2
    rw [no_sub hy hx] at this
    cases this
theorem last_nil {x y : Str} {c : Nat} (hy : c ∈ y.cps.toList) (hx : c ∉ x.cps.toList) (lo hi : Nat) : lastOccurrence x y lo hi = none := by
  rw [StrLaws.last_eq]
  generalize List.range' lo (hi + 1 - lo) = l
  induction l with
  | nil => rfl
  | cons a r ih =>
    rw [List.forIn_cons]
    unfold StrLaws.lastBody
    rw [if_neg (by rw [no_sub hy hx]; exact fun h => nomatch h.2)]
    exact ih
theorem repl_nil {x y z : Str} {c : Nat} (hy : c ∈ y.cps.toList) (hx : c ∉ x.cps.toList) : Txt.replace x y z = x := by
  unfold Txt.replace
  rw [occ_nil hy hx]
  rfl
theorem gives_count4 {x y : Str} {c : Nat} (hy : c ∈ y.cps.toList) (hx : c ∉ x.cps.toList) (i j : Int) (t u v v' : Tok) : Gives («str.count» ⟨[.str x t, .str y u, .int i v, .int j v'], []⟩) (.int 0) := by
  show Gives (retInt (occurrences x y (fromIndex x.length i) (min (fromIndex x.length j) x.length) (x.length + 1)).length) _
  rw [occ_nil hy hx]
  exact .of_eq rfl
theorem gives_rfind4 {x y : Str} {c : Nat} (hy : c ∈ y.cps.toList) (hx : c ∉ x.cps.toList) (i j : Int) (t u v v' : Tok) : Gives («str.rfind» ⟨[.str x t, .str y u, .int i v, .int j v'], []⟩) (.int (-1)) := by
  show Gives (match lastOccurrence x y (fromIndex x.length i) (min (fromIndex x.length j) x.length) with | some i => retInt i | none => (do rule "str.rfind.not-found"; retInt (-1))) _
  rw [last_nil hy hx]
  exact .rule (.of_eq rfl)
section
variable {prog : Program} {w : World} {A : Around} {E : Value → Shared → Prop} {s : Shared} {x y z : Str} {c : Nat} {t u v v' : Tok} {i j : Int} {Q : Value → Shared → Prop}
theorem count4 (hy : c ∈ y.cps.toList) (hx : c ∉ x.cps.toList) (hq : Q (.int 0 s.toks) { s with toks := s.toks + 1 }) : wpAny (model prog w) A (call (.builtin "str.count") [.str x t, .str y u, .int i v, .int j v']) Q E s :=
  call_gives F.slot_str_count (typeIs_str _ _ _) F.entry_str_count (F.args_str_count_4 _ _ _ _) (gives_count4 hy hx i j t u v v') hq
theorem rfind4 (hy : c ∈ y.cps.toList) (hx : c ∉ x.cps.toList) (hq : Q (.int (-1) s.toks) { s with toks := s.toks + 1 }) : wpAny (model prog w) A (call (.builtin "str.rfind") [.str x t, .str y u, .int i v, .int j v']) Q E s :=
  call_gives F.slot_str_rfind (typeIs_str _ _ _) F.entry_str_rfind (F.args_str_rfind_4 _ _ _ _) (gives_rfind4 hy hx i j t u v v') hq
theorem repl3 (hy : c ∈ y.cps.toList) (hx : c ∉ x.cps.toList) (hq : Q (.str x t) s) : wpAny (model prog w) A (call (.builtin "str.replace") [.str x t, .str y u, .str z v]) Q E s := by
  have e := occ_nil hy hx 0 x.length (x.length + 1)
  refine call_gives F.slot_str_replace (typeIs_str _ _ _) F.entry_str_replace (F.args_str_replace_3 _ _ _) (gives_str_replace x y z t u v (fun h => ?_)) ?_
  · rw [e] at h
    cases h
  · rw [e]
    exact hq
end
theorem slice_clip {x : Str} {l : Option Int} {j : Int} (h : (x.length : Int) ≤ j) : Txt.slice x l (some j) = Txt.slice x l none := by
  have e : strSliceIndices l (some j) 1 x.length = strSliceIndices l none 1 x.length := by
    have h0 : ¬ j < 0 := by omega
    have h2 : (1 : Int) > 0 := by decide
    simp only [strSliceIndices, h0, h2, if_false, if_true, Int.min_eq_right h]
    rw [Int.max_eq_right (by omega)]
  unfold Txt.slice
  rw [e]
theorem slice_zero {x : Str} : Txt.slice x (some 0) none = x := by
  rw [slice_from_eq (b := (x.length : Int)) (Int.le_refl _) (by omega) rfl]
  have e : x.cps.toList.length = x.length := Array.length_toList
  simp only [Int.toNat_zero, List.drop_zero, Int.sub_zero, Int.toNat_natCast, ← e, List.take_length, Array.toArray_toList]
theorem slice_end {x : Str} {i j : Int} (h : i = (x.length : Int)) (hj : i ≤ j) : Txt.slice x (some i) (some j) = Str.ofString "" := by
  rw [slice_clip (by omega), slice_beyond (by omega)]; rfl
theorem slice_whole {x : Str} {j : Int} (h : (x.length : Int) ≤ j) : Txt.slice x (some 0) (some j) = x := by
  rw [slice_clip h, slice_zero]
section
variable {prog : Program} {w : World} {A : Around} {E : Value → Shared → Prop} {s : Shared} {x y : Str} {t : Tok} {Q : Value → Shared → Prop} {h₀ : Heap} {L : Addr} {m : Str → Option Value} {news : List (Addr × Obj)} {value slice : Expr}
theorem slice_ss_is {i j : Int} {ui uj : Tok} (e : Txt.slice x (some i) (some j) = y) (hF : Fr h₀ L s.heap m) (hN : News h₀ L s.heap news) (h : ∀ h' t' k, Fr h₀ L h' m → News h₀ L h' news → Q (.str y t') { s with heap := h', toks := k })
    (hs : subscripted slice false (.str x t) (.ref s.heap.objs.size) = operate [.ref s.heap.objs.size, .str x t] (getItem (.str x t) (.ref s.heap.objs.size)) := by with_unfolding_all rfl)
    (ht : ∀ r, letTemporaryGo value (.str x t) r = pure () := by intro _; with_unfolding_all rfl) (hsz : x.length ≤ sizeLine := by size_fits) :
    wpAny (model prog w) A (subscriptTail value slice (.str x t) (.ref s.heap.objs.size)) Q E { s with heap := s.heap.push { cls := .type "slice", data := .fields #[.int i ui, .int j uj, .none] } } := by
  subst e
  exact slice_strN_ss hF hN h hs ht hsz
theorem slice_sn_is {i : Int} {ui : Tok} (e : Txt.slice x (some i) none = y) (hF : Fr h₀ L s.heap m) (hN : News h₀ L s.heap news) (h : ∀ h' t' k, Fr h₀ L h' m → News h₀ L h' news → Q (.str y t') { s with heap := h', toks := k })
    (hs : subscripted slice false (.str x t) (.ref s.heap.objs.size) = operate [.ref s.heap.objs.size, .str x t] (getItem (.str x t) (.ref s.heap.objs.size)) := by with_unfolding_all rfl)
    (ht : ∀ r, letTemporaryGo value (.str x t) r = pure () := by intro _; with_unfolding_all rfl) (hsz : x.length ≤ sizeLine := by size_fits) :
    wpAny (model prog w) A (subscriptTail value slice (.str x t) (.ref s.heap.objs.size)) Q E { s with heap := s.heap.push { cls := .type "slice", data := .fields #[.int i ui, .none, .none] } } := by
  subst e
  exact slice_strN_sn hF hN h hs ht hsz
theorem slice_ns_is {j : Int} {uj : Tok} (e : Txt.slice x none (some j) = y) (hF : Fr h₀ L s.heap m) (hN : News h₀ L s.heap news) (h : ∀ h' t' k, Fr h₀ L h' m → News h₀ L h' news → Q (.str y t') { s with heap := h', toks := k })
    (hs : subscripted slice false (.str x t) (.ref s.heap.objs.size) = operate [.ref s.heap.objs.size, .str x t] (getItem (.str x t) (.ref s.heap.objs.size)) := by with_unfolding_all rfl)
    (ht : ∀ r, letTemporaryGo value (.str x t) r = pure () := by intro _; with_unfolding_all rfl) (hsz : x.length ≤ sizeLine := by size_fits) :
    wpAny (model prog w) A (subscriptTail value slice (.str x t) (.ref s.heap.objs.size)) Q E { s with heap := s.heap.push { cls := .type "slice", data := .fields #[.none, .int j uj, .none] } } := by
  subst e
  exact slice_strN_ns hF hN h hs ht hsz
end
end Mine
namespace Mine
theorem noBool_method : typeLookup (.type "method") "__bool__" = pure none := by rw [typeLookup_type, builtinLookup_eq_fast]; kernel_rfl
theorem noLen_method : typeLookup (.type "method") "__len__" = pure none := by rw [typeLookup_type, builtinLookup_eq_fast]; kernel_rfl
theorem truthy_meth {prog : Program} {w : World} {A : Around} {E : Value → Shared → Prop} {s : Shared} {q : Addr} {f self : Value} {Q : Bool → Shared → Prop} {h₀ : Heap} {L : Addr} {news : List (Addr × Obj)} (N : News h₀ L s.heap news) (hq : (q, methodObj f self) ∈ news) (h : Q true s) :
    wpAny (model prog w) A (truthy (.ref q)) Q E s := by
  have hT : s.TypeIs (.ref q) "method" := ⟨_, (N _ hq).1, rfl⟩
  unfold truthy
  refine wpAny_bind (wpAny_callSpecial?_none (name := Str.ofString "__bool__") hT noBool_method ?_)
  refine wpAny_bind (wpAny_specialOf (name := Str.ofString "__len__") hT noLen_method ?_)
  exact wpAny_pure h
end Mine
end

section
open PySem PySem.W PyProof.Rows
set_option Elab.async false
set_option rowWalk.seconds 0
set_option maxRecDepth 100000
set_option maxHeartbeats 8000000
namespace Mine
abbrev En (w : World) (n : String) (k : Tok) (v : Value) : DictEntry := ⟨PyData.keyHash w.params (Str.ofString n), .str (Str.ofString n) k, v⟩
structure SK where
  (k1 k2 k3 k4 k5 k6 k7 k8 k9 k10 : Tok)
abbrev sDict (w : World) (k : SK) (mo nl ds er : Addr) (chunk size off pl pc : Value) : Obj := dictOf [En w "reportCharacterErrors" k.k1 (.ref mo), En w "newLines" k.k2 (.ref nl), En w "dataStream" k.k3 (.ref ds),
  En w "chunk" k.k4 chunk, En w "chunkSize" k.k5 size, En w "chunkOffset" k.k6 off, En w "errors" k.k7 (.ref er), En w "prevNumLines" k.k8 pl, En w "prevNumCols" k.k9 pc, En w "_bufferedCharacter" k.k10 .none] 10
abbrev xDict (w : World) (j1 j2 : Tok) (text place : Value) : Obj := dictOf [En w "text" j1 text, En w "place" j2 place] 2
end Mine
end

section
open PySem PySem.W PyProof.Rows
set_option Elab.async false
set_option rowWalk.seconds 0
set_option maxRecDepth 100000
set_option maxHeartbeats 8000000
namespace Mine
local macro_rules | `(tactic| k_room) => `(tactic| ktr_room)
local macro_rules | `(tactic| k_units) => `(tactic| ktr_units)

theorem char_reg {w : World} {p : Program} {loose : List Str} {mean : ExcName → Option Value} {mg mb : Str → Option Value} {dp un : Nat} {gd : Option (List Code)} {cn : Str} {cs : Scope} {a : Addr} {ccd : Value} {cl : List (Str × Addr)} {outer : List Env} {A₀ : Around} {base h₀ : Heap} {L : Addr} {m : Str → Option Value} {s : Shared} {Q E : Value → Shared → Prop}
   {x dx mo nl ds er : Addr} {k : SK} {chunk : Str} {tc : Tok} {size : Int} {ts : Tok} {off : Int} {to : Tok} {pl pc : Value} {own : List (Addr × Obj)}
   (B : Below A₀ base outer h₀) (F : Fr h₀ L s.heap m) (X : (hd.heap_39 w.params).In h₀) (N : News h₀ L s.heap ((dx, sDict w k mo nl ds er (.str chunk tc) (.int size ts) (.int off to) pl pc) :: (x, instObj 166 dx) :: own))
   (T : Top p loose mean mg mb h₀) (hk : cs.kind = .function) (hoff : OwnOff own [dx, x]) (hne : dx < x) (hdp : dp ≤ 600) (hun : un ≤ 600)
   (h0 : 0 ≤ off) (h1 : off < size) (h2 : size = chunk.length) (h3 : size < 2 ^ 31)
   (ret : ∀ h' tk' t1 t2, Fr h₀ L h' m → News h₀ L h' ((dx, sDict w k mo nl ds er (.str chunk tc) (.int size ts) (.int (off + 1) t2) pl pc) :: (x, instObj 166 dx) :: own) → Q (.str (Txt.item chunk off) t1) { s with heap := h', toks := tk' })
   : wpAny (model Challenge.rw_qy0005_08.row.prog w) (ktrTop dp un gd cn cs L a ccd cl outer) (call (.ref 133) [.ref x]) Q E s := by
  revert X
  k_fill
  intro X
  w_on
  replace hne := ltN hne
  refine wpAny_call ?_
  k_dflt cell_enter
  k_steps
  (rename News _ _ _ _ => N9)
  (rename Fr _ _ _ _ => F9)
  exact ret _ _ _ _ F9 N9
end Mine
end

section
open PySem PySem.W PyProof.Rows
set_option Elab.async false
set_option rowWalk.seconds 0
set_option maxRecDepth 100000
set_option maxHeartbeats 8000000
namespace Mine
local macro_rules | `(tactic| k_room) => `(tactic| ktr_room)
local macro_rules | `(tactic| k_units) => `(tactic| ktr_units)
local macro_rules | `(tactic| k_enter) => `(tactic| (refine' code_def ?k1 ?k2 ?k3 ?k4 ?k5 ?kA ?kF ?kK ?k6 ?k7 ?k8 ?k9 ?kB ?_ ?c2 ?c3 ?c4 ?c5; (case kA => exact rfl); (case kF => exact rfl); (case kK => first | exact rfl | assumption); (case k1 => k_asm); (case k2 => k_asm); (case k3 => k_asm); (case k4 => k_asm); (case k5 => k_asm); (case k6 => k_is); (case k7 => k_is); (case k8 => ktr_room); (case k9 => first | exact BindsTo.of_eq rfl | exact binds_K (by k_in) rfl (by k_is) rfl rfl rfl | fail "k_enter: no rule for these arguments"); (case c5 => decide); (case kB => exact locs rfl); (case c2 => exact rfl); (case c3 => exact rfl); (case c4 => exact rfl); k_whole; intro g' L' h' FG' F' N' B' X' T'; (try dsimp only); (try k_lift B'); (try k_fold)))

local macro_rules | `(tactic| walk_at "call builtin:str.count") => `(tactic| (refine count4 (c := 10) (by decide) (by assumption) ?_))
local macro_rules | `(tactic| walk_at "call builtin:str.rfind") => `(tactic| (refine rfind4 (c := 10) (by decide) (by assumption) ?_))
local macro_rules | `(tactic| walk_at "subscriptTail Name Slice str ref") => `(tactic| ((with_reducible show wpAny _ _ (subscriptTail _ (Expr.Slice (some _) (some _) none _) _ _) _ _ _); (with_reducible rename Fr _ _ _ _ => F'); (with_reducible rename News _ _ _ _ => N'); (refine slice_ss_is (hsz := ?hsz) (s := ⟨_, _, _, _, _⟩) (by assumption) F' N' ?_); (case hsz => size_fits); intro _ _ _ _ _))

theorem read_eof {w : World} {p : Program} {loose : List Str} {mean : ExcName → Option Value} {mg mb : Str → Option Value} {dp un : Nat} {gd : Option (List Code)} {cn : Str} {cs : Scope} {a : Addr} {ccd : Value} {cl : List (Str × Addr)} {outer : List Env} {A₀ : Around} {base h₀ : Heap} {L : Addr} {m : Str → Option Value} {s : Shared} {Q E : Value → Shared → Prop}
   {x dx mo nl ds dds er : Addr} {k : SK} {chunk : Str} {tc : Tok} {size : Int} {ts : Tok} {off : Int} {to : Tok} {pl : Int} {tpl : Tok} {pc : Int} {tpc : Tok} {j1 j2 : Tok} {txt : Str} {tt : Tok} {pp : Int} {tp : Tok} {own : List (Addr × Obj)}
   (B : Below A₀ base outer h₀) (F : Fr h₀ L s.heap m) (X : (hd.heap_39 w.params).In h₀) (N : News h₀ L s.heap ((dx, sDict w k mo nl ds er (.str chunk tc) (.int size ts) (.int off to) (.int pl tpl) (.int pc tpc)) :: (x, instObj 166 dx) :: (dds, xDict w j1 j2 (.str txt tt) (.int pp tp)) :: (ds, instObj 73 dds) :: own))
   (T : Top p loose mean mg mb h₀) (hk : cs.kind = .function) (hoff : OwnOff own [dx, x, dds, ds]) (hne : dx < x) (hne2 : x < dds) (hne3 : dds < ds) (hdp : dp ≤ 600) (hun : un ≤ 600)
   (h2 : size = chunk.length) (h3 : size < 2 ^ 20) (h4 : pp = txt.length) (h5 : pp < 2 ^ 20) (h6 : 10 ∉ chunk.cps.toList)
   (ret : ∀ h' tk' t1 t2 t3 t4 t5 t6, Fr h₀ L h' m → News h₀ L h' ((dx, sDict w k mo nl ds er (.str (Str.ofString "") t1) (.int 0 t2) (.int 0 t3) (.int (pl + 0) t4) (.int (pc + size) t5)) :: (x, instObj 166 dx) :: (dds, xDict w j1 j2 (.str txt tt) (.int (pp + 0) t6)) :: (ds, instObj 73 dds) :: own) → Q (.bool false) { s with heap := h', toks := tk' })
   : wpAny (model Challenge.rw_qy0005_08.row.prog w) (ktrTop dp un gd cn cs L a ccd cl outer) (call (.ref 141) [.ref x]) Q E s := by
  revert X
  k_fill
  intro X
  w_on
  replace hne := ltN hne
  replace hne2 := ltN hne2
  replace hne3 := ltN hne3
  have hE : Txt.slice txt (some pp) (some (pp + 10240)) = Str.ofString "" := slice_end h4 (by omega)
  refine wpAny_call ?_
  k_dflt k_enter
  k_steps
  (rename News _ _ _ _ => N9)
  (rename Fr _ _ _ _ => F9)
  exact ret _ _ _ _ _ _ _ _ F9 (fun p hp => N9 p (List.Mem.tail _ hp))
end Mine
end

section
open PySem PySem.W PyProof.Rows
set_option Elab.async false
set_option rowWalk.seconds 0
set_option maxRecDepth 100000
set_option maxHeartbeats 8000000
set_option linter.unusedVariables false
namespace Mine
local macro_rules | `(tactic| k_room) => `(tactic| ktr_room)
local macro_rules | `(tactic| k_units) => `(tactic| ktr_units)
local macro_rules | `(tactic| k_enter) => `(tactic| (refine' code_def ?k1 ?k2 ?k3 ?k4 ?k5 ?kA ?kF ?kK ?k6 ?k7 ?k8 ?k9 ?kB ?_ ?c2 ?c3 ?c4 ?c5; (case kA => exact rfl); (case kF => exact rfl); (case kK => first | exact rfl | assumption); (case k1 => k_asm); (case k2 => k_asm); (case k3 => k_asm); (case k4 => k_asm); (case k5 => k_asm); (case k6 => k_is); (case k7 => k_is); (case k8 => ktr_room); (case k9 => first | exact BindsTo.of_eq rfl | exact binds_K (by k_in) rfl (by k_is) rfl rfl rfl | fail "k_enter: no rule for these arguments"); (case c5 => decide); (case kB => exact locs rfl); (case c2 => exact rfl); (case c3 => exact rfl); (case c4 => exact rfl); k_whole; intro g' L' h' FG' F' N' B' X' T'; (try dsimp only); (try k_lift B'); (try k_fold)))
local macro_rules | `(tactic| walk_at "no such key") => `(tactic| fail)
local macro_rules | `(tactic| walk_at "ite") => `(tactic| first | (refine ite_neg (by (simp only [List.any_cons, List.any_nil, Bool.or_false, Bool.or_eq_true, Bool.not_eq_true', bne_iff_ne, bne_eq_false_iff_eq, ne_eq, beq_iff_eq, decide_eq_true_eq, Int.fmod_eq_emod_of_nonneg, Int.fdiv_eq_ediv_of_nonneg, Int.reduceLE]); omega) ?_) | (refine ite_pos (by (simp only [List.any_cons, List.any_nil, Bool.or_false, Bool.or_eq_true, Bool.not_eq_true', bne_iff_ne, bne_eq_false_iff_eq, ne_eq, beq_iff_eq, decide_eq_true_eq, Int.fmod_eq_emod_of_nonneg, Int.fdiv_eq_ediv_of_nonneg, Int.reduceLE]); omega) ?_))
local macro_rules | `(tactic| walk_at "compareOp In int ref") => `(tactic| ((with_reducible show wpAny _ _ (compareOp CmpOp.In (Value.int _ _) (Value.ref _)) _ _ _); k_dflt (refine' in_tuple_ints ?t ?i ?_; (case t => exact News.isTup (by k_asm) (by k_mem)); (case i => (repeat constructor)))))
local macro_rules | `(tactic| walk_at "compareOp NotIn int ref") => `(tactic| ((with_reducible show wpAny _ _ (compareOp CmpOp.NotIn (Value.int _ _) (Value.ref _)) _ _ _); k_dflt (refine' notin_tuple_ints ?t ?i ?_; (case t => exact News.isTup (by k_asm) (by k_mem)); (case i => (repeat constructor)))))

theorem inval_no {w : World} {p : Program} {loose : List Str} {mean : ExcName → Option Value} {mg mb : Str → Option Value} {dp un : Nat} {gd : Option (List Code)} {cn : Str} {cs : Scope} {a : Addr} {ccd : Value} {cl : List (Str × Addr)} {outer : List Env} {A₀ : Around} {base h₀ : Heap} {L : Addr} {m : Str → Option Value} {s : Shared} {Q E : Value → Shared → Prop}
   {n : Int} {tn : Tok} {own : List (Addr × Obj)}
   (B : Below A₀ base outer h₀) (F : Fr h₀ L s.heap m) (X : (hd.heap_39 w.params).In h₀) (N : News h₀ L s.heap (own)) (T : Top p loose mean mg mb h₀) (hk : cs.kind = .function) (hdp : dp ≤ 560) (hun : un ≤ 560) (hv : (32 ≤ n ∧ n ≤ 126) ∨ n = 1633)
   (ret : ∀ h' tk', Fr h₀ L h' m → News h₀ L h' own → Q (.bool false) { s with heap := h', toks := tk' })
   : wpAny (model Challenge.rw_qy0005_08.row.prog w) (ktrTop dp un gd cn cs L a ccd cl outer) (call (.ref 84) [.int n tn]) Q E s := by
  revert X
  k_fill
  intro X
  w_on
  refine wpAny_call ?_
  k_dflt k_enter
  k_steps
  all_goals ((rename News _ _ _ _ => N9); (rename Fr _ _ _ _ => F9); (rw [show decide (55296 ≤ n) = false from decide_eq_false (by omega)]); exact ret _ _ F9 (fun p hp => N9 p (List.Mem.tail _ hp)))

def Fine (x : Str) : Prop := ∀ n ∈ x.cps.toList, (32 ≤ n ∧ n ≤ 126) ∨ n = 1633
theorem fine_turn {x : Str} {pre post : List Int} {n : Nat} (h : Fine x) (e : KStt.codes x = pre ++ (n : Int) :: post) : (32 ≤ (n : Int) ∧ (n : Int) ≤ 126) ∨ (n : Int) = 1633 := by
  have hm : (n : Int) ∈ KStt.codes x := by rw [e]; simp
  obtain ⟨c, hc, hn⟩ := List.mem_map.mp hm
  have e1 : c = n := Int.ofNat.inj hn
  have := h n (e1 ▸ hc)
  omega
local macro_rules | `(tactic| walk_at "call ref") => `(tactic| (k_here; (with_reducible show wpAny _ _ (call (Value.ref 84) _) _ _ _); k_dflt (refine' inval_no ?B ?F ?X ?N ?T ?hk ?hdp ?hun ?hv ?_; (case B => k_asm); (case F => k_asm); (case X => k_asm); (case N => k_asm); (case T => k_asm); (case hk => first | exact rfl | assumption); (case hdp => ((try simp only [depth_under_make, depth_under_kw, depth_in1, depth_deeper, units_in1, units_deeper, Around.mark_units] at *); (try dsimp only [ktrTop] at *); omega)); (case hun => ((try simp only [depth_under_make, depth_under_kw, depth_in1, depth_deeper, units_in1, units_deeper, Around.mark_units] at *); (try dsimp only [ktrTop] at *); omega)); (case hv => first | assumption | omega); k_whole); intro h' tk' F' N'; (try k_sweep)))
theorem fine_last {x : Str} (h : Fine x) (hl : 1 ≤ x.length) : (32 ≤ (((Txt.item x (-1)).cps.getD 0 0 : Nat) : Int) ∧ (((Txt.item x (-1)).cps.getD 0 0 : Nat) : Int) ≤ 126) ∨ (((Txt.item x (-1)).cps.getD 0 0 : Nat) : Int) = 1633 := by
  have hs : seqIndex? (-1) x.length = some (x.length - 1) := by
    unfold seqIndex?
    have h1 : (0 ≤ (-1 : Int) + x.length && (-1 : Int) + x.length < x.length) = true := by simp; omega
    simp only [show ((-1 : Int) < 0) = True from by simp, if_true, h1, Option.some.injEq]
    omega
  have hlt : x.length - 1 < x.cps.size := by have : x.cps.size = x.length := rfl; omega
  have e : (Txt.item x (-1)).cps.getD 0 0 = x.cps[x.length - 1] := by
    simp [Txt.item, Txt.charAt, hs, hlt]
  rw [e]
  have := h (x.cps[x.length - 1]) (by simp)
  omega
theorem fine_off {x : Str} {c : Nat} (h : Fine x) (hc : c < 32) : c ∉ x.cps.toList := fun hm => by
  have := h c hm
  omega
theorem errs_code {w : World} {p : Program} {loose : List Str} {mean : ExcName → Option Value} {mg mb : Str → Option Value} {dp un : Nat} {gd : Option (List Code)} {cn : Str} {cs : Scope} {a : Addr} {ccd : Value} {cl : List (Str × Addr)} {outer : List Env} {A₀ : Around} {base h₀ : Heap} {L : Addr} {m : Str → Option Value} {s : Shared} {Q E : Value → Shared → Prop}
   {x : Addr} {data : Str} {td : Tok} {own : List (Addr × Obj)}
   (B : Below A₀ base outer h₀) (F : Fr h₀ L s.heap m) (X : (hd.heap_39 w.params).In h₀) (N : News h₀ L s.heap (own)) (T : Top p loose mean mg mb h₀) (hk : cs.kind = .function) (hdp : dp ≤ 550) (hun : un ≤ 550) (hf : Fine data)
   (ret : ∀ h' tk', Fr h₀ L h' m → News h₀ L h' own → Q .none { s with heap := h', toks := tk' })
   : codeAny (model Challenge.rw_qy0005_08.row.prog w) (ktrTop dp un gd cn cs L a ccd cl outer) (.call (.ref 148) ⟨[.ref x, .str data td], []⟩) (fun r s' => match r with | .ok (.ret v) => Q v s' | .ok _ => False | .error e => E e s') s := by
  revert X
  k_fill
  intro X
  w_on

  k_with "pyIter str" => (refine' KStt.kst_text (σ := Unit) (fun _ => own) (fun _ => []) (fun _ => True) [] (fun _ _ => True) () (by rfl) (by assumption) (by assumption) trivial (fun _ h => nomatch h) trivial (fun c' pre' post' n' t' u' h' tk' own' e' hoff' hF' hP' F' N' => ?_) (fun c' u' h' tk' hF' hP' F' N' => ?_); (all_goals (try (have hv' := fine_turn hf e'; clear e'))); (all_goals (try k_fold)))
  k_dflt k_enter
  k_steps
  · (rename News _ _ _ _ => N9)
    (rename Fr _ _ _ _ => F9)
    refine kst_end () F9 N9 (fun p hp => List.mem_append_left _ hp) (fun p hp => List.mem_append_right _ hp) rfl trivial (fun _ h => nomatch h) ?_ trivial
    intro z h1 _ _
    simp [h1, kstB]
  · (rename News _ _ _ _ => N9)
    (rename Fr _ _ _ _ => F9)
    exact ret _ _ F9 N9
theorem errs_meth {w : World} {p : Program} {loose : List Str} {mean : ExcName → Option Value} {mg mb : Str → Option Value} {dp un : Nat} {gd : Option (List Code)} {cn : Str} {cs : Scope} {a : Addr} {ccd : Value} {cl : List (Str × Addr)} {outer : List Env} {A₀ : Around} {base h₀ : Heap} {L : Addr} {m : Str → Option Value} {s : Shared} {Q E : Value → Shared → Prop}
   {x mo : Addr} {data : Str} {td : Tok} {own : List (Addr × Obj)}
   (B : Below A₀ base outer h₀) (F : Fr h₀ L s.heap m) (X : (hd.heap_39 w.params).In h₀) (N : News h₀ L s.heap (own)) (T : Top p loose mean mg mb h₀) (hk : cs.kind = .function) (hdp : dp ≤ 550) (hun : un ≤ 550) (hq : (mo, methodObj (.ref 148) (.ref x)) ∈ own) (hf : Fine data)
   (ret : ∀ h' tk', Fr h₀ L h' m → News h₀ L h' own → Q .none { s with heap := h', toks := tk' })
   : wpAny (model Challenge.rw_qy0005_08.row.prog w) (ktrTop dp un gd cn cs L a ccd cl outer) (call (.ref mo) [.str data td]) Q E s := call_meth N hq (errs_code B F X N T hk hdp hun hf ret)
end Mine
end

section
open PySem PySem.W PyProof.Rows
set_option Elab.async false
set_option rowWalk.seconds 0
set_option maxRecDepth 100000
set_option maxHeartbeats 8000000
set_option linter.unusedVariables false
namespace Mine
local macro_rules | `(tactic| k_room) => `(tactic| ktr_room)
local macro_rules | `(tactic| k_units) => `(tactic| ktr_units)
local macro_rules | `(tactic| k_enter) => `(tactic| (refine' code_def ?k1 ?k2 ?k3 ?k4 ?k5 ?kA ?kF ?kK ?k6 ?k7 ?k8 ?k9 ?kB ?_ ?c2 ?c3 ?c4 ?c5; (case kA => exact rfl); (case kF => exact rfl); (case kK => first | exact rfl | assumption); (case k1 => k_asm); (case k2 => k_asm); (case k3 => k_asm); (case k4 => k_asm); (case k5 => k_asm); (case k6 => k_is); (case k7 => k_is); (case k8 => ktr_room); (case k9 => first | exact BindsTo.of_eq rfl | exact binds_K (by k_in) rfl (by k_is) rfl rfl rfl | fail "k_enter: no rule for these arguments"); (case c5 => decide); (case kB => exact locs rfl); (case c2 => exact rfl); (case c3 => exact rfl); (case c4 => exact rfl); k_whole; intro g' L' h' FG' F' N' B' X' T'; (try dsimp only); (try k_lift B'); (try k_fold)))
local macro_rules | `(tactic| walk_at "ite") => `(tactic| first | (refine ite_neg (by (simp only [List.any_cons, List.any_nil, Bool.or_false, Bool.or_eq_true, Bool.not_eq_true', bne_iff_ne, bne_eq_false_iff_eq, ne_eq, beq_iff_eq, decide_eq_true_eq, Int.fmod_eq_emod_of_nonneg, Int.fdiv_eq_ediv_of_nonneg, Int.reduceLE]); omega) ?_) | (refine ite_pos (by (simp only [List.any_cons, List.any_nil, Bool.or_false, Bool.or_eq_true, Bool.not_eq_true', bne_iff_ne, bne_eq_false_iff_eq, ne_eq, beq_iff_eq, decide_eq_true_eq, Int.fmod_eq_emod_of_nonneg, Int.fdiv_eq_ediv_of_nonneg, Int.reduceLE]); omega) ?_))
local macro_rules | `(tactic| walk_at "compareOp In int ref") => `(tactic| ((with_reducible show wpAny _ _ (compareOp CmpOp.In (Value.int _ _) (Value.ref _)) _ _ _); k_dflt (refine' in_tuple_ints ?t ?i ?_; (case t => exact News.isTup (by k_asm) (by k_mem)); (case i => (repeat constructor)))))
local macro_rules | `(tactic| walk_at "compareOp NotIn int ref") => `(tactic| ((with_reducible show wpAny _ _ (compareOp CmpOp.NotIn (Value.int _ _) (Value.ref _)) _ _ _); k_dflt (refine' notin_tuple_ints ?t ?i ?_; (case t => exact News.isTup (by k_asm) (by k_mem)); (case i => (repeat constructor)))))

local macro_rules | `(tactic| walk_at "call builtin:str.count") => `(tactic| (refine count4 (c := 10) (by decide) (by first | assumption | decide) ?_))
local macro_rules | `(tactic| walk_at "call builtin:str.rfind") => `(tactic| (refine rfind4 (c := 10) (by decide) (by first | assumption | decide) ?_))
local macro_rules | `(tactic| walk_at "subscriptTail Name Slice str ref") => `(tactic| ((with_reducible show wpAny _ _ (subscriptTail _ (Expr.Slice (some _) (some _) none _) _ _) _ _ _); (with_reducible rename Fr _ _ _ _ => F'); (with_reducible rename News _ _ _ _ => N'); (refine slice_ss_is (hsz := ?hsz) (s := ⟨_, _, _, _, _⟩) (by assumption) F' N' ?_); (case hsz => size_fits); intro _ _ _ _ _))
local macro_rules | `(tactic| walk_at "call ref") => `(tactic| (k_here; k_dflt ((show wpAny _ _ (call (Value.ref _) [Value.str _ _]) _ _ _); refine' errs_meth ?B ?F ?X ?N ?T ?hk ?hdp ?hun ?hq ?hv ?_;  (case B => k_asm); (case F => k_asm); (case X => k_asm); (case N => k_asm); (case hq => k_mem); (case T => k_asm); (case hk => first | exact rfl | assumption); (case hdp => ((try simp only [depth_under_make, depth_under_kw, depth_in1, depth_deeper, units_in1, units_deeper, Around.mark_units] at *); (try dsimp only [ktrTop] at *); omega)); (case hun => ((try simp only [depth_under_make, depth_under_kw, depth_in1, depth_deeper, units_in1, units_deeper, Around.mark_units] at *); (try dsimp only [ktrTop] at *); omega)); (case hv => assumption); k_whole); intro h' tk' F' N'; (try k_sweep)))
local macro_rules | `(tactic| walk_at "call builtin:str.replace") => `(tactic| (k_dflt (refine repl3 (c := 13) (by decide) (by assumption) ?_)))
local macro_rules | `(tactic| walk_at "truthy ref") => `(tactic| (k_here; k_dflt (refine' truthy_meth ?N ?q ?_; (case N => k_asm); (case q => k_mem); k_whole)))
theorem read_first {w : World} {p : Program} {loose : List Str} {mean : ExcName → Option Value} {mg mb : Str → Option Value} {dp un : Nat} {gd : Option (List Code)} {cn : Str} {cs : Scope} {a : Addr} {ccd : Value} {cl : List (Str × Addr)} {outer : List Env} {A₀ : Around} {base h₀ : Heap} {L : Addr} {m : Str → Option Value} {s : Shared} {Q E : Value → Shared → Prop}
   {x dx mo nl ds dds er : Addr} {k : SK} {tc ts to tpl tpc j1 j2 : Tok} {txt : Str} {tt tp : Tok} {own : List (Addr × Obj)}
   (B : Below A₀ base outer h₀) (F : Fr h₀ L s.heap m) (X : (hd.heap_39 w.params).In h₀) (N : News h₀ L s.heap ((dx, sDict w k mo nl ds er (.str (Str.ofString "") tc) (.int 0 ts) (.int 0 to) (.int 0 tpl) (.int 0 tpc)) :: (x, instObj 166 dx) :: (dds, xDict w j1 j2 (.str txt tt) (.int 0 tp)) :: (ds, instObj 73 dds) :: (mo, methodObj (.ref 148) (.ref x)) :: own)) (T : Top p loose mean mg mb h₀) (hk : cs.kind = .function) (hdp : dp ≤ 540) (hun : un ≤ 540)
   (hoff : OwnOff own [dx, x, dds, ds, mo]) (hne : dx < x) (hne2 : x < dds) (hne3 : dds < ds) (hne4 : mo ≠ dx) (hne5 : mo ≠ x) (hne6 : mo ≠ dds) (hne7 : mo ≠ ds)
   (hf : Fine txt) (hl1 : 1 ≤ txt.length) (hl2 : txt.length ≤ 100)
   (ret : ∀ h' tk' t1 t2 t3 t4 t5 t6, Fr h₀ L h' m → News h₀ L h' ((dx, sDict w k mo nl ds er (.str txt t1) (.int txt.length t2) (.int 0 t3) (.int 0 t4) (.int 0 t5)) :: (x, instObj 166 dx) :: (dds, xDict w j1 j2 (.str txt tt) (.int txt.length t6)) :: (ds, instObj 73 dds) :: (mo, methodObj (.ref 148) (.ref x)) :: own) → Q (.bool true) { s with heap := h', toks := tk' })
   : wpAny (model Challenge.rw_qy0005_08.row.prog w) (ktrTop dp un gd cn cs L a ccd cl outer) (call (.ref 141) [.ref x]) Q E s := by
  revert X
  k_fill
  intro X
  w_on

  replace hne := ltN hne
  replace hne2 := ltN hne2
  replace hne3 := ltN hne3
  replace hne4 := neN hne4
  replace hne5 := neN hne5
  replace hne6 := neN hne6
  replace hne7 := neN hne7
  have hE : Txt.slice txt (some 0) (some (0 + 10240)) = txt := slice_whole (by omega)
  have hlast := fine_last hf hl1
  have hno13 : 13 ∉ txt.cps.toList := fine_off hf (by decide)
  have hno10 : 10 ∉ txt.cps.toList := fine_off hf (by decide)
  refine wpAny_call ?_
  k_dflt k_enter
  k_steps
  all_goals ((rename News _ _ _ _ => N9); (rename Fr _ _ _ _ => F9); (simp only [Int.zero_add, Int.add_zero] at N9); exact ret _ _ _ _ _ _ _ _ F9 (fun p hp => N9 p (List.Mem.tail _ hp)))
end Mine
end

section
open PySem PySem.W PyProof.Rows
set_option Elab.async false
set_option rowWalk.seconds 0
set_option maxRecDepth 100000
set_option maxHeartbeats 8000000
set_option linter.unusedVariables false
namespace Mine
local macro_rules | `(tactic| k_room) => `(tactic| ktr_room)
local macro_rules | `(tactic| k_units) => `(tactic| ktr_units)
local macro_rules | `(tactic| k_enter) => `(tactic| (refine' code_def ?k1 ?k2 ?k3 ?k4 ?k5 ?kA ?kF ?kK ?k6 ?k7 ?k8 ?k9 ?kB ?_ ?c2 ?c3 ?c4 ?c5; (case kA => exact rfl); (case kF => exact rfl); (case kK => first | exact rfl | assumption); (case k1 => k_asm); (case k2 => k_asm); (case k3 => k_asm); (case k4 => k_asm); (case k5 => k_asm); (case k6 => k_is); (case k7 => k_is); (case k8 => ktr_room); (case k9 => first | exact BindsTo.of_eq rfl | exact binds_K (by k_in) rfl (by k_is) rfl rfl rfl | fail "k_enter: no rule for these arguments"); (case c5 => decide); (case kB => exact locs rfl); (case c2 => exact rfl); (case c3 => exact rfl); (case c4 => exact rfl); k_whole; intro g' L' h' FG' F' N' B' X' T'; (try dsimp only); (try k_lift B'); (try k_fold)))
local macro_rules | `(tactic| walk_at "ite") => `(tactic| first | (refine ite_neg (by (simp only [List.any_cons, List.any_nil, Bool.or_false, Bool.or_eq_true, Bool.not_eq_true', bne_iff_ne, bne_eq_false_iff_eq, ne_eq, beq_iff_eq, decide_eq_true_eq, Int.fmod_eq_emod_of_nonneg, Int.fdiv_eq_ediv_of_nonneg, Int.reduceLE]); omega) ?_) | (refine ite_pos (by (simp only [List.any_cons, List.any_nil, Bool.or_false, Bool.or_eq_true, Bool.not_eq_true', bne_iff_ne, bne_eq_false_iff_eq, ne_eq, beq_iff_eq, decide_eq_true_eq, Int.fmod_eq_emod_of_nonneg, Int.fdiv_eq_ediv_of_nonneg, Int.reduceLE]); omega) ?_))
local macro_rules | `(tactic| walk_at "compareOp In int ref") => `(tactic| ((with_reducible show wpAny _ _ (compareOp CmpOp.In (Value.int _ _) (Value.ref _)) _ _ _); k_dflt (refine' in_tuple_ints ?t ?i ?_; (case t => exact News.isTup (by k_asm) (by k_mem)); (case i => (repeat constructor)))))
local macro_rules | `(tactic| walk_at "compareOp NotIn int ref") => `(tactic| ((with_reducible show wpAny _ _ (compareOp CmpOp.NotIn (Value.int _ _) (Value.ref _)) _ _ _); k_dflt (refine' notin_tuple_ints ?t ?i ?_; (case t => exact News.isTup (by k_asm) (by k_mem)); (case i => (repeat constructor)))))

local macro_rules | `(tactic| walk_at "call ref") => `(tactic| (k_here; k_dflt ((show wpAny _ _ (call (Value.ref 141) _) _ _ _); refine' read_first ?B ?F ?X ?N ?T ?hk ?hdp ?hun ?e1 ?e2 ?e3 ?e4 ?e5 ?e6 ?e7 ?e8 ?hf ?hl1 ?hl2 ?_; (case B => k_asm); (case F => k_asm); (case X => k_asm); (case N => k_asm);  (case T => k_asm); (case hk => first | exact rfl | assumption); (case hdp => ((try simp only [depth_under_make, depth_under_kw, depth_in1, depth_deeper, units_in1, units_deeper, Around.mark_units] at *); (try dsimp only [ktrTop] at *); omega)); (case hun => ((try simp only [depth_under_make, depth_under_kw, depth_in1, depth_deeper, units_in1, units_deeper, Around.mark_units] at *); (try dsimp only [ktrTop] at *); omega)); (case e1 => assumption); (case e2 => assumption); (case e3 => assumption); (case e4 => assumption); (case e5 => assumption); (case e6 => assumption); (case e7 => assumption); (case e8 => assumption); (case hf => assumption); (case hl1 => assumption); (case hl2 => assumption); k_whole); intro h' tk' t1' t2' t3' t4' t5' t6' F' N'; (try k_sweep)))
theorem char_first {w : World} {p : Program} {loose : List Str} {mean : ExcName → Option Value} {mg mb : Str → Option Value} {dp un : Nat} {gd : Option (List Code)} {cn : Str} {cs : Scope} {a : Addr} {ccd : Value} {cl : List (Str × Addr)} {outer : List Env} {A₀ : Around} {base h₀ : Heap} {L : Addr} {m : Str → Option Value} {s : Shared} {Q E : Value → Shared → Prop}
   {x dx mo nl ds dds er : Addr} {k : SK} {tc ts to tpl tpc j1 j2 : Tok} {txt : Str} {tt tp : Tok} {own : List (Addr × Obj)}
   (B : Below A₀ base outer h₀) (F : Fr h₀ L s.heap m) (X : (hd.heap_39 w.params).In h₀) (N : News h₀ L s.heap ((dx, sDict w k mo nl ds er (.str (Str.ofString "") tc) (.int 0 ts) (.int 0 to) (.int 0 tpl) (.int 0 tpc)) :: (x, instObj 166 dx) :: (dds, xDict w j1 j2 (.str txt tt) (.int 0 tp)) :: (ds, instObj 73 dds) :: (mo, methodObj (.ref 148) (.ref x)) :: own)) (T : Top p loose mean mg mb h₀) (hk : cs.kind = .function) (hdp : dp ≤ 530) (hun : un ≤ 530)
   (hoff : OwnOff own [dx, x, dds, ds, mo]) (hne : dx < x) (hne2 : x < dds) (hne3 : dds < ds) (hne4 : mo ≠ dx) (hne5 : mo ≠ x) (hne6 : mo ≠ dds) (hne7 : mo ≠ ds)
   (hf : Fine txt) (hl1 : 1 ≤ txt.length) (hl2 : txt.length ≤ 100)
   (ret : ∀ h' tk' t0 t1 t2 t3 t4 t5 t6, Fr h₀ L h' m → News h₀ L h' ((dx, sDict w k mo nl ds er (.str txt t1) (.int txt.length t2) (.int 1 t3) (.int 0 t4) (.int 0 t5)) :: (x, instObj 166 dx) :: (dds, xDict w j1 j2 (.str txt tt) (.int txt.length t6)) :: (ds, instObj 73 dds) :: (mo, methodObj (.ref 148) (.ref x)) :: own) → Q (.str (Txt.item txt 0) t0) { s with heap := h', toks := tk' })
   : wpAny (model Challenge.rw_qy0005_08.row.prog w) (ktrTop dp un gd cn cs L a ccd cl outer) (call (.ref 133) [.ref x]) Q E s := by
  revert X
  k_fill
  intro X
  w_on
  replace hne := ltN hne
  replace hne2 := ltN hne2
  replace hne3 := ltN hne3
  replace hne4 := neN hne4
  replace hne5 := neN hne5
  replace hne6 := neN hne6
  replace hne7 := neN hne7
  refine wpAny_call ?_
  k_dflt k_enter
  k_steps
  (rename News _ _ _ _ => N9)
  (rename Fr _ _ _ _ => F9)
  exact ret _ _ _ _ _ _ _ _ _ F9 N9

local macro_rules | `(tactic| walk_at "call ref") => `(tactic| (k_here; k_dflt ((show wpAny _ _ (call (Value.ref 141) _) _ _ _); refine' read_eof ?B ?F ?X ?N ?T ?hk ?e1 ?e2 ?e3 ?e4 ?hdp ?hun ?h2 ?h3 ?h4 ?h5 ?h6 ?_; (case B => k_asm); (case F => k_asm); (case X => k_asm); (case N => k_asm);  (case T => k_asm); (case hk => first | exact rfl | assumption); (case hdp => ((try simp only [depth_under_make, depth_under_kw, depth_in1, depth_deeper, units_in1, units_deeper, Around.mark_units] at *); (try dsimp only [ktrTop] at *); omega)); (case hun => ((try simp only [depth_under_make, depth_under_kw, depth_in1, depth_deeper, units_in1, units_deeper, Around.mark_units] at *); (try dsimp only [ktrTop] at *); omega)); (case e1 => assumption); (case e2 => assumption); (case e3 => assumption); (case e4 => assumption); (case h2 => assumption); (case h3 => assumption); (case h4 => assumption); (case h5 => assumption); (case h6 => assumption); k_whole); intro h' tk' t1' t2' t3' t4' t5' t6' F' N'; (try k_sweep)))
theorem char_eof {w : World} {p : Program} {loose : List Str} {mean : ExcName → Option Value} {mg mb : Str → Option Value} {dp un : Nat} {gd : Option (List Code)} {cn : Str} {cs : Scope} {a : Addr} {ccd : Value} {cl : List (Str × Addr)} {outer : List Env} {A₀ : Around} {base h₀ : Heap} {L : Addr} {m : Str → Option Value} {s : Shared} {Q E : Value → Shared → Prop}
   {x dx mo nl ds dds er : Addr} {k : SK} {chunk : Str} {tc : Tok} {size : Int} {ts : Tok} {off : Int} {to : Tok} {pl : Int} {tpl : Tok} {pc : Int} {tpc : Tok} {j1 j2 : Tok} {txt : Str} {tt : Tok} {pp : Int} {tp : Tok} {own : List (Addr × Obj)}
   (B : Below A₀ base outer h₀) (F : Fr h₀ L s.heap m) (X : (hd.heap_39 w.params).In h₀) (N : News h₀ L s.heap ((dx, sDict w k mo nl ds er (.str chunk tc) (.int size ts) (.int off to) (.int pl tpl) (.int pc tpc)) :: (x, instObj 166 dx) :: (dds, xDict w j1 j2 (.str txt tt) (.int pp tp)) :: (ds, instObj 73 dds) :: own)) (T : Top p loose mean mg mb h₀) (hk : cs.kind = .function) (hdp : dp ≤ 530) (hun : un ≤ 530)
   (hoff : OwnOff own [dx, x, dds, ds]) (hne : dx < x) (hne2 : x < dds) (hne3 : dds < ds)
   (h1 : off = size) (h2 : size = chunk.length) (h3 : size < 2 ^ 20) (h4 : pp = txt.length) (h5 : pp < 2 ^ 20) (h6 : 10 ∉ chunk.cps.toList)
   (ret : ∀ h' tk' t1 t2 t3 t4 t5 t6, Fr h₀ L h' m → News h₀ L h' ((dx, sDict w k mo nl ds er (.str (Str.ofString "") t1) (.int 0 t2) (.int 0 t3) (.int (pl + 0) t4) (.int (pc + size) t5)) :: (x, instObj 166 dx) :: (dds, xDict w j1 j2 (.str txt tt) (.int (pp + 0) t6)) :: (ds, instObj 73 dds) :: own) → Q .none { s with heap := h', toks := tk' })
   : wpAny (model Challenge.rw_qy0005_08.row.prog w) (ktrTop dp un gd cn cs L a ccd cl outer) (call (.ref 133) [.ref x]) Q E s := by
  revert X
  k_fill
  intro X
  w_on
  replace hne := ltN hne
  replace hne2 := ltN hne2
  replace hne3 := ltN hne3
  refine wpAny_call ?_
  k_dflt k_enter
  k_steps
  (rename News _ _ _ _ => N9)
  (rename Fr _ _ _ _ => F9)
  exact ret _ _ _ _ _ _ _ _ F9 N9
end Mine
end

section
open PySem PySem.W PyProof.Rows PySem.NumText
set_option Elab.async false
set_option linter.unusedVariables false
namespace Mine
/- figures: their worth, and what int(text, base) reads -/
def dig (c : Nat) : Nat := if c ≤ 57 then c - 48 else if c ≤ 90 then c - 55 else c - 87
def IsDig (b c : Nat) : Prop := (48 ≤ c ∧ c ≤ 57) ∨ (b = 16 ∧ ((65 ≤ c ∧ c ≤ 70) ∨ (97 ≤ c ∧ c ≤ 102)))
def Base2 (b : Nat) : Prop := b = 10 ∨ b = 16
def numOf (b : Nat) (l : List Nat) : Nat := l.foldl (fun acc c => acc * b + dig c) 0
theorem digit_dig {b c : Nat} (hb : Base2 b) (h : IsDig b c) : digit? c = some (dig c) ∧ dig c < b := by
  unfold IsDig at h
  unfold Base2 at hb
  unfold digit? dig
  rcases h with h | ⟨h0, h | h⟩
  · simp [h.1, h.2]; omega
  · have a1 : ¬ c ≤ 57 := by omega
    have a2 : ¬ 97 ≤ c := by omega
    have a3 : 65 ≤ c := by omega
    have a4 : c ≤ 90 := by omega
    simp [a1, a2, a3, a4]; omega
  · have a1 : ¬ c ≤ 57 := by omega
    have a2 : 97 ≤ c := by omega
    have a3 : c ≤ 122 := by omega
    have a4 : ¬ c ≤ 90 := by omega
    simp [a1, a2, a3, a4]; omega
theorem step_dig {b c : Nat} (hb : Base2 b) (h : IsDig b c) (ds : Array Nat) (t : Bool) : NumText.step b (ds, t) c = some (ds.push (dig c), true) := by
  have e := digit_dig hb h
  have hne : ¬ (c == 95) = true := by
    unfold IsDig at h
    rw [beq_iff_eq]; omega
  unfold NumText.step
  rw [if_neg hne, e.1]
  exact if_pos e.2
theorem fold_dig {b : Nat} (hb : Base2 b) : ∀ (l : List Nat) (ds : Array Nat) (t : Bool), (∀ c ∈ l, IsDig b c) → l ≠ [] → l.foldlM (NumText.step b) (ds, t) = some (l.foldl (fun a c => a.push (dig c)) ds, true)
  | [], _, _, _, h => absurd rfl h
  | [c], ds, t, h, _ => by
    rw [List.foldlM_cons, step_dig hb (h c (.head _))]; rfl
  | c :: c2 :: l, ds, t, h, _ => by
    rw [List.foldlM_cons, step_dig hb (h c (.head _))]
    exact fold_dig hb (c2 :: l) (ds.push (dig c)) true (fun x hx => h x (.tail _ hx)) (by simp)
theorem digits_dig {b : Nat} (hb : Base2 b) {l : List Nat} (h : ∀ c ∈ l, IsDig b c) (hne : l ≠ []) : digits? b l = some (l.foldl (fun a c => a.push (dig c)) #[]) := by
  unfold digits?
  rw [fold_dig hb l #[] false h hne]; rfl
theorem push_num (b : Nat) : ∀ (l : List Nat) (ds : Array Nat), (l.foldl (fun a c => a.push (dig c)) ds).foldl (fun acc d => acc * b + d) 0 = l.foldl (fun acc c => acc * b + dig c) (ds.foldl (fun acc d => acc * b + d) 0)
  | [], _ => rfl
  | c :: l, ds => by
    rw [List.foldl_cons, push_num b l (ds.push (dig c)), List.foldl_cons]
    congr 1
    simp
theorem push_len : ∀ (l : List Nat) (ds : Array Nat), (l.foldl (fun a c => a.push (dig c)) ds).size = ds.size + l.length
  | [], _ => rfl
  | c :: l, ds => by
    rw [List.foldl_cons, push_len l, Array.size_push, List.length_cons]; omega
theorem dig_low {b c : Nat} (h : IsDig b c) : 48 ≤ c ∧ c ≤ 102 := by unfold IsDig at h; omega
theorem drop_dig {b : Nat} {l : List Nat} (h : ∀ c ∈ l, IsDig b c) : l.dropWhile blank = l := by
  cases l with
  | nil => rfl
  | cons c r => exact dropWhile_of (by have := dig_low (h c (.head _)); omega)
theorem sign_dig {b : Nat} {l : List Nat} (h : ∀ c ∈ l, IsDig b c) : sign l = (false, l) := by
  cases l with
  | nil => rfl
  | cons c r => exact sign_of (by have := dig_low (h c (.head _)); omega) (by have := dig_low (h c (.head _)); omega)
theorem based_dig {b : Nat} (hb : Base2 b) {l : List Nat} (h : ∀ c ∈ l, IsDig b c) : based b l = (b, false, l) := by
  rcases hb with rfl | rfl
  · exact based_ten l
  · unfold based
    split
    · rename_i p hp
      have : p ≠ 16 := by
        rintro rfl
        unfold prefix? at hp
        split at hp
        · rename_i c r
          have hc : IsDig 16 c := h c (.tail _ (.head _))
          unfold IsDig at hc
          split at hp
          · rename_i hx
            simp only [Bool.or_eq_true, beq_iff_eq] at hx
            omega
          · split at hp
            · cases hp
            · split at hp <;> cases hp
        · cases hp
      have e : ((16 : Nat) == 0 || (16 : Nat) == p) = false := by
        simp; omega
      rw [e]; rfl
    · rfl
theorem read_dig {b : Nat} (hb : Base2 b) {l : List Nat} (h : ∀ c ∈ l, IsDig b c) (hne : l ≠ []) (hl : l.length ≤ 640) : (int_private% "readNumeral") 0 b l = (int_private% "Numeral.value") (numOf b l : Int) := by
  rw [readNumeral_eq, drop_dig h, sign_dig h]
  dsimp only
  rw [based_dig hb h]
  dsimp only
  have hr : (l.reverse.dropWhile blank).reverse = l := by
    rw [drop_dig (b := b) (fun c hc => h c (List.mem_reverse.mp hc)), List.reverse_reverse]
  rw [hr, digits_dig hb h hne]
  unfold judge
  have e2 : ¬ ((b == 10 && decide ((l.foldl (fun a c => a.push (dig c)) #[]).size > 6000)) = true) := by
    have : (l.foldl (fun a c => a.push (dig c)) #[]).size = 0 + l.length := push_len l #[]
    rw [this]
    simp; omega
  have e1 : ¬ ((![2, 4, 8, 16, 32].contains b && (0 : Nat) != 0 && decide ((l.foldl (fun a c => a.push (dig c)) #[]).size > 0)) = true) := by simp
  dsimp only
  rw [if_neg e1, if_neg e2, push_num]
  rfl
theorem seen_dig {b : Nat} {l : List Nat} (h : ∀ c ∈ l, IsDig b c) : l.takeWhile (· != 0) = l := by
  induction l with
  | nil => rfl
  | cons c r ih =>
    have := dig_low (h c (.head _))
    rw [List.takeWhile_cons, if_pos (by simp; omega), ih fun x hx => h x (.tail _ hx)]
end Mine
end

section
open PySem PySem.W PyProof.Rows PySem.NumText PySem.Calls
set_option Elab.async false
set_option linter.unusedVariables false
set_option maxRecDepth 100000
namespace Mine
theorem text_in_base {M : Model} {A : Around} {E : Value → Shared → Prop} {s : Shared} {Q : Value → Shared → Prop} {v : Value} {b : Nat} {text : List Nat} {n : Int}
    (hs : (text.takeWhile (· != 0)).length ≤ 640) (hr : (int_private% "readNumeral") 0 b (text.takeWhile (· != 0)) = (int_private% "Numeral.value") n)
    (ha : ((text.takeWhile (· != 0)).length == text.length) = true) (h : Q (.int n s.toks) { s with toks := s.toks + 1 }) :
    wpAny M A ((int_private% "intFromText") v text b) Q E s := by
  obtain ⟨hp, g, d, tk, os⟩ := s
  repeat (any_goals (first
    | assumption
    | (with_reducible refine wpAny_ite_true (decide_eq_true hs) ?_)
    | (with_reducible refine wpAny_ite_true (decide_eq_true ha) ?_)
    | wp_step))
  all_goals (try rw [hr])
  all_goals (try dsimp only)
  repeat (any_goals (first
    | assumption
    | (with_reducible refine wpAny_ite_true (decide_eq_true hs) ?_)
    | (with_reducible refine wpAny_ite_true (decide_eq_true ha) ?_)
    | wp_step))
structure Veil (p : Prop) : Prop where
  out : p
set_option maxHeartbeats 4000000 in
theorem gives_base {x : PySem.Str} {u v : Tok} {b : Nat} {n : Int} (hb : Base2 b) (hl : x.length ≤ 640) (hx : x.cps.all (· < 128) = true) (hs0 : x.cps.toList.takeWhile (· != 0) = x.cps.toList) (hr0 : (int_private% "readNumeral") 0 b x.cps.toList = (int_private% "Numeral.value") n) :
    Gives (Builtin.«int.__new__» ⟨[.type "int", .str x u, .int (b : Int) v], []⟩) (.int n) :=
  .of_wp fun M A E s Q h => by
    obtain ⟨hp, g, d, tk, os⟩ := s
    have f1 := F.conv_sub_int
    have f2 := F.madeHere_int
    have e : (if x.cps.all (· < 128) = true then x.cps.toList else Unicode.numberText x.cps.toList) = x.cps.toList := if_pos hx
    have hlen : x.cps.toList.length = x.length := Array.length_toList
    have hk := Veil.mk (And.intro (show ((if x.cps.all (· < 128) = true then x.cps.toList else Unicode.numberText x.cps.toList).takeWhile (· != 0)).length ≤ 640 by rw [e, hs0]; omega)
      (And.intro (show (int_private% "readNumeral") 0 ((b : Int).toNat) ((if x.cps.all (· < 128) = true then x.cps.toList else Unicode.numberText x.cps.toList).takeWhile (· != 0)) = (int_private% "Numeral.value") n by rw [e, hs0]; exact hr0)
        (show (((if x.cps.all (· < 128) = true then x.cps.toList else Unicode.numberText x.cps.toList).takeWhile (· != 0)).length == (if x.cps.all (· < 128) = true then x.cps.toList else Unicode.numberText x.cps.toList).length) = true by rw [e, hs0]; simp)))
    have hbb := Veil.mk (show ¬ (((b : Int) != 0 && decide ((b : Int) < 2)) || decide ((b : Int) > 36)) = true by rcases hb with rfl | rfl <;> decide)
    clear hl hx hs0 hr0 e hlen
    repeat (any_goals (first
      | assumption
      | ((with_reducible show wpAny _ _ ((int_private% "intFromText") _ _ _) _ _ _); refine text_in_base hk.out.1 hk.out.2.1 hk.out.2.2 ?_)
      | ((with_reducible show wpAny _ _ (if ((_ && _) || _) = true then _ else _) _ _ _); rw [if_neg hbb.out])
      | wp_step))
    all_goals first | exact ⟨_, rfl, h⟩ | skip
theorem typeCall2 (a b : Value) : checkTypeCall "int" ⟨[a, b], []⟩ = pure () := by kernel_rfl
theorem newCall2 (a b : Value) : checkBuiltinCall "int.__new__" ⟨[.type "int", a, b], []⟩ = pure () := by kernel_rfl
theorem low128 {b : Nat} {x : PySem.Str} (h : ∀ c ∈ x.cps.toList, IsDig b c) : x.cps.all (· < 128) = true := by
  rw [← Array.all_toList, List.all_eq_true]
  intro c hc
  have := dig_low (h c hc)
  simp; omega
theorem int_base {prog : Program} {w : World} {A : Around} {E : Value → Shared → Prop} {s : Shared} {Q : Value → Shared → Prop} {x : PySem.Str} {t u : Tok} {b : Nat} (hb : Base2 b) (h : ∀ c ∈ x.cps.toList, IsDig b c) (hne : x.cps.toList ≠ []) (hl : x.length ≤ 640)
    (hq : Q (.int (numOf b x.cps.toList : Int) s.toks) { s with toks := s.toks + 1 }) : wpAny (model prog w) A (call (.type "int") [.str x t, .int (b : Int) u]) Q E s := by
  have hlen : x.cps.toList.length = x.length := Array.length_toList
  exact callType_new F.called_int F.newNe_int (typeCall2 _ _) (newCall2 _ _) (fun obj => F.args_object_init_3 obj _ _) F.entry_int_new
    (gives_base hb hl (low128 h) (seen_dig h) (read_dig hb h hne (by omega))).meets (show (Made.int _).post _ s from ⟨rfl, hq⟩)
end Mine
end

section
open PySem PySem.W PyProof.Rows PySem.Calls
set_option Elab.async false
set_option linter.unusedVariables false
set_option maxRecDepth 100000
namespace Mine
def digB (b c : Nat) : Bool := (decide (48 ≤ c) && decide (c ≤ 57)) || (b == 16 && ((decide (65 ≤ c) && decide (c ≤ 70)) || (decide (97 ≤ c) && decide (c ≤ 102))))
theorem digB_iff {b c : Nat} : digB b c = true ↔ IsDig b c := by
  unfold digB IsDig
  simp only [Bool.or_eq_true, Bool.and_eq_true, decide_eq_true_eq, beq_iff_eq]
theorem digB_not {b c : Nat} (h : ¬ IsDig b c) : digB b c = false := by
  cases e : digB b c with
  | false => rfl
  | true => exact absurd (digB_iff.mp e) h
theorem sign_ne {m n : Nat} (h : m ≠ n) : ((⟨#[m]⟩ : Str) == ⟨#[n]⟩) = false := by
  cases hh : ((⟨#[m]⟩ : Str) == ⟨#[n]⟩) with
  | false => rfl
  | true =>
    have := eq_of_beq hh
    injection this with this
    injection this with this
    injection this with this
    exact absurd this h
def CutEnd {σ : Type} (h₀ : Heap) (L : Addr) (s : Shared) (Led : σ → List (Addr × Obj)) (ps : σ → List (Str × Value)) (stored : List Str) (m₀ : Str → Option Value) (X : σ → Prop) (s₂ : Shared) : Prop :=
  ∃ (c : σ) (u : Str → Option Value) (h : Heap) (tk : Nat), s₂ = { s with heap := h, toks := tk } ∧ X c ∧ Fr h₀ L h (kstB (fun z => if stored.contains z then u z else m₀ z) (ps c)) ∧ News h₀ L h (Led c)
theorem while_cut {prog : Program} {w : World} {A : Around} {E : Value → Shared → Prop} {Q : Flow → Shared → Prop} {s : Shared} {env : Env} {h₀ : Heap} {L : Addr} {σ : Type} {test : Expr} {body : List Stmt} {pos : Pos} {m₀ : Str → Option Value}
    (Led : σ → List (Addr × Obj)) (ps : σ → List (Str × Value)) (stored : List Str) (P X : σ → Prop) (μ : σ → Nat) (c₀ : σ)
    (F : Fr h₀ L s.heap m₀) (N : News h₀ L s.heap (Led c₀)) (hk : ∀ p ∈ ps c₀, m₀ p.1 = some p.2) (hp : P c₀)
    (turn : ∀ (c : σ) (u : Str → Option Value) h tk, P c → Fr h₀ L h (kstB (fun z => if stored.contains z then u z else m₀ z) (ps c)) → News h₀ L h (Led c) →
      wpAny (model prog w) A (isTrue test env (eval test env)) (fun b s₂ =>
        if b = true then wpAny (model prog w) A (execs body env) (KswPost h₀ L s Led ps (fun _ => True) stored m₀ P μ (fun f s' => f = .next ∧ CutEnd h₀ L s Led ps stored m₀ X s') c) E s₂ else CutEnd h₀ L s Led ps stored m₀ X s₂) E { s with heap := h, toks := tk })
    (done : ∀ (c : σ) (u : Str → Option Value) h tk, X c → Fr h₀ L h (kstB (fun z => if stored.contains z then u z else m₀ z) (ps c)) → News h₀ L h (Led c) → Q .next { s with heap := h, toks := tk })
    (hE : PassesOwn (model prog w) A env E := by passes_own) :
    wpAny (model prog w) A (exec (.While test body [] pos) env) Q E s := by
  refine wpAny_mono (ksw_while (Q := fun f s' => f = .next ∧ CutEnd h₀ L s Led ps stored m₀ X s') Led ps (fun _ => True) stored P μ c₀ F N trivial hk hp (fun c u h tk _ hP F1 N1 => ?_) hE) (fun f s' hq => ?_) fun _ _ x => x
  · refine wpAny_mono (turn c u h tk hP F1 N1) (fun b s₂ hb => ?_) fun _ _ x => x
    cases b with
    | true => simpa using hb
    | false =>
      simp only [Bool.false_eq_true, if_false] at hb ⊢
      exact ⟨trivial, hb⟩
  · obtain ⟨rfl, c, u, h, tk, rfl, hX, F1, N1⟩ := hq
    exact done c u h tk hX F1 N1
theorem any10 (n : Nat) : ([⟨#[48]⟩, ⟨#[49]⟩, ⟨#[50]⟩, ⟨#[51]⟩, ⟨#[52]⟩, ⟨#[53]⟩, ⟨#[54]⟩, ⟨#[55]⟩, ⟨#[56]⟩, ⟨#[57]⟩] : List Str).any (· == (⟨#[n]⟩ : Str)) = digB 10 n := by
  by_cases h : n < 128
  · revert n; decide +kernel
  · rw [digB_not (by unfold IsDig; omega)]
    simp only [List.any_cons, List.any_nil]
    rw [sign_ne (by omega), sign_ne (by omega), sign_ne (by omega), sign_ne (by omega), sign_ne (by omega), sign_ne (by omega), sign_ne (by omega), sign_ne (by omega), sign_ne (by omega), sign_ne (by omega)]
    rfl
theorem any16 (n : Nat) : ([⟨#[48]⟩, ⟨#[49]⟩, ⟨#[50]⟩, ⟨#[51]⟩, ⟨#[52]⟩, ⟨#[53]⟩, ⟨#[54]⟩, ⟨#[55]⟩, ⟨#[56]⟩, ⟨#[57]⟩, ⟨#[97]⟩, ⟨#[98]⟩, ⟨#[99]⟩, ⟨#[100]⟩, ⟨#[101]⟩, ⟨#[102]⟩, ⟨#[65]⟩, ⟨#[66]⟩, ⟨#[67]⟩, ⟨#[68]⟩, ⟨#[69]⟩, ⟨#[70]⟩] : List Str).any (· == (⟨#[n]⟩ : Str)) = digB 16 n := by
  by_cases h : n < 128
  · revert n; decide +kernel
  · rw [digB_not (by unfold IsDig; omega)]
    simp only [List.any_cons, List.any_nil]
    rw [sign_ne (by omega), sign_ne (by omega), sign_ne (by omega), sign_ne (by omega), sign_ne (by omega), sign_ne (by omega), sign_ne (by omega), sign_ne (by omega), sign_ne (by omega), sign_ne (by omega), sign_ne (by omega), sign_ne (by omega), sign_ne (by omega), sign_ne (by omega), sign_ne (by omega), sign_ne (by omega), sign_ne (by omega), sign_ne (by omega), sign_ne (by omega), sign_ne (by omega), sign_ne (by omega), sign_ne (by omega)]
    rfl
section
variable {prog : Program} {w : World} {A : Around} {E : Value → Shared → Prop} {s : Shared} {K : Frag} {h₀ : Heap} {L t : Addr} {m : Str → Option Value} {Q : Value → Shared → Prop} {items : List Value} {n : Nat} {u : Tok} {dd : Option Addr} {sl : Array (Option Value)} {nn : Nat}
theorem in_tens (F : Fr h₀ L s.heap m) (X : K.In h₀) (hl : K.lookup t = some ⟨.type "tuple", dd, .seq items.toArray nn, sl⟩) {ys : List Str} (hi : StrsAre items ys) (hy : ys = [⟨#[48]⟩, ⟨#[49]⟩, ⟨#[50]⟩, ⟨#[51]⟩, ⟨#[52]⟩, ⟨#[53]⟩, ⟨#[54]⟩, ⟨#[55]⟩, ⟨#[56]⟩, ⟨#[57]⟩])
    (h : Q (.bool (digB 10 n)) s) : wpAny (model prog w) A (compareOp .In (.str ⟨#[n]⟩ u) (.ref t)) Q E s :=
  in_tuple_strs (tupK (X.keeps F.keep) hl) hi (by rw [hy, any10]; exact h)
theorem in_hexs (F : Fr h₀ L s.heap m) (X : K.In h₀) (hl : K.lookup t = some ⟨.type "tuple", dd, .seq items.toArray nn, sl⟩) {ys : List Str} (hi : StrsAre items ys) (hy : ys = [⟨#[48]⟩, ⟨#[49]⟩, ⟨#[50]⟩, ⟨#[51]⟩, ⟨#[52]⟩, ⟨#[53]⟩, ⟨#[54]⟩, ⟨#[55]⟩, ⟨#[56]⟩, ⟨#[57]⟩, ⟨#[97]⟩, ⟨#[98]⟩, ⟨#[99]⟩, ⟨#[100]⟩, ⟨#[101]⟩, ⟨#[102]⟩, ⟨#[65]⟩, ⟨#[66]⟩, ⟨#[67]⟩, ⟨#[68]⟩, ⟨#[69]⟩, ⟨#[70]⟩])
    (h : Q (.bool (digB 16 n)) s) : wpAny (model prog w) A (compareOp .In (.str ⟨#[n]⟩ u) (.ref t)) Q E s :=
  in_tuple_strs (tupK (X.keeps F.keep) hl) hi (by rw [hy, any16]; exact h)
end
end Mine
end

section
open PySem PySem.W PyProof.Rows PySem.Calls
set_option Elab.async false
set_option linter.unusedVariables false
set_option maxRecDepth 100000
namespace Mine
section
variable {prog : Program} {w : World} {A : Around} {E : Value → Shared → Prop} {s : Shared}
theorem eqBool_none {x : Str} {t : Tok} {Q : Bool → Shared → Prop} (h : Q false s) : wpAny (model prog w) A (eqBool (.str x t) .none) Q E s := by
  unfold eqBool
  refine wpAny_holding ?_
  rw [if_neg (show ¬ (Value.str x t == Value.none) = true from fun e => nomatch (eq_of_beq e))]
  exact wpAny_bind (EqNone.eq_str_none (wpAny_truthy_bool h))
theorem tuple_holds_none {t : Addr} {items : Array Value} {ys : List Str} {P : PySem.Fin → Shared → Prop} (ht : IsTup s.heap t items) (hi : StrsAre items.toList ys)
    (h : P (.done (.ret (.bool false))) s) : wpAny (model prog w) A (Builtin.«tuple.__contains__» ⟨[.ref t, .none], []⟩) P E s := by
  show wpAny _ _ (Builtin.Tuple.tupleItemsOf (.ref t) >>= _) _ _ s
  refine wpAny_bind (tupleItemsOf_ ht ?_)
  refine wpAny_bind (forIn_array_ _ (fun rest b s' => b.1 = none ∧ s' = s ∧ ∃ ms, StrsAre rest ms) _ ?_ ?_ items _ ⟨rfl, rfl, ys, hi⟩)
  · rintro y rest b s' ⟨hb, rfl, ms, hm⟩
    cases hm with
    | cons n tk hm' =>
      refine wpAny_bind (eqBool_none ?_)
      exact wpAny_pure ⟨rfl, rfl, _, hm'⟩
  · rintro ⟨b1, b2⟩ s' ⟨hb, rfl, ms, hm⟩
    cases hm
    simp only at hb
    subst hb
    exact wpAny_pure h
theorem none_in_tuple {K : Frag} {h₀ : Heap} {L t : Addr} {m : Str → Option Value} {items : List Value} {dd : Option Addr} {sl : Array (Option Value)} {nn : Nat} {ys : List Str} {Q : Value → Shared → Prop} (F : Fr h₀ L s.heap m) (X : K.In h₀) (hl : K.lookup t = some ⟨.type "tuple", dd, .seq items.toArray nn, sl⟩) (hi : StrsAre items ys)
    (h : Q (.bool false) s) : wpAny (model prog w) A (compareOp .In .none (.ref t)) Q E s := by
  have ht : IsTup s.heap t items.toArray := tupK (X.keeps F.keep) hl
  show wpAny _ _ (do return .bool (← contains (.ref t) .none)) Q E s
  refine wpAny_bind (?_ : wpAny (model prog w) A (contains (.ref t) .none) _ E s)
  unfold contains
  refine wpAny_holding ?_
  refine wpAny_bind (wpAny_specialOf ht.typeIs slot_tuple_contains.lookup ?_)
  rw [if_neg (by decide)]
  exact wpAny_bind (wpAny_callSpecialUnlessNone?_slot (name := Str.ofString "__contains__") ht.typeIs slot_tuple_contains
    (wpAny_call_entry slot_tuple_contains ht.typeIs entry_tuple_contains (tuple_holds_none ht hi ⟨_, rfl, wpAny_truthy_bool (wpAny_pure h)⟩) (args_tuple_contains _ _)))
end
end Mine
end

section
open PySem PySem.W PyProof.Rows PySem.Calls PySem.Builtin PySem.Builtin.Str
set_option Elab.async false
set_option linter.unusedVariables false
set_option maxRecDepth 100000
namespace Mine
/- the first figures of a text as one text -/
def headOf (txt : Str) (nd : Nat) : Str := ⟨(txt.cps.toList.take nd).toArray⟩
def figsJ (txt : Str) (i : Nat) : List Str := (List.range i).map fun j => ⟨#[txt.cps.getD j 0]⟩
theorem fold_cps (l : List Str) : ∀ a : Array Nat, l.foldl (fun acc p => acc ++ (Str.ofString "").cps ++ p.cps) a = a ++ (l.flatMap (·.cps.toList)).toArray := by
  have e : (Str.ofString "").cps = #[] := by decide +kernel
  induction l with
  | nil => intro a; simp
  | cons p r ih =>
    intro a
    rw [List.foldl_cons, ih, e]
    apply Array.ext'
    simp
theorem glued_nil (l : List Str) : (glued (Str.ofString "") l).cps.toList = l.flatMap (·.cps.toList) := by
  unfold glued
  rw [fold_cps]
  cases l with
  | nil => rfl
  | cons p r => simp
theorem flat_figs (txt : Str) (i : Nat) (h : i ≤ txt.length) : ((List.range i).map fun j => (⟨#[txt.cps.getD j 0]⟩ : Str)).flatMap (·.cps.toList) = txt.cps.toList.take i := by
  induction i with
  | zero => rfl
  | succ i ih =>
    have hs : i < txt.cps.toList.length := by
      have : txt.cps.toList.length = txt.length := Array.length_toList
      omega
    rw [List.range_succ, List.map_append, List.flatMap_append, ih (by omega), List.take_add_one]
    congr 1
    have hs' : i < txt.cps.size := by simpa using hs
    simp [hs']
end Mine
end

section
open PySem PySem.W PyProof.Rows PySem.Calls
set_option Elab.async false
set_option linter.unusedVariables false
set_option maxRecDepth 100000
namespace Mine
/- a dict of the top with int keys and texts -/
inductive Ents : List DictEntry → List (Int × Str) → Prop
  | nil : Ents [] []
  | cons {k : Int} {t : Tok} {x : Str} {u : Tok} {h : Int} {es : List DictEntry} {tbl : List (Int × Str)} (hh : h = hashInt k) : Ents es tbl → Ents (⟨h, .int k t, .str x u⟩ :: es) ((k, x) :: tbl)
theorem Ents.keys {prog : Program} {w : World} {es : List DictEntry} {tbl : List (Int × Str)} (E : Ents es tbl) : ∀ e ∈ es, ∃ k : Int, (intKind prog w).is k e.key = true ∧ e.hash = (intKind prog w).hash k := by
  induction E with
  | nil => intro e he; cases he
  | cons hh r ih =>
    intro e he
    rcases List.mem_cons.mp he with rfl | he
    · exact ⟨_, intKind_is _ _ _ _, hh⟩
    · exact ih e he
theorem Ents.find {es : List DictEntry} {tbl : List (Int × Str)} (E : Ents es tbl) (V : Int) : (es.find? fun e => Value.isInt V e.key).map (·.val) = none ∧ tbl.lookup V = none ∨ ∃ x u, (es.find? fun e => Value.isInt V e.key).map (·.val) = some (.str x u) ∧ tbl.lookup V = some x := by
  induction E with
  | nil => exact .inl ⟨rfl, rfl⟩
  | @cons k t x u h es tbl hh r ih =>
    by_cases hk : V = k
    · subst hk
      refine .inr ⟨x, u, ?_, ?_⟩
      · rw [List.find?_cons_of_pos (by simp [Value.isInt])]; rfl
      · simp [List.lookup]
    · rw [List.find?_cons_of_neg (by simp [Value.isInt]; omega), List.lookup_cons]
      have e : (V == k) = false := beq_eq_false_iff_ne.mpr hk
      rw [e]
      exact ih
def replTbl : List (Int × Str) := [(0, ⟨#[65533]⟩), (13, ⟨#[13]⟩), (128, ⟨#[8364]⟩), (129, ⟨#[129]⟩), (130, ⟨#[8218]⟩), (131, ⟨#[402]⟩), (132, ⟨#[8222]⟩), (133, ⟨#[8230]⟩), (134, ⟨#[8224]⟩), (135, ⟨#[8225]⟩), (136, ⟨#[710]⟩), (137, ⟨#[8240]⟩), (138, ⟨#[352]⟩), (139, ⟨#[8249]⟩), (140, ⟨#[338]⟩), (141, ⟨#[141]⟩), (142, ⟨#[381]⟩), (143, ⟨#[143]⟩), (144, ⟨#[144]⟩), (145, ⟨#[8216]⟩), (146, ⟨#[8217]⟩), (147, ⟨#[8220]⟩), (148, ⟨#[8221]⟩), (149, ⟨#[8226]⟩), (150, ⟨#[8211]⟩), (151, ⟨#[8212]⟩), (152, ⟨#[732]⟩), (153, ⟨#[8482]⟩), (154, ⟨#[353]⟩), (155, ⟨#[8250]⟩), (156, ⟨#[339]⟩), (157, ⟨#[157]⟩), (158, ⟨#[382]⟩), (159, ⟨#[376]⟩)]
def replB (V : Int) : Bool := decide (V = 0) || decide (V = 13) || (decide (128 ≤ V) && decide (V ≤ 159))
def replS (V : Int) : Str := (replTbl.lookup V).getD ⟨#[]⟩
theorem lookup_far {V : Int} : ∀ {l : List (Int × Str)}, (∀ p ∈ l, p.1 ≠ V) → l.lookup V = none
  | [], _ => rfl
  | (k, x) :: r, h => by
    have e : (V == k) = false := beq_eq_false_iff_ne.mpr fun e => h (k, x) (.head _) e.symm
    rw [List.lookup_cons, e]
    exact lookup_far fun p hp => h p (.tail _ hp)
theorem repl_small : ∀ n : Nat, n < 160 → (replTbl.lookup (n : Int)).isSome = replB (n : Int) := by decide +kernel
theorem repl_keys : ∀ p ∈ replTbl, 0 ≤ p.1 ∧ p.1 < 160 := by decide +kernel
theorem repl_some (V : Int) : (replTbl.lookup V).isSome = replB V := by
  by_cases h : 0 ≤ V ∧ V < 160
  · have := repl_small V.toNat (by omega)
    rwa [Int.toNat_of_nonneg h.1] at this
  · rw [lookup_far (fun p hp e => by have := repl_keys p hp; omega)]
    unfold replB
    rw [decide_eq_false (show ¬ V = 0 by omega), decide_eq_false (show ¬ V = 13 by omega)]
    by_cases h2 : 128 ≤ V
    · rw [decide_eq_false (show ¬ V ≤ 159 by omega)]; simp
    · rw [decide_eq_false h2]; rfl
section
variable {prog : Program} {w : World} {A : Around} {E : Value → Shared → Prop} {s : Shared} {h₀ h : Heap} {L a : Addr} {m : Str → Option Value} {K : Frag} {es : Array DictEntry} {n : Nat} {u : Tok} {V : Int} {tbl : List (Int × Str)}
theorem mapOfI (X : K.In h) (hl : K.lookup a = some ⟨.type "dict", none, .dict es n, #[]⟩) (hk : Ents es.toList tbl) : h.MapOf (intKind prog w) a (fun k => findBy Value.isInt es k) :=
  ⟨_, es, n, X _ _ hl, ⟨rfl, rfl, rfl⟩, rfl, fun e he => hk.keys e (Array.mem_toList_iff.mpr he), fun _ => rfl⟩
theorem findI (hk : Ents es.toList tbl) (ht : tbl = replTbl) (V : Int) : (findBy Value.isInt es V = none ∧ replB V = false) ∨ ∃ t, findBy Value.isInt es V = some (.str (replS V) t) ∧ replB V = true := by
  obtain ⟨l⟩ := es
  have hs := repl_some V
  have hf := hk.find V
  subst ht
  unfold findBy
  rw [List.find?_toArray]
  rcases hf with ⟨h1, h2⟩ | ⟨x, t, h1, h2⟩
  · exact .inl ⟨h1, by rw [← hs, h2]; rfl⟩
  · refine .inr ⟨t, ?_, by rw [← hs, h2]; rfl⟩
    rw [show replS V = x by unfold replS; rw [h2]; rfl]
    exact h1
theorem in_repl {Q : Value → Shared → Prop} (F : Fr h₀ L s.heap m) (X₀ : K.In h₀) (hl : K.lookup a = some ⟨.type "dict", none, .dict es n, #[]⟩) (hk : Ents es.toList tbl) (ht : tbl = replTbl) (lo : (a == sysModules) = false)
    (h : Q (.bool (replB V)) { s with toks := s.toks + 1 }) : wpAny (model prog w) A (compareOp .In (.int V u) (.ref a)) Q E s :=
  wpAny_in_of (intKind_is prog w V u) lo (mapOfI (prog := prog) (X₀.keeps F.keep) hl hk) (by
    show Q (.bool (findBy Value.isInt es V).isSome) _
    rcases findI hk ht V with ⟨h1, h2⟩ | ⟨t, h1, h2⟩
    · rw [h1]; rw [h2] at h; exact h
    · rw [h1]; rw [h2] at h; exact h)
theorem item_repl {value slice : Expr} {Q : Value → Shared → Prop} (F : Fr h₀ L s.heap m) (X₀ : K.In h₀) (hl : K.lookup a = some ⟨.type "dict", none, .dict es n, #[]⟩) (hk : Ents es.toList tbl) (ht : tbl = replTbl) (hv : replB V = true)
    (h : ∀ t, Q (.str (replS V) t) { s with toks := s.toks + 1 })
    (hs : subscripted slice false (.ref a) (.int V u) = operate [.ref a, .int V u] (getItem (.ref a) (.int V u)) := by with_unfolding_all rfl) :
    wpAny (model prog w) A (subscriptTail value slice (.ref a) (.int V u)) Q E s := by
  have hm := mapOfI (prog := prog) (w := w) (X₀.keeps F.keep) hl hk
  rcases findI hk ht V with ⟨h1, h2⟩ | ⟨t, h1, h2⟩
  · rw [h2] at hv; cases hv
  · exact tail_any hm.typeIs slot_dict_getitem.lookup (wpAny_getItem_of (intKind_is prog w V u) hm h1 (h t)) hs
end
end Mine
end

section
open PySem PySem.W PyProof.Rows
set_option Elab.async false
set_option linter.unusedVariables false
set_option maxRecDepth 100000
namespace Mine
/- the sign of a number, and whether it is told: plain -/
def ToldP (V : Int) : Prop := V = 0 ∨ V = 13 ∨ (128 ≤ V ∧ V ≤ 159) ∨ (55296 ≤ V ∧ V ≤ 57343) ∨ V > 1114111 ∨ (1 ≤ V ∧ V ≤ 8) ∨ (14 ≤ V ∧ V ≤ 31) ∨ (127 ≤ V ∧ V ≤ 159) ∨ (64976 ≤ V ∧ V ≤ 65007) ∨ V = 11 ∨ V % 65536 ≥ 65534
def toldDec (V : Int) : Decidable (ToldP V) := by unfold ToldP; infer_instance
def toldOf (V : Int) : Bool := @decide (ToldP V) (toldDec V)
def signOf (V : Int) : Str := if V = 0 ∨ V = 13 ∨ (128 ≤ V ∧ V ≤ 159) then replS V else if (55296 ≤ V ∧ V ≤ 57343) ∨ V > 1114111 then ⟨#[65533]⟩ else ⟨#[V.toNat]⟩
theorem replB_iff {V : Int} : replB V = true ↔ (V = 0 ∨ V = 13 ∨ (128 ≤ V ∧ V ≤ 159)) := by
  unfold replB
  simp only [Bool.or_eq_true, Bool.and_eq_true, decide_eq_true_eq]
  omega
theorem replB_not {V : Int} : replB V = false ↔ ¬ (V = 0 ∨ V = 13 ∨ (128 ≤ V ∧ V ≤ 159)) := by
  rw [← replB_iff]; simp
theorem told_yes {V : Int} (h : ToldP V) : toldOf V = true := @decide_eq_true _ (toldDec V) h
theorem told_no {V : Int} (h : ¬ ToldP V) : toldOf V = false := @decide_eq_false _ (toldDec V) h
theorem sign_repl {V : Int} (h : replB V = true) : signOf V = replS V := if_pos (replB_iff.mp h)
theorem sign_sur {V : Int} (h : ¬ (V = 0 ∨ V = 13 ∨ (128 ≤ V ∧ V ≤ 159))) (h2 : (55296 ≤ V ∧ V ≤ 57343) ∨ V > 1114111) : signOf V = ⟨#[65533]⟩ := by
  unfold signOf; rw [if_neg h, if_pos h2]
theorem sign_chr {V : Int} (h : ¬ (V = 0 ∨ V = 13 ∨ (128 ≤ V ∧ V ≤ 159))) (h2 : ¬ ((55296 ≤ V ∧ V ≤ 57343) ∨ V > 1114111)) : signOf V = ⟨#[V.toNat]⟩ := by
  unfold signOf; rw [if_neg h, if_neg h2]
def badTup : List Int := [11, 65534, 65535, 131070, 131071, 196606, 196607, 262142, 262143, 327678, 327679, 393214, 393215, 458750, 458751, 524286, 524287, 589822, 589823, 655358, 655359, 720894, 720895, 786430, 786431, 851966, 851967, 917502, 917503, 983038, 983039, 1048574, 1048575, 1114110, 1114111]
theorem badTup_each : ∀ n ∈ badTup, n = 11 ∨ n % 65536 ≥ 65534 := by decide +kernel
theorem badTup_all : ∀ q : Nat, q < 17 → (((65536 * q + 65534 : Nat) : Int) ∈ badTup ∧ ((65536 * q + 65535 : Nat) : Int) ∈ badTup) := by decide +kernel
theorem badTup_iff {V : Int} (h0 : 0 ≤ V) (h1 : V ≤ 1114111) : V ∈ badTup ↔ (V = 11 ∨ V % 65536 ≥ 65534) := by
  constructor
  · exact badTup_each V
  · rintro (rfl | h)
    · decide +kernel
    · have hq := badTup_all (V / 65536).toNat (by omega)
      have : V = ((65536 * (V / 65536).toNat + 65534 : Nat) : Int) ∨ V = ((65536 * (V / 65536).toNat + 65535 : Nat) : Int) := by omega
      rcases this with e | e
      · rw [e]; exact hq.1
      · rw [e]; exact hq.2
def badIn (V : Int) : Bool := decide (V = 11 ∨ V % 65536 ≥ 65534)
theorem any_bad {V : Int} (h0 : 0 ≤ V) (h1 : V ≤ 1114111) : badTup.any (· == V) = badIn V := by
  unfold badIn
  rw [Bool.eq_iff_iff, List.any_eq_true, decide_eq_true_eq, ← badTup_iff h0 h1]
  simp
/- the law's own row of old signs -/
def oldRow : Str := ⟨#[8364, 129, 8218, 402, 8222, 8230, 8224, 8225, 710, 8240, 352, 8249, 338, 141, 381, 143, 144, 8216, 8217, 8220, 8221, 8226, 8211, 8212, 732, 8482, 353, 8250, 339, 157, 382, 376]⟩
theorem old_small : ∀ n : Nat, n < 32 → (⟨#[oldRow.cps.getD n 0]⟩ : Str) = replS ((128 + n : Nat) : Int) := by decide +kernel
theorem old_is {V : Int} (h : 128 ≤ V) (h2 : V ≤ 159) : (⟨#[oldRow.cps.getD (V % 32).toNat 0]⟩ : Str) = signOf V := by
  rw [sign_repl (replB_iff.mpr (.inr (.inr ⟨h, h2⟩))), old_small _ (by omega)]
  congr 1
  omega
end Mine
end

section
open PySem PySem.W PyProof.Rows PySem.Calls
set_option Elab.async false
set_option linter.unusedVariables false
set_option maxRecDepth 100000
namespace Mine
/- a dict of the top with int keys asked by a written int -/
inductive EntsV : List DictEntry → Prop
  | nil : EntsV []
  | cons {k : Int} {t : Tok} {v : Value} {h : Int} {es : List DictEntry} (hh : h = hashInt k) : EntsV es → EntsV (⟨h, .int k t, v⟩ :: es)
theorem EntsV.keys {prog : Program} {w : World} {es : List DictEntry} (E : EntsV es) : ∀ e ∈ es, ∃ k : Int, (intKind prog w).is k e.key = true ∧ e.hash = (intKind prog w).hash k := by
  induction E with
  | nil => intro e he; cases he
  | cons hh r ih =>
    intro e he
    rcases List.mem_cons.mp he with rfl | he
    · exact ⟨_, intKind_is _ _ _ _, hh⟩
    · exact ih e he
section
variable {prog : Program} {w : World} {A : Around} {E : Value → Shared → Prop} {s : Shared} {h₀ h : Heap} {L a : Addr} {m : Str → Option Value} {K : Frag} {es : Array DictEntry} {n : Nat} {u : Tok} {V : Int} {v : Value}
theorem mapOfV (X : K.In h) (hl : K.lookup a = some ⟨.type "dict", none, .dict es n, #[]⟩) (hk : EntsV es.toList) : h.MapOf (intKind prog w) a (fun k => findBy Value.isInt es k) :=
  ⟨_, es, n, X _ _ hl, ⟨rfl, rfl, rfl⟩, rfl, fun e he => hk.keys e (Array.mem_toList_iff.mpr he), fun _ => rfl⟩
theorem item_top {value slice : Expr} {Q : Value → Shared → Prop} (F : Fr h₀ L s.heap m) (X₀ : K.In h₀) (hl : K.lookup a = some ⟨.type "dict", none, .dict es n, #[]⟩) (hk : EntsV es.toList) (hf : findBy Value.isInt es V = some v)
    (h : Q v { s with toks := s.toks + 1 })
    (hs : subscripted slice false (.ref a) (.int V u) = operate [.ref a, .int V u] (getItem (.ref a) (.int V u)) := by with_unfolding_all rfl) :
    wpAny (model prog w) A (subscriptTail value slice (.ref a) (.int V u)) Q E s := by
  have hm := mapOfV (prog := prog) (w := w) (X₀.keeps F.keep) hl hk
  exact tail_any hm.typeIs slot_dict_getitem.lookup (wpAny_getItem_of (intKind_is prog w V u) hm hf h) hs
end
end Mine
end

section
open PySem PySem.W PyProof.Rows
set_option Elab.async false
set_option rowWalk.seconds 0
set_option maxRecDepth 100000
set_option maxHeartbeats 8000000
set_option linter.unusedVariables false
namespace Mine
local macro_rules | `(tactic| k_room) => `(tactic| ktr_room)
local macro_rules | `(tactic| k_units) => `(tactic| ktr_units)
local macro_rules | `(tactic| k_enter) => `(tactic| (refine' code_def ?k1 ?k2 ?k3 ?k4 ?k5 ?kA ?kF ?kK ?k6 ?k7 ?k8 ?k9 ?kB ?_ ?c2 ?c3 ?c4 ?c5; (case kA => exact rfl); (case kF => exact rfl); (case kK => first | exact rfl | assumption); (case k1 => k_asm); (case k2 => k_asm); (case k3 => k_asm); (case k4 => k_asm); (case k5 => k_asm); (case k6 => k_is); (case k7 => k_is); (case k8 => ktr_room); (case k9 => first | exact BindsTo.of_eq rfl | exact binds_K (by k_in) rfl (by k_is) rfl rfl rfl | fail "k_enter: no rule for these arguments"); (case c5 => decide); (case kB => exact locs rfl); (case c2 => exact rfl); (case c3 => exact rfl); (case c4 => exact rfl); k_whole; intro g' L' h' FG' F' N' B' X' T'; (try dsimp only); (try k_lift B'); (try k_fold)))
local macro_rules | `(tactic| walk_at "ite") => `(tactic| first | (refine ite_neg (by (simp only [List.any_cons, List.any_nil, Bool.or_false, Bool.or_eq_true, Bool.not_eq_true', bne_iff_ne, bne_eq_false_iff_eq, ne_eq, beq_iff_eq, decide_eq_true_eq, Int.fmod_eq_emod_of_nonneg, Int.fdiv_eq_ediv_of_nonneg, Int.reduceLE]); omega) ?_) | (refine ite_pos (by (simp only [List.any_cons, List.any_nil, Bool.or_false, Bool.or_eq_true, Bool.not_eq_true', bne_iff_ne, bne_eq_false_iff_eq, ne_eq, beq_iff_eq, decide_eq_true_eq, Int.fmod_eq_emod_of_nonneg, Int.fdiv_eq_ediv_of_nonneg, Int.reduceLE]); omega) ?_))
local macro_rules | `(tactic| walk_at "compareOp In int ref") => `(tactic| ((with_reducible show wpAny _ _ (compareOp CmpOp.In (Value.int _ _) (Value.ref _)) _ _ _); k_dflt (refine' in_tuple_ints ?t ?i ?_; (case t => exact News.isTup (by k_asm) (by k_mem)); (case i => (repeat constructor)))))
local macro_rules | `(tactic| walk_at "compareOp NotIn int ref") => `(tactic| ((with_reducible show wpAny _ _ (compareOp CmpOp.NotIn (Value.int _ _) (Value.ref _)) _ _ _); k_dflt (refine' notin_tuple_ints ?t ?i ?_; (case t => exact News.isTup (by k_asm) (by k_mem)); (case i => (repeat constructor)))))

structure TK where
  (k1 k2 k3 k4 k5 k6 k7 k8 : Tok)
abbrev tDict (w : World) (k : TK) (x lf st q : Addr) : Obj := dictOf [En w "stream" k.k1 (.ref x), En w "parser" k.k2 .none, En w "escapeFlag" k.k3 (.bool false), En w "lastFourChars" k.k4 (.ref lf), En w "state" k.k5 (.ref st), En w "escape" k.k6 (.bool false), En w "currentToken" k.k7 .none, En w "tokenQueue" k.k8 (.ref q)] 8
theorem item_nat {x : Str} {j : Nat} (h : j < x.length) : Txt.item x (j : Int) = ⟨#[x.cps.getD j 0]⟩ := by
  rw [PySem.W.item_meets ⟨by omega, by omega⟩, Int.toNat_natCast]
theorem char_at {w : World} {p : Program} {loose : List Str} {mean : ExcName → Option Value} {mg mb : Str → Option Value} {dp un : Nat} {gd : Option (List Code)} {cn : Str} {cs : Scope} {a : Addr} {ccd : Value} {cl : List (Str × Addr)} {outer : List Env} {A₀ : Around} {base h₀ : Heap} {L : Addr} {m : Str → Option Value} {s : Shared} {Q E : Value → Shared → Prop}
   {x dx mo nl ds er : Addr} {k : SK} {chunk : Str} {tc ts : Tok} {j : Nat} {to : Tok} {pl pc : Value} {own : List (Addr × Obj)}
   (B : Below A₀ base outer h₀) (F : Fr h₀ L s.heap m) (X : (hd.heap_39 w.params).In h₀) (N : News h₀ L s.heap ((dx, sDict w k mo nl ds er (.str chunk tc) (.int chunk.length ts) (.int (j : Int) to) pl pc) :: (x, instObj 166 dx) :: own)) (T : Top p loose mean mg mb h₀) (hk : cs.kind = .function) (hdp : dp ≤ 530) (hun : un ≤ 530)
   (hoff : OwnOff own [dx, x]) (hne : dx < x) (h1 : j < chunk.length) (h3 : chunk.length ≤ 100)
   (ret : ∀ h' tk' t1 t2, Fr h₀ L h' m → News h₀ L h' ((dx, sDict w k mo nl ds er (.str chunk tc) (.int chunk.length ts) (.int ((j + 1 : Nat) : Int) t2) pl pc) :: (x, instObj 166 dx) :: own) → Q (.str ⟨#[chunk.cps.getD j 0]⟩ t1) { s with heap := h', toks := tk' })
   : wpAny (model Challenge.rw_qy0005_08.row.prog w) (ktrTop dp un gd cn cs L a ccd cl outer) (call (.ref 133) [.ref x]) Q E s := by
  refine char_reg B F X N T hk hoff hne (by omega) (by omega) (Int.natCast_nonneg _) (by omega) rfl (by omega) ?_
  intro h' tk' t1 t2 F' N'
  rw [item_nat h1]
  exact ret h' tk' t1 t2 F' N'
theorem char_one {w : World} {p : Program} {loose : List Str} {mean : ExcName → Option Value} {mg mb : Str → Option Value} {dp un : Nat} {gd : Option (List Code)} {cn : Str} {cs : Scope} {a : Addr} {ccd : Value} {cl : List (Str × Addr)} {outer : List Env} {A₀ : Around} {base h₀ : Heap} {L : Addr} {m : Str → Option Value} {s : Shared} {Q E : Value → Shared → Prop}
   {x dx mo nl ds dds er : Addr} {k : SK} {tc ts to tpl tpc j1 j2 : Tok} {txt : Str} {tt tp : Tok} {own : List (Addr × Obj)}
   (B : Below A₀ base outer h₀) (F : Fr h₀ L s.heap m) (X : (hd.heap_39 w.params).In h₀) (N : News h₀ L s.heap ((dx, sDict w k mo nl ds er (.str (Str.ofString "") tc) (.int 0 ts) (.int 0 to) (.int 0 tpl) (.int 0 tpc)) :: (x, instObj 166 dx) :: (dds, xDict w j1 j2 (.str txt tt) (.int 0 tp)) :: (ds, instObj 73 dds) :: (mo, methodObj (.ref 148) (.ref x)) :: own)) (T : Top p loose mean mg mb h₀) (hk : cs.kind = .function) (hdp : dp ≤ 530) (hun : un ≤ 530)
   (hoff : OwnOff own [dx, x, dds, ds, mo]) (o1 : dx < x) (o2 : x < mo) (o3 : mo < dds) (o4 : dds < ds)
   (hf : Fine txt) (hl1 : 1 ≤ txt.length) (hl2 : txt.length ≤ 100)
   (ret : ∀ h' tk' t0 t1 t2 t3 t4 t5 t6, Fr h₀ L h' m → News h₀ L h' ((dx, sDict w k mo nl ds er (.str txt t1) (.int txt.length t2) (.int ((0 + 1 : Nat) : Int) t3) (.int 0 t4) (.int 0 t5)) :: (x, instObj 166 dx) :: (dds, xDict w j1 j2 (.str txt tt) (.int txt.length t6)) :: (ds, instObj 73 dds) :: (mo, methodObj (.ref 148) (.ref x)) :: own) → Q (.str ⟨#[txt.cps.getD 0 0]⟩ t0) { s with heap := h', toks := tk' })
   : wpAny (model Challenge.rw_qy0005_08.row.prog w) (ktrTop dp un gd cn cs L a ccd cl outer) (call (.ref 133) [.ref x]) Q E s := by
  replace o1 := ltN o1
  replace o2 := ltN o2
  replace o3 := ltN o3
  replace o4 := ltN o4
  refine char_first B F X N T hk hdp hun hoff o1 (ltN (by omega)) o4 (neN (by omega)) (neN (by omega)) (neN (by omega)) (neN (by omega)) hf hl1 hl2 ?_
  intro h' tk' t0 t1 t2 t3 t4 t5 t6 F' N'
  rw [show Txt.item txt 0 = ⟨#[txt.cps.getD 0 0]⟩ from item_nat (j := 0) (by omega)]
  exact ret h' tk' t0 t1 t2 t3 t4 t5 t6 F' N'
/- addresses off a list -/
def offAll (a : Nat) : List Addr → Prop
  | [] => True
  | b :: r => @Ne Nat a b ∧ offAll a r
theorem offAll_mem {a : Nat} : ∀ {l : List Addr}, offAll a l → ∀ b ∈ l, a ≠ b
  | _ :: _, h, _, .head _ => h.1
  | _ :: _, h, _, .tail _ m => offAll_mem h.2 _ m
theorem off_cons {p : Addr × Obj} {own : List (Addr × Obj)} {adr : List Addr} (h : offAll p.1 adr) (r : OwnOff own adr) : OwnOff (p :: own) adr := by
  intro q hq b hb
  rcases List.mem_cons.mp hq with rfl | hq
  · exact offAll_mem h b hb
  · exact r q hq b hb
theorem off_sub {own : List (Addr × Obj)} {adr adr' : List Addr} (r : OwnOff own adr) (hs : ∀ b ∈ adr', b ∈ adr) : OwnOff own adr' := fun p hp b hb => r p hp b (hs b hb)
theorem off_new {own : List (Addr × Obj)} {adr : List Addr} {d : Addr} (r : OwnOff own adr) (h : AllLt d own) : OwnOff own (d :: adr) := by
  intro p hp b hb
  rcases List.mem_cons.mp hb with rfl | hb
  · exact Nat.ne_of_lt (ktn_ltOf h p hp)
  · exact r p hp b hb
theorem news_1st6 {h₀ h : Heap} {L : Addr} {e0 e1 e2 e3 e4 e5 : Addr × Obj} {r : List (Addr × Obj)} (N : News h₀ L h (e0 :: e1 :: e2 :: e3 :: e4 :: e5 :: r)) : News h₀ L h (e1 :: e2 :: e3 :: e4 :: e5 :: e0 :: r) := by
  intro p hp
  refine N p ?_
  simp only [List.mem_cons] at hp ⊢
  rcases hp with h | h | h | h | h | h | h <;> simp [h]
end Mine
end

section
open PySem PySem.W PyProof.Rows PySem.Builtin PySem.Builtin.Str
set_option Elab.async false
set_option linter.unusedVariables false
set_option maxRecDepth 100000
namespace Mine
/- what stands behind the reading loop: join, int, in the tuple -/
theorem head_list (txt : Str) (nd : Nat) : (headOf txt nd).cps.toList = txt.cps.toList.take nd := rfl
theorem join_head {txt : Str} {i : Nat} (h : i ≤ txt.length) : Txt.join (Str.ofString "") (figsJ txt i) = headOf txt i := by
  have e : (Txt.join (Str.ofString "") (figsJ txt i)).cps.toList = (headOf txt i).cps.toList := by
    rw [head_list, ← flat_figs txt i h]
    exact glued_nil (figsJ txt i)
  have e2 : (Txt.join (Str.ofString "") (figsJ txt i)).cps = (headOf txt i).cps := Array.ext' e
  cases hh : Txt.join (Str.ofString "") (figsJ txt i) with
  | mk c => rw [hh] at e2; simp only at e2; rw [e2]
theorem figs_sum (txt : Str) (i : Nat) : ((figsJ txt i).map (·.length)).sum = i := by
  unfold figsJ
  induction i with
  | zero => rfl
  | succ i ih => rw [List.range_succ, List.map_append, List.map_append, List.sum_append, ih]; rfl
theorem head_len {txt : Str} {nd : Nat} (h : nd ≤ txt.length) : (headOf txt nd).cps.toList.length = nd := by
  have : txt.cps.toList.length = txt.length := Array.length_toList
  rw [head_list, List.length_take]; omega
theorem head_ne {txt : Str} {nd : Nat} (h1 : 1 ≤ nd) (h : nd ≤ txt.length) : (headOf txt nd).cps.toList ≠ [] := by
  intro e
  have := head_len h
  rw [e] at this
  simp at this; omega
theorem head_dig {b : Nat} {txt : Str} {nd : Nat} (h : nd ≤ txt.length) (hd : ∀ i, i < nd → IsDig b (txt.cps.getD i 0)) : ∀ c ∈ (headOf txt nd).cps.toList, IsDig b c := by
  intro c hc
  rw [head_list] at hc
  obtain ⟨j, hj, e⟩ := List.getElem_of_mem hc
  rw [List.length_take] at hj
  rw [List.getElem_take] at e
  have hs : j < txt.cps.size := by
    have : txt.cps.toList.length = txt.cps.size := Array.length_toList
    omega
  have := hd j (by omega)
  rw [show txt.cps.getD j 0 = c by rw [← e]; simp [hs]] at this
  exact this
theorem exec_cut {prog : Program} {w : World} {A : Around} {E : Value → Shared → Prop} {Q : Flow → Shared → Prop} {s : Shared} {env : Env} {h₀ : Heap} {L : Addr} {σ : Type} {st : Stmt} {m₀ : Str → Option Value}
    (Led : σ → List (Addr × Obj)) (ps : σ → List (Str × Value)) (stored : List Str) (X : σ → Prop) (F : Fr h₀ L s.heap m₀)
    (one : wpAny (model prog w) A (exec st env) (fun f s' => f = .next ∧ CutEnd h₀ L s Led ps stored m₀ X s') E s)
    (done : ∀ (c : σ) (u : Str → Option Value) h tk, X c → Fr h₀ L h (kstB (fun z => if stored.contains z then u z else m₀ z) (ps c)) → News h₀ L h (Led c) → Q .next { s with heap := h, toks := tk }) :
    wpAny (model prog w) A (exec st env) Q E s := by
  refine wpAny_mono one (fun f s' hq => ?_) fun _ _ x => x
  obtain ⟨rfl, c, u, h, tk, rfl, hX, F1, N1⟩ := hq
  exact done c u h tk hX F1 N1
section
variable {prog : Program} {w : World} {A : Around} {E : Value → Shared → Prop} {s : Shared} {Q : Value → Shared → Prop} {txt : Str} {t u : Tok} {nd : Nat} {V : Int}
theorem join_figs {D : Addr} {vs : List Value} (hl : s.heap.IsList D vs.toArray) (hi : StrsAre vs (figsJ txt nd)) (hle : nd ≤ txt.length) (hsm : txt.length ≤ 100)
    (h : ∀ t' k, Q (.str (headOf txt nd) t') { s with toks := k }) : wpAny (model prog w) A (call (.builtin "str.join") [.str (Str.ofString "") t, .ref D]) Q E s := by
  refine join_list hl (by simpa using hi) ?_ (fun t' k => ?_)
  · have e : (Str.ofString "").length = 0 := by decide
    rw [figs_sum, e]; omega
  · rw [join_head hle]; exact h t' k
theorem int_head {b : Nat} (hb : Base2 b) (hle : nd ≤ txt.length) (hsm : txt.length ≤ 100) (h1 : 1 ≤ nd) (hd : ∀ i, i < nd → IsDig b (txt.cps.getD i 0)) (hV : V = (numOf b (headOf txt nd).cps.toList : Int))
    (hq : Q (.int V s.toks) { s with toks := s.toks + 1 }) : wpAny (model prog w) A (call (.type "int") [.str (headOf txt nd) t, .int (b : Int) u]) Q E s := by
  subst hV
  refine int_base hb (head_dig hle hd) (head_ne h1 hle) ?_ hq
  have := head_len hle
  have e : (headOf txt nd).cps.toList.length = (headOf txt nd).length := Array.length_toList
  omega
theorem int_head10 (hle : nd ≤ txt.length) (hsm : txt.length ≤ 100) (h1 : 1 ≤ nd) (hd : ∀ i, i < nd → IsDig 10 (txt.cps.getD i 0)) (hV : V = (numOf 10 (headOf txt nd).cps.toList : Int))
    (hq : Q (.int V s.toks) { s with toks := s.toks + 1 }) : wpAny (model prog w) A (call (.type "int") [.str (headOf txt nd) t, .int 10 u]) Q E s := int_head (.inl rfl) hle hsm h1 hd hV hq
theorem int_head16 (hle : nd ≤ txt.length) (hsm : txt.length ≤ 100) (h1 : 1 ≤ nd) (hd : ∀ i, i < nd → IsDig 16 (txt.cps.getD i 0)) (hV : V = (numOf 16 (headOf txt nd).cps.toList : Int))
    (hq : Q (.int V s.toks) { s with toks := s.toks + 1 }) : wpAny (model prog w) A (call (.type "int") [.str (headOf txt nd) t, .int 16 u]) Q E s := int_head (.inr rfl) hle hsm h1 hd hV hq
theorem in_bad {t' : Addr} {items : Array Value} {ns : List Int} (ht : IsTup s.heap t' items) (hi : IntsAre items.toList ns) (hn : ns = badTup) (h0 : 0 ≤ V) (h1 : V ≤ 1114111) (h : Q (.bool (badIn V)) s) : wpAny (model prog w) A (compareOp .In (.int V u) (.ref t')) Q E s :=
  in_tuple_ints ht hi (by rw [hn, any_bad h0 h1]; exact h)
end
end Mine
end

section
open PySem PySem.W PyProof.Rows
set_option Elab.async false
set_option linter.unusedVariables false
set_option maxRecDepth 100000
set_option maxHeartbeats 8000000
namespace Mine
/- the tables of the top, once -/
theorem look46 (w : World) : ∃ es n, (hd.heap_39 w.params).lookup 46 = some ⟨.type "dict", none, .dict es n, #[]⟩ ∧ Ents es.toList replTbl := by
  refine ⟨_, _, rfl, ?_⟩
  repeat' (first | exact Ents.nil | refine Ents.cons (by first | rfl | decide +kernel) ?_)
theorem look767 (w : World) : ∃ es n, (hd.heap_39 w.params).lookup 767 = some ⟨.type "dict", none, .dict es n, #[]⟩ ∧ EntsV es.toList ∧ findBy Value.isInt es 10 = some (.ref 768) ∧ findBy Value.isInt es 16 = some (.ref 769) := by
  refine ⟨_, _, rfl, ?_, rfl, rfl⟩
  repeat' (first | exact EntsV.nil | refine EntsV.cons (by first | rfl | decide +kernel) ?_)
def behL (g : Nat) (G : Nat) : List Str := [⟨#[]⟩, ⟨#[59]⟩, ⟨#[59, 59]⟩, ⟨#[g, 59]⟩, ⟨#[G]⟩, ⟨#[120, 49, 59]⟩, ⟨#[32, 59]⟩, ⟨#[38]⟩, ⟨#[1633, 59]⟩, ⟨#[95, 49, 59]⟩]
theorem look768 (w : World) : ∃ l n, (hd.heap_39 w.params).lookup 768 = some ⟨.type "list", none, .seq (List.toArray l) n, #[]⟩ ∧ StrsAre l (behL 97 70) := by
  refine ⟨_, _, rfl, ?_⟩
  unfold behL
  repeat' (first | exact StrsAre.nil | exact StrsAre.cons _ _ (by assumption) | refine StrsAre.cons _ _ ?_)
theorem look769 (w : World) : ∃ l n, (hd.heap_39 w.params).lookup 769 = some ⟨.type "list", none, .seq (List.toArray l) n, #[]⟩ ∧ StrsAre l (behL 103 71) := by
  refine ⟨_, _, rfl, ?_⟩
  unfold behL
  repeat' (first | exact StrsAre.nil | exact StrsAre.cons _ _ (by assumption) | refine StrsAre.cons _ _ ?_)
structure Beh (b : Nat) (x : Str) : Prop where
  short : x.length ≤ 3
  fine : Fine x
  stop : 0 < x.length → ¬ IsDig b (x.cps.getD 0 0)
  semi : (Txt.slice x none (some 1) == Str.ofString ";") = (decide (0 < x.length) && (x.cps.getD 0 0 == 59))
theorem beh_all10 : ∀ x ∈ behL 97 70, x.length ≤ 3 ∧ (∀ n ∈ x.cps.toList, (32 ≤ n ∧ n ≤ 126) ∨ n = 1633) ∧ (0 < x.length → digB 10 (x.cps.getD 0 0) = false) ∧ (Txt.slice x none (some 1) == Str.ofString ";") = (decide (0 < x.length) && (x.cps.getD 0 0 == 59)) := by decide +kernel
theorem beh_all16 : ∀ x ∈ behL 103 71, x.length ≤ 3 ∧ (∀ n ∈ x.cps.toList, (32 ≤ n ∧ n ≤ 126) ∨ n = 1633) ∧ (0 < x.length → digB 16 (x.cps.getD 0 0) = false) ∧ (Txt.slice x none (some 1) == Str.ofString ";") = (decide (0 < x.length) && (x.cps.getD 0 0 == 59)) := by decide +kernel
theorem beh_of {b : Nat} {x : Str} (h : x.length ≤ 3 ∧ (∀ n ∈ x.cps.toList, (32 ≤ n ∧ n ≤ 126) ∨ n = 1633) ∧ (0 < x.length → digB b (x.cps.getD 0 0) = false) ∧ (Txt.slice x none (some 1) == Str.ofString ";") = (decide (0 < x.length) && (x.cps.getD 0 0 == 59))) : Beh b x :=
  ⟨h.1, h.2.1, fun h0 hd => by have := h.2.2.1 h0; rw [digB_iff.mpr hd] at this; (cases this), h.2.2.2⟩
theorem beh_len (g G : Nat) : (behL g G).length = 10 := rfl
theorem beh_mem {g G : Nat} {i : Nat} (h : i < 10) : (behL g G).getD i PySem.Str.empty ∈ behL g G := by
  rw [List.getD_eq_getElem?_getD, List.getElem?_eq_getElem (by rw [beh_len]; exact h)]
  exact List.getElem_mem _
section
variable {w : World} {A : Around} {E : Value → Shared → Prop} {s : Shared} {h₀ h : Heap} {L a : Addr} {m : Str → Option Value} {u : Tok} {V : Int} {v : Value} {Q : Value → Shared → Prop} {value slice : Expr}
theorem in_repl46 {prog : Program} (F : Fr h₀ L s.heap m) (X : (hd.heap_39 w.params).In h₀) (h : Q (.bool (replB V)) { s with toks := s.toks + 1 }) : wpAny (model prog w) A (compareOp .In (.int V u) (.ref 46)) Q E s := by
  obtain ⟨es, n, hl, hk⟩ := look46 w
  exact in_repl F X hl hk rfl (by decide) h
theorem item_repl46 {prog : Program} (F : Fr h₀ L s.heap m) (X : (hd.heap_39 w.params).In h₀) (hv : replB V = true)
    (h : ∀ t, Q (.str (replS V) t) { s with toks := s.toks + 1 })
    (hs : subscripted slice false (.ref 46) (.int V u) = operate [.ref 46, .int V u] (getItem (.ref 46) (.int V u)) := by with_unfolding_all rfl) :
    wpAny (model prog w) A (subscriptTail value slice (.ref 46) (.int V u)) Q E s := by
  obtain ⟨es, n, hl, hk⟩ := look46 w
  exact item_repl F X hl hk rfl hv h hs
theorem item_767a {prog : Program} (F : Fr h₀ L s.heap m) (X : (hd.heap_39 w.params).In h₀) (h : Q (.ref 768) { s with toks := s.toks + 1 })
    (hs : subscripted slice false (.ref 767) (.int 10 u) = operate [.ref 767, .int 10 u] (getItem (.ref 767) (.int 10 u)) := by with_unfolding_all rfl) :
    wpAny (model prog w) A (subscriptTail value slice (.ref 767) (.int 10 u)) Q E s := by
  obtain ⟨es, n, hl, hk, h1, h2⟩ := look767 w
  exact item_top F X hl hk h1 h hs
theorem item_767b {prog : Program} (F : Fr h₀ L s.heap m) (X : (hd.heap_39 w.params).In h₀) (h : Q (.ref 769) { s with toks := s.toks + 1 })
    (hs : subscripted slice false (.ref 767) (.int 16 u) = operate [.ref 767, .int 16 u] (getItem (.ref 767) (.int 16 u)) := by with_unfolding_all rfl) :
    wpAny (model prog w) A (subscriptTail value slice (.ref 767) (.int 16 u)) Q E s := by
  obtain ⟨es, n, hl, hk, h1, h2⟩ := look767 w
  exact item_top F X hl hk h2 h hs
theorem item_beh10 {prog : Program} (F : Fr h₀ L s.heap m) (X : (hd.heap_39 w.params).In h₀) (h0 : 0 ≤ V) (h1 : V < 10) (h : ∀ x t, Beh 10 x → Q (.str x t) s)
    (hs : subscripted slice false (.ref 768) (.int V u) = operate [.ref 768, .int V u] (getItem (.ref 768) (.int V u)) := by with_unfolding_all rfl) :
    wpAny (model prog w) A (subscriptTail value slice (.ref 768) (.int V u)) Q E s := by
  obtain ⟨l, n, hl, hk⟩ := look768 w
  exact KTb.item_list (lstK (X.keeps F.keep) hl) hk h0 (by rw [beh_len]; exact h1) (by omega) (fun t' _ => h _ _ (beh_of (beh_all10 _ (beh_mem (by omega))))) hs
theorem item_beh16 {prog : Program} (F : Fr h₀ L s.heap m) (X : (hd.heap_39 w.params).In h₀) (h0 : 0 ≤ V) (h1 : V < 10) (h : ∀ x t, Beh 16 x → Q (.str x t) s)
    (hs : subscripted slice false (.ref 769) (.int V u) = operate [.ref 769, .int V u] (getItem (.ref 769) (.int V u)) := by with_unfolding_all rfl) :
    wpAny (model prog w) A (subscriptTail value slice (.ref 769) (.int V u)) Q E s := by
  obtain ⟨l, n, hl, hk⟩ := look769 w
  exact KTb.item_list (lstK (X.keeps F.keep) hl) hk h0 (by rw [beh_len]; exact h1) (by omega) (fun t' _ => h _ _ (beh_of (beh_all16 _ (beh_mem (by omega))))) hs
end
end Mine
end

section
open PySem PySem.W PyProof.Rows
set_option Elab.async false
set_option linter.unusedVariables false
set_option maxRecDepth 100000
set_option maxHeartbeats 8000000
namespace Mine
section
variable {prog : Program} {w : World} {A : Around} {E : Value → Shared → Prop} {s : Shared} {h₀ : Heap} {L : Addr} {m : Str → Option Value} {Q : Value → Shared → Prop} {b n : Nat} {ad : Addr} {u : Tok}
theorem look32 (w : World) : ∃ l n, (hd.heap_39 w.params).lookup 32 = some ⟨.type "tuple", none, .seq (List.toArray l) n, #[]⟩ ∧ StrsAre l [⟨#[48]⟩, ⟨#[49]⟩, ⟨#[50]⟩, ⟨#[51]⟩, ⟨#[52]⟩, ⟨#[53]⟩, ⟨#[54]⟩, ⟨#[55]⟩, ⟨#[56]⟩, ⟨#[57]⟩] := by
  refine ⟨_, _, rfl, ?_⟩
  repeat' (first | exact StrsAre.nil | refine StrsAre.cons _ _ ?_)
theorem look37 (w : World) : ∃ l n, (hd.heap_39 w.params).lookup 37 = some ⟨.type "tuple", none, .seq (List.toArray l) n, #[]⟩ ∧ StrsAre l [⟨#[48]⟩, ⟨#[49]⟩, ⟨#[50]⟩, ⟨#[51]⟩, ⟨#[52]⟩, ⟨#[53]⟩, ⟨#[54]⟩, ⟨#[55]⟩, ⟨#[56]⟩, ⟨#[57]⟩, ⟨#[97]⟩, ⟨#[98]⟩, ⟨#[99]⟩, ⟨#[100]⟩, ⟨#[101]⟩, ⟨#[102]⟩, ⟨#[65]⟩, ⟨#[66]⟩, ⟨#[67]⟩, ⟨#[68]⟩, ⟨#[69]⟩, ⟨#[70]⟩] := by
  refine ⟨_, _, rfl, ?_⟩
  repeat' (first | exact StrsAre.nil | refine StrsAre.cons _ _ ?_)
def Alw (b : Nat) (ad : Addr) : Prop := (b = 10 ∧ ad = 32) ∨ (b = 16 ∧ ad = 37)
theorem in_digs (F : Fr h₀ L s.heap m) (X : (hd.heap_39 w.params).In h₀) (ha : Alw b ad) (h : Q (.bool (digB b n)) s) : wpAny (model prog w) A (compareOp .In (.str ⟨#[n]⟩ u) (.ref ad)) Q E s := by
  rcases ha with ⟨rfl, rfl⟩ | ⟨rfl, rfl⟩
  · obtain ⟨l, nn, hl, hi⟩ := look32 w
    exact in_tens F X hl hi rfl h
  · obtain ⟨l, nn, hl, hi⟩ := look37 w
    exact in_hexs F X hl hi rfl h
theorem none_in_digs (F : Fr h₀ L s.heap m) (X : (hd.heap_39 w.params).In h₀) (ha : Alw b ad) (h : Q (.bool false) s) : wpAny (model prog w) A (compareOp .In .none (.ref ad)) Q E s := by
  rcases ha with ⟨rfl, rfl⟩ | ⟨rfl, rfl⟩
  · obtain ⟨l, nn, hl, hi⟩ := look32 w
    exact none_in_tuple F X hl hi h
  · obtain ⟨l, nn, hl, hi⟩ := look37 w
    exact none_in_tuple F X hl hi h
end
/- the reading loop's letters -/
structure LS where
  (i : Nat) (c : Value) (vs : List Value) (nn : Nat) (ck sz of pl pc pp : Value)
def LNorm (txt : Str) (c : LS) : Prop := c.i < txt.length ∧ (∃ t, c.c = .str ⟨#[txt.cps.getD c.i 0]⟩ t) ∧ (∃ t, c.ck = .str txt t) ∧ (∃ t, c.sz = .int txt.length t) ∧ (∃ t, c.of = .int ((c.i + 1 : Nat) : Int) t) ∧ (∃ t, c.pl = .int 0 t) ∧ (∃ t, c.pc = .int 0 t) ∧ (∃ t, c.pp = .int txt.length t)
def LEof (txt : Str) (nd : Nat) (c : LS) : Prop := c.i = nd ∧ nd = txt.length ∧ c.c = .none ∧ (∃ t, c.ck = .str (Str.ofString "") t) ∧ (∃ t, c.sz = .int 0 t) ∧ (∃ t, c.of = .int 0 t) ∧ (∃ t, c.pl = .int 0 t) ∧ (∃ t, c.pc = .int txt.length t) ∧ (∃ t, c.pp = .int txt.length t)
def LInv (txt : Str) (nd : Nat) (c : LS) : Prop := c.i ≤ nd ∧ StrsAre c.vs (figsJ txt c.i) ∧ (LNorm txt c ∨ LEof txt nd c)
def LOut (txt : Str) (nd : Nat) (c : LS) : Prop := c.i = nd ∧ StrsAre c.vs (figsJ txt c.i) ∧ (LNorm txt c ∨ LEof txt nd c)
theorem figs_next (txt : Str) (i : Nat) : figsJ txt (i + 1) = figsJ txt i ++ [⟨#[txt.cps.getD i 0]⟩] := by
  simp [figsJ, List.range_succ]
/- what is told -/
abbrev PR : Program := Challenge.rw_qy0005_08.row.prog
def IsVar (w : World) (V : Int) (o : Obj) : Prop := ∃ t1 t2, Obj.IsDictOf (strKind PR w) o (strPairs [(.str (Str.ofString "charAsInt") t1, .int V t2)])
def IsTell (w : World) (d2 : Addr) (o : Obj) : Prop := ∃ t1 t2 t3 t4 t5, Obj.IsDictOf (strKind PR w) o (strPairs [(.str (Str.ofString "type") t1, .int 7 t2), (.str (Str.ofString "data") t3, .str (Str.ofString "illegal-codepoint-for-numeric-entity") t4), (.str (Str.ofString "datavars") t5, .ref d2)])
def IsNoSemi (w : World) (o : Obj) : Prop := ∃ t1 t2 t3 t4, Obj.IsDictOf (strKind PR w) o (strPairs [(.str (Str.ofString "type") t1, .int 7 t2), (.str (Str.ofString "data") t3, .str (Str.ofString "numeric-entity-without-semicolon") t4)])
structure MS where
  (d1 d2 : Addr) (o1 o2 : Obj) (t : Tok)
def MOk (w : World) (V : Int) (q : Addr) (c : MS) : Prop := q < c.d1 ∧ q < c.d2 ∧ c.d1 < c.d2 ∧ (c.d1 == sysModules) = false ∧ (c.d2 == sysModules) = false ∧ IsVar w V c.o2 ∧ IsTell w c.d2 c.o1
structure CS where
  (its : List Value) (qn : Nat) (ext : List (Addr × Obj)) (t : Tok)
inductive Mid (w : World) (V : Int) (q : Addr) : Bool → List Value → List (Addr × Obj) → Prop
  | t {c : MS} : MOk w V q c → Mid w V q true [.ref c.d1] [(c.d2, c.o2), (c.d1, c.o1)]
  | f : Mid w V q false [] []
inductive Que (w : World) (V : Int) (q : Addr) : Bool → Bool → List Value → List (Addr × Obj) → Prop
  | y {told : Bool} {its : List Value} {ext : List (Addr × Obj)} : Mid w V q told its ext → Que w V q told true its ext
  | n {told : Bool} {its : List Value} {ext : List (Addr × Obj)} {d : Addr} {o : Obj} : Mid w V q told its ext → q < d → AllLt d ext → (d == sysModules) = false → IsNoSemi w o → Que w V q told false (its ++ [.ref d]) ((d, o) :: ext)
theorem Mid.short {w : World} {V : Int} {q : Addr} {told : Bool} {its : List Value} {ext : List (Addr × Obj)} (h : Mid w V q told its ext) : its.toArray.size ≤ sizeLine := by
  have e := sizeLine_eq
  cases h <;> simp <;> omega
def MidOk (w : World) (V : Int) (q : Addr) (own : List (Addr × Obj)) (adr : List Addr) (c : CS) : Prop := Mid w V q (toldOf V) c.its c.ext ∧ OwnOff (c.ext ++ own) adr
theorem allLt_app {d : Addr} : ∀ {l r : List (Addr × Obj)}, AllLt d (l ++ r) → AllLt d l
  | [], _, _ => trivial
  | _ :: _, _, h => ⟨h.1, allLt_app h.2⟩
theorem off_app {l r : List (Addr × Obj)} {adr : List Addr} (h1 : OwnOff l adr) (h2 : OwnOff r adr) : OwnOff (l ++ r) adr := by
  intro p hp
  rcases List.mem_append.mp hp with h | h
  · exact h1 p h
  · exact h2 p h
theorem off_nil {adr : List Addr} : OwnOff [] adr := fun _ h => nomatch h
theorem off_cons2 {a : Addr} {o : Obj} {l : List (Addr × Obj)} {adr : List Addr} (h : ∀ b ∈ adr, a ≠ b) (r : OwnOff l adr) : OwnOff ((a, o) :: l) adr := by
  intro p hp
  rcases List.mem_cons.mp hp with rfl | hp
  · exact h
  · exact r p hp
def semiB (txt : Str) (nd : Nat) : Bool := decide (nd < txt.length) && (txt.cps.getD nd 0 == 59)
theorem cut_end {h₀ h : Heap} {L : Addr} {s : Shared} {σ : Type} {Led : σ → List (Addr × Obj)} {ps : σ → List (Str × Value)} {stored : List Str} {m₀ m' : Str → Option Value} {X : σ → Prop} {tk : Nat} {news : List (Addr × Obj)} (c : σ)
    (F : Fr h₀ L h m') (N : News h₀ L h news) (hl : ∀ p ∈ Led c, p ∈ news) (hX : X c) (h1 : ∀ p ∈ ps c, m' p.1 = some p.2) (h2 : ∀ z, (∀ p ∈ ps c, z ≠ p.1) → stored.contains z = false → m' z = m₀ z) : CutEnd h₀ L s Led ps stored m₀ X { s with heap := h, toks := tk } := by
  refine ⟨c, m', h, tk, rfl, hX, ?_, fun p hp => N p (hl p hp)⟩
  have e : kstB (fun z => if stored.contains z = true then m' z else m₀ z) (ps c) = m' := by
    funext z
    refine kstB_eq h1 fun hz => ?_
    by_cases hs : stored.contains z = true
    · rw [if_pos hs]
    · rw [if_neg hs, h2 z hz (Bool.eq_false_iff.mpr hs)]
  rw [e]; exact F
theorem toA {a b : Addr} (h : @LT.lt Nat instLTNat a b) : a < b := h
theorem news_no5 {h₀ h : Heap} {L : Addr} {e0 e1 e2 e3 e4 e : Addr × Obj} {r : List (Addr × Obj)} (N : News h₀ L h (e0 :: e1 :: e2 :: e3 :: e4 :: e :: r)) : News h₀ L h (e0 :: e1 :: e2 :: e3 :: e4 :: r) := by
  intro p hp
  refine N p ?_
  simp only [List.mem_cons] at hp ⊢
  rcases hp with h | h | h | h | h | h <;> simp [h]
theorem news_told {h₀ h : Heap} {L : Addr} {a b e0 e1 e2 e3 e4 e q t1 t2 : Addr × Obj} {r : List (Addr × Obj)} (N : News h₀ L h (a :: b :: e0 :: e1 :: e2 :: e3 :: e4 :: e :: q :: t1 :: t2 :: r)) : News h₀ L h (e0 :: e1 :: e2 :: e3 :: e4 :: q :: t1 :: t2 :: ([a, b] ++ r)) := by
  intro p hp
  refine N p ?_
  simp only [List.cons_append, List.nil_append, List.mem_cons] at hp ⊢
  rcases hp with h | h | h | h | h | h | h | h | h | h | h <;> simp [h]
theorem news_back {h₀ h : Heap} {L : Addr} {a e0 e1 e2 e3 e4 q t1 t2 : Addr × Obj} {x r : List (Addr × Obj)} (N : News h₀ L h (a :: e0 :: e1 :: e2 :: e3 :: e4 :: q :: t1 :: t2 :: (x ++ r))) : News h₀ L h (e0 :: e1 :: e2 :: e3 :: e4 :: q :: t1 :: t2 :: ((a :: x) ++ r)) := by
  intro p hp
  refine N p ?_
  simp only [List.cons_append, List.mem_cons] at hp ⊢
  rcases hp with h | h | h | h | h | h | h | h | h | h <;> simp [h]
theorem exec_cut1 {prog : Program} {w : World} {A : Around} {E : Value → Shared → Prop} {Q : Bool → Shared → Prop} {s : Shared} {test : Expr} {env : Env} {h₀ : Heap} {L : Addr} {m : Str → Option Value} {news : List (Addr × Obj)} (b : Bool) (F : Fr h₀ L s.heap m) (N : News h₀ L s.heap news)
    (one : wpAny (model prog w) A (isTrue test env (eval test env)) (fun r s' => r = b ∧ ∃ h tk, s' = { s with heap := h, toks := tk } ∧ Fr h₀ L h m ∧ News h₀ L h news) E s)
    (done : ∀ h tk, Fr h₀ L h m → News h₀ L h news → Q b { s with heap := h, toks := tk }) :
    wpAny (model prog w) A (isTrue test env (eval test env)) Q E s := by
  refine wpAny_mono one (fun f s' hq => ?_) fun _ _ x => x
  obtain ⟨rfl, h, tk, rfl, F1, N1⟩ := hq
  exact done h tk F1 N1
theorem semi_str : Str.ofString ";" = ⟨#[59]⟩ := by decide +kernel
theorem semi_eq {n : Nat} (h : n = 59) : ((⟨#[n]⟩ : Str) != Str.ofString ";") = false := by
  rw [semi_str, h]; decide
theorem semi_ne {n : Nat} (h : ¬ n = 59) : ((⟨#[n]⟩ : Str) != Str.ofString ";") = true := by
  rw [semi_str, bne, sign_ne h]; rfl
theorem told_cases {V : Int} (h0 : 0 ≤ V) (hT : ToldP V) (h1 : ¬ (V = 0 ∨ V = 13 ∨ (128 ≤ V ∧ V ≤ 159))) (h2 : ¬ ((55296 ≤ V ∧ V ≤ 57343) ∨ V > 1114111)) : (1 ≤ V ∧ V ≤ 8) ∨ (14 ≤ V ∧ V ≤ 31) ∨ V = 127 ∨ (64976 ≤ V ∧ V ≤ 65007) ∨ (V = 11 ∧ badIn V = true) ∨ (65534 ≤ V ∧ V ≤ 1114111 ∧ badIn V = true) := by
  unfold badIn
  simp only [decide_eq_true_eq]
  rcases hT with h | h | h | h | h | h | h | h | h | h | h
  · exact absurd (.inl h) h1
  · exact absurd (.inr (.inl h)) h1
  · exact absurd (.inr (.inr h)) h1
  · exact absurd (.inl h) h2
  · exact absurd (.inr h) h2
  · exact .inl h
  · exact .inr (.inl h)
  · have q : ¬ 128 ≤ V := fun q => h1 (.inr (.inr ⟨q, h.2⟩))
    have p := h.1
    clear h h0 h1 h2
    exact .inr (.inr (.inl (by omega)))
  · exact .inr (.inr (.inr (.inl h)))
  · exact .inr (.inr (.inr (.inr (.inl ⟨h, .inl h⟩))))
  · have q : ¬ V > 1114111 := fun q => h2 (.inr q)
    clear h1 h2
    exact .inr (.inr (.inr (.inr (.inr ⟨by omega, by omega, .inr h⟩))))
theorem free_cases {V : Int} (h0 : 0 ≤ V) (hT : ¬ ToldP V) : (V = 9 ∨ V = 10 ∨ V = 12 ∨ (32 ≤ V ∧ V ≤ 126) ∨ (160 ≤ V ∧ V ≤ 55295) ∨ (57344 ≤ V ∧ V ≤ 64975) ∨ (65008 ≤ V ∧ V ≤ 1114111)) ∧ badIn V = false ∧ replB V = false ∧ ¬ ((55296 ≤ V ∧ V ≤ 57343) ∨ V > 1114111) ∧ V ≤ 1114111 := by
  unfold badIn
  rw [replB_not]
  simp only [decide_eq_false_iff_not]
  simp only [ToldP, not_or] at hT
  obtain ⟨n1, n2, n3, n4, n5, n6, n7, n8, n9, n10, n11⟩ := hT
  have hle : V ≤ 1114111 := Int.not_lt.mp n5
  refine ⟨?_, fun q => q.elim n10 n11, fun q => q.elim n1 fun q => q.elim n2 n3, fun q => q.elim n4 n5, hle⟩
  clear n5 n11
  by_cases a : V ≤ 31
  · have b1 : ¬ 14 ≤ V := fun q => n7 ⟨q, a⟩
    have b2 : 8 < V := Int.not_le.mp fun q => n6 ⟨by clear n3 n4 n6 n7 n8 n9; omega, q⟩
    clear n3 n4 n6 n7 n8 n9
    have c : V = 9 ∨ V = 10 ∨ V = 12 := by omega
    exact c.elim .inl fun c => c.elim (fun c => .inr (.inl c)) fun c => .inr (.inr (.inl c))
  · by_cases b : V ≤ 126
    · exact .inr (.inr (.inr (.inl ⟨by clear n3 n4 n6 n7 n8 n9; omega, b⟩)))
    · have c : 159 < V := Int.not_le.mp fun q => n8 ⟨by clear n3 n4 n6 n7 n8 n9; omega, q⟩
      by_cases d : V ≤ 55295
      · exact .inr (.inr (.inr (.inr (.inl ⟨by clear n3 n4 n6 n7 n8 n9; omega, d⟩))))
      · have e : 57343 < V := Int.not_le.mp fun q => n4 ⟨by clear n3 n4 n6 n7 n8 n9; omega, q⟩
        by_cases f : V ≤ 64975
        · exact .inr (.inr (.inr (.inr (.inr (.inl ⟨by clear n3 n4 n6 n7 n8 n9; omega, f⟩)))))
        · have g : 65007 < V := Int.not_le.mp fun q => n9 ⟨by clear n3 n4 n6 n7 n8 n9; omega, q⟩
          exact .inr (.inr (.inr (.inr (.inr (.inr ⟨by clear n3 n4 n6 n7 n8 n9; omega, hle⟩)))))
theorem bad_told {V : Int} (h0 : 0 ≤ V) (h1 : ¬ (V = 0 ∨ V = 13 ∨ (128 ≤ V ∧ V ≤ 159))) (h2 : ¬ ((55296 ≤ V ∧ V ≤ 57343) ∨ V > 1114111)) (a1 : ¬ (1 ≤ V ∧ V ≤ 8)) (a2 : ¬ (14 ≤ V ∧ V ≤ 31)) (a3 : ¬ (127 ≤ V ∧ V ≤ 159)) (a4 : ¬ (64976 ≤ V ∧ V ≤ 65007)) : badIn V = toldOf V := by
  unfold badIn toldOf
  refine decide_eq_decide.mpr ⟨fun q => q.elim (fun q => ?_) fun q => ?_, fun q => ?_⟩
  · exact .inr (.inr (.inr (.inr (.inr (.inr (.inr (.inr (.inr (.inl q)))))))))
  · exact .inr (.inr (.inr (.inr (.inr (.inr (.inr (.inr (.inr (.inr q)))))))))
  · rcases q with h | h | h | h | h | h | h | h | h | h | h
    · exact absurd (.inl h) h1
    · exact absurd (.inr (.inl h)) h1
    · exact absurd (.inr (.inr h)) h1
    · exact absurd (.inl h) h2
    · exact absurd (.inr h) h2
    · exact absurd h a1
    · exact absurd h a2
    · exact absurd h a3
    · exact absurd h a4
    · exact .inl h
    · exact .inr h
theorem off_conj {d dx x dds ds mo stk q dT T : Addr} {own : List (Addr × Obj)} (h : dx < d ∧ x < d ∧ dds < d ∧ ds < d ∧ mo < d ∧ stk < d ∧ q < d ∧ dT < d ∧ T < d ∧ AllLt d own) : ∀ b ∈ [dx, x, dds, ds, mo, q, dT, T], d ≠ b := by
  obtain ⟨h1, h2, h3, h4, h5, -, h6, h7, h8, -⟩ := h
  intro b hb
  simp only [List.mem_cons, List.not_mem_nil, or_false] at hb
  rcases hb with rfl | rfl | rfl | rfl | rfl | rfl | rfl | rfl <;> exact Nat.ne_of_gt (by assumption)
theorem midOk_told {w : World} {V : Int} {d1 d2 dx x dds ds mo stk q dT T : Addr} {o1 o2 : Obj} {own : List (Addr × Obj)} {n : Nat} {t : Tok} (hT : ToldP V) (l8 : dx < d1 ∧ x < d1 ∧ dds < d1 ∧ ds < d1 ∧ mo < d1 ∧ stk < d1 ∧ q < d1 ∧ dT < d1 ∧ T < d1 ∧ AllLt d1 own)
    (l9 : d1 < d2 ∧ dx < d2 ∧ x < d2 ∧ dds < d2 ∧ ds < d2 ∧ mo < d2 ∧ stk < d2 ∧ q < d2 ∧ dT < d2 ∧ T < d2 ∧ AllLt d2 own) (s1 : (d1 == sysModules) = false) (s2 : (d2 == sysModules) = false) (iv : IsVar w V o2) (it : IsTell w d2 o1) (hoff : OwnOff own [dx, x, dds, ds, mo, q, dT, T]) :
    MidOk w V q own [dx, x, dds, ds, mo, q, dT, T] ⟨[.ref d1], n, [(d2, o2), (d1, o1)], t⟩ := by
  refine ⟨?_, off_cons2 (off_conj l9.2) (off_cons2 (off_conj l8) hoff)⟩
  show Mid w V q (toldOf V) _ _
  rw [told_yes hT]
  exact Mid.t (c := ⟨d1, d2, o1, o2, t⟩) ⟨l8.2.2.2.2.2.2.1, l9.2.2.2.2.2.2.2.1, l9.1, s1, s2, iv, it⟩
theorem midOk_free {w : World} {V : Int} {q : Addr} {own : List (Addr × Obj)} {adr : List Addr} {n : Nat} {t : Tok} (hT : ¬ ToldP V) (hoff : OwnOff own adr) : MidOk w V q own adr ⟨[], n, [], t⟩ := by
  refine ⟨?_, hoff⟩
  show Mid w V q (toldOf V) _ _
  rw [told_no hT]
  exact .f
theorem semi_not {txt : Str} {i : Nat} (h : semiB txt i = false) (hl : i < txt.length) : ¬ txt.cps.getD i 0 = 59 := by
  intro e
  unfold semiB at h
  rw [decide_eq_true hl, e] at h
  simp at h
theorem semi_yes {txt : Str} {i : Nat} (h : semiB txt i = true) : i < txt.length ∧ txt.cps.getD i 0 = 59 := by
  unfold semiB at h
  simp only [Bool.and_eq_true, decide_eq_true_eq, beq_iff_eq] at h
  exact h
theorem slice_eof {txt : Str} {i : Nat} (h : i = txt.length) : Txt.slice (Str.ofString "") (some ((0 : Nat) : Int)) none = Txt.slice txt (some ((i + 0 : Nat) : Int)) none := by
  rw [slice_beyond (by decide), slice_beyond (by omega)]
end Mine
end

section
open PySem PySem.W PyProof.Rows
set_option Elab.async false
set_option rowWalk.seconds 0
set_option maxRecDepth 100000
set_option maxHeartbeats 8000000
set_option linter.unusedVariables false
namespace Mine
local macro_rules | `(tactic| k_room) => `(tactic| ktr_room)
local macro_rules | `(tactic| k_units) => `(tactic| ktr_units)
local macro_rules | `(tactic| k_enter) => `(tactic| (refine' code_def ?k1 ?k2 ?k3 ?k4 ?k5 ?kA ?kF ?kK ?k6 ?k7 ?k8 ?k9 ?kB ?_ ?c2 ?c3 ?c4 ?c5; (case kA => exact rfl); (case kF => exact rfl); (case kK => first | exact rfl | assumption); (case k1 => k_asm); (case k2 => k_asm); (case k3 => k_asm); (case k4 => k_asm); (case k5 => k_asm); (case k6 => k_is); (case k7 => k_is); (case k8 => ktr_room); (case k9 => first | exact BindsTo.of_eq rfl | exact binds_K (by k_in) rfl (by k_is) rfl rfl rfl | fail "k_enter: no rule for these arguments"); (case c5 => decide); (case kB => exact locs rfl); (case c2 => exact rfl); (case c3 => exact rfl); (case c4 => exact rfl); k_whole; intro g' L' h' FG' F' N' B' X' T'; (try dsimp only); (try k_lift B'); (try k_fold)))
local macro_rules | `(tactic| walk_at "ite") => `(tactic| first | (refine ite_neg (by (simp only [List.any_cons, List.any_nil, Bool.or_false, Bool.or_eq_true, Bool.not_eq_true', bne_iff_ne, bne_eq_false_iff_eq, ne_eq, beq_iff_eq, decide_eq_true_eq, Int.fmod_eq_emod_of_nonneg, Int.fdiv_eq_ediv_of_nonneg, Int.reduceLE]); omega) ?_) | (refine ite_pos (by (simp only [List.any_cons, List.any_nil, Bool.or_false, Bool.or_eq_true, Bool.not_eq_true', bne_iff_ne, bne_eq_false_iff_eq, ne_eq, beq_iff_eq, decide_eq_true_eq, Int.fmod_eq_emod_of_nonneg, Int.fdiv_eq_ediv_of_nonneg, Int.reduceLE]); omega) ?_))
local macro_rules | `(tactic| walk_at "compareOp In int ref") => `(tactic| ((with_reducible show wpAny _ _ (compareOp CmpOp.In (Value.int _ _) (Value.ref _)) _ _ _); k_dflt (refine' in_tuple_ints ?t ?i ?_; (case t => exact News.isTup (by k_asm) (by k_mem)); (case i => (repeat constructor)))))
local macro_rules | `(tactic| walk_at "compareOp NotIn int ref") => `(tactic| ((with_reducible show wpAny _ _ (compareOp CmpOp.NotIn (Value.int _ _) (Value.ref _)) _ _ _); k_dflt (refine' notin_tuple_ints ?t ?i ?_; (case t => exact News.isTup (by k_asm) (by k_mem)); (case i => (repeat constructor)))))

local macro_rules | `(tactic| walk_at "compareOp In str ref") => `(tactic| (k_here; (with_reducible show wpAny _ _ (compareOp CmpOp.In (Value.str _ _) (Value.ref _)) _ _ _); k_dflt (refine' in_digs ?F ?X ?a ?_; (case F => k_asm); (case X => k_asm); (case a => assumption); k_whole)))
local macro_rules | `(tactic| walk_at "ite") => `(tactic| first | (refine ite_pos (by with_reducible assumption) ?_) | (refine ite_neg (Bool.eq_false_iff.mp (by with_reducible assumption)) ?_))
local macro_rules | `(tactic| walk_at "compareOp In none ref") => `(tactic| (k_here; k_dflt (refine' none_in_digs ?F ?X ?a ?_; (case F => k_asm); (case X => k_asm); (case a => assumption); k_whole)))
local macro_rules | `(tactic| walk_at "call builtin:list.append") => `(tactic| (k_here; k_dflt (refine' append_K ?k1 ?k2 ?k3 ?_ ?z; (case k1 => k_asm); (case k2 => k_asm); (case k3 => k_upd); (case z => first | assumption | (simp only [List.size_toArray, List.length_cons, List.length_nil, sizeLine_eq]; omega)); k_whole); intro h' F' N'; (try k_sweep)))
local macro_rules | `(tactic| walk_at "compareOp In int ref") => `(tactic| ((with_reducible show wpAny _ _ (compareOp CmpOp.In (Value.int _ _) (Value.ref _)) _ _ _); k_dflt (refine' in_bad ?t ?i ?e ?l ?g ?_; (case t => exact News.isTup (by k_asm) (by k_mem)); (case i => (repeat constructor)); (case e => rfl); (case l => assumption); (case g => omega); k_whole)))
local macro_rules | `(tactic| walk_at "compareOp In int ref") => `(tactic| ((with_reducible show wpAny _ _ (compareOp CmpOp.In (Value.int _ _) (Value.ref 46)) _ _ _); k_dflt (refine' in_repl46 ?F ?X ?_; (case F => k_asm); (case X => k_asm); k_whole)))
local macro_rules | `(tactic| walk_at "subscriptTail Name Name ref int") => `(tactic| (k_here; k_dflt (refine' item_repl46 ?F ?X ?v ?_; (case F => k_asm); (case X => k_asm); (case v => assumption); k_whole); intro tv))

theorem consume {b : Nat} {hex : Bool} {w : World} {p : Program} {loose : List Str} {mean : ExcName → Option Value} {mg mb : Str → Option Value} {dp un : Nat} {gd : Option (List Code)} {cn : Str} {cs : Scope} {a : Addr} {ccd : Value} {cl : List (Str × Addr)} {outer : List Env} {A₀ : Around} {base h₀ : Heap} {L : Addr} {m : Str → Option Value} {s : Shared} {Q E : Value → Shared → Prop}
   {x dx mo nl ds dds er q dT T lf st : Addr} {k : SK} {kt : TK} {tc ts to tpl tpc j1 j2 : Tok} {txt : Str} {tt tp : Tok} {qn nd : Nat} {V : Int} {own : List (Addr × Obj)}
   (B : Below A₀ base outer h₀) (F : Fr h₀ L s.heap m) (X : (hd.heap_39 w.params).In h₀) (N : News h₀ L s.heap ((dx, sDict w k mo nl ds er (.str (Str.ofString "") tc) (.int 0 ts) (.int 0 to) (.int 0 tpl) (.int 0 tpc)) :: (x, instObj 166 dx) :: (dds, xDict w j1 j2 (.str txt tt) (.int 0 tp)) :: (ds, instObj 73 dds) :: (mo, methodObj (.ref 148) (.ref x)) :: (q, listOf #[] qn) :: (dT, tDict w kt x lf st q) :: (T, instObj 762 dT) :: own)) (TT : Top p loose mean mg mb h₀) (hk : cs.kind = .function) (hdp : dp ≤ 520) (hun : un ≤ 520) (hb : Base2 b) (hx : hex = (b == 16))
   (hoff : OwnOff own [dx, x, dds, ds, mo, q, dT, T]) (o0 : dT < T) (o1 : T < dx) (o2 : dx < x) (o3 : x < mo) (o4 : mo < dds) (o5 : dds < ds) (o6 : ds < q)
   (hf : Fine txt) (hl1 : 1 ≤ txt.length) (hl2 : txt.length ≤ 100) (hnd : 1 ≤ nd) (hnd2 : nd ≤ txt.length) (hdig : ∀ i, i < nd → IsDig b (txt.cps.getD i 0)) (hstop : nd < txt.length → ¬ IsDig b (txt.cps.getD nd 0)) (hV : V = (numOf b (headOf txt nd).cps.toList : Int))
   (ret : ∀ h' tk' tch items qn' ext ck off pc t1 t2 t3 t4 t5 t6, Que w V q (toldOf V) (semiB txt nd) items ext → 10 ∉ ck.cps.toList → (off : Nat) ≤ ck.length → ck.length ≤ 100 → (pc : Nat) ≤ 100 → pc + off = nd + (if semiB txt nd then 1 else 0) → Txt.slice ck (some (off : Int)) none = Txt.slice txt (some ((nd + (if semiB txt nd then 1 else 0) : Nat) : Int)) none → Fr h₀ L h' m → News h₀ L h' ((dx, sDict w k mo nl ds er (.str ck t1) (.int ck.length t2) (.int (off : Int) t3) (.int 0 t4) (.int (pc : Int) t5)) :: (x, instObj 166 dx) :: (dds, xDict w j1 j2 (.str txt tt) (.int txt.length t6)) :: (ds, instObj 73 dds) :: (mo, methodObj (.ref 148) (.ref x)) :: (q, listOf items.toArray qn') :: (dT, tDict w kt x lf st q) :: (T, instObj 762 dT) :: (ext ++ own)) → Q (.str (signOf V) tch) { s with heap := h', toks := tk' })
   : wpAny (model Challenge.rw_qy0005_08.row.prog w) (ktrTop dp un gd cn cs L a ccd cl outer) (call (.ref 275) [.ref T, .bool hex]) Q E s := by
  revert X
  k_fill
  intro X
  w_on
  k_with_none
  replace o0 := ltN o0
  replace o1 := ltN o1
  replace o2 := ltN o2
  replace o3 := ltN o3
  replace o4 := ltN o4
  replace o5 := ltN o5
  replace o6 := ltN o6
  have hno10 : 10 ∉ txt.cps.toList := fine_off hf (by decide)
  k_with "call ref" => ((rename Addr => stk); (rename (_ ∧ _) => hL1); (have hstk := hL1.2.2.2.2.2.2.2.2); (have hoff2 := off_new hoff hstk); k_dflt ((show wpAny _ _ (call (Value.ref 133) _) _ _ _); refine' char_one ?B ?F ?X ?N ?T ?hk ?hdp ?hun ?e0 o2 o3 o4 o5 hf hl1 hl2 ?_; (case B => k_asm); (case F => k_asm); (case X => k_asm); (case N => exact news_1st6 (by assumption)); (case T => k_asm); (case hk => exact rfl); (case hdp => ((try simp only [depth_under_make, depth_under_kw, depth_in1, depth_deeper, units_in1, units_deeper, Around.mark_units] at *); (try dsimp only [ktrTop] at *); omega)); (case hun => ((try simp only [depth_under_make, depth_under_kw, depth_in1, depth_deeper, units_in1, units_deeper, Around.mark_units] at *); (try dsimp only [ktrTop] at *); omega)); (case e0 => (repeat (refine off_cons (by (simp only [offAll, and_true]; omega)) ?_)); exact off_sub hoff (by simp)); k_whole); intro h' tk' t0' t1' t2' t3' t4' t5' t6' F' N'; (try k_sweep))
  refine wpAny_call ?_
  k_dflt k_enter
  iterate 10 (first | (k_unfold; (try dsimp only)) | (k_end; wrow_close) | walk1 | (dsimp only; walk1) | (leave1; walk_say "STEP leave1"; try dsimp only) | fail "no step")
  refine' exec_cut (σ := Addr × Tok) (fun _ => (dx, sDict w k mo nl ds er (.str (Str.ofString "") tc) (.int 0 ts) (.int 0 to) (.int 0 tpl) (.int 0 tpc)) :: (x, instObj 166 dx) :: (dds, xDict w j1 j2 (.str txt tt) (.int 0 tp)) :: (ds, instObj 73 dds) :: (mo, methodObj (.ref 148) (.ref x)) :: (q, listOf #[] qn) :: (dT, tDict w kt x lf st q) :: (T, instObj 762 dT) :: own) (fun c => [(Str.ofString "allowed", .ref c.1), (Str.ofString "radix", .int (b : Int) c.2)]) [] (fun c => Alw b c.1) (by assumption) ?one (fun c' u' h' tk' hal F' N' => ?rest)
  case one =>
    rcases hb with rfl | rfl
    all_goals (subst hx; k_steps)
    all_goals ((rename News _ _ _ _ => N9); (rename Fr _ _ _ _ => F9))
    · refine cut_end (32, _) F9 N9 (fun _ h => h) (.inl ⟨rfl, rfl⟩) (List.forall_mem_cons.mpr ⟨by with_unfolding_all rfl, List.forall_mem_cons.mpr ⟨by with_unfolding_all rfl, List.forall_mem_nil _⟩⟩) ?_
      intro z h2 _
      rfl
    · refine cut_end (37, _) F9 N9 (fun _ h => h) (.inr ⟨rfl, rfl⟩) (List.forall_mem_cons.mpr ⟨by with_unfolding_all rfl, List.forall_mem_cons.mpr ⟨by with_unfolding_all rfl, List.forall_mem_nil _⟩⟩) ?_
      intro z h2 _
      have h2' := h2 _ (.head _)
      have h3' := h2 _ (.tail _ (.head _))
      simp [h2', h3']
  case rest =>
    obtain ⟨ad, tr⟩ := c'
    dsimp only at hal F' N'
    iterate 17 (first | (k_unfold; (try dsimp only)) | (k_end; wrow_close) | walk1 | (dsimp only; walk1) | (leave1; walk_say "STEP leave1"; try dsimp only) | fail "no step")
    refine' while_cut (σ := LS) (fun c => (dx, sDict w k mo nl ds er c.ck c.sz c.of c.pl c.pc) :: (x, instObj 166 dx) :: (dds, xDict w j1 j2 (.str txt tt) c.pp) :: (ds, instObj 73 dds) :: (mo, methodObj (.ref 148) (.ref x)) :: (stk, listOf c.vs.toArray c.nn) :: (q, listOf #[] qn) :: (dT, tDict w kt x lf st q) :: (T, instObj 762 dT) :: own) (fun c => [(Str.ofString "c", c.c)]) [] (LInv txt nd) (LOut txt nd) (fun c => nd - c.i) ⟨0, .str ⟨#[txt.cps.getD 0 0]⟩ t0', [], 0, .str txt t1', .int txt.length t2', .int ((0 + 1 : Nat) : Int) t3', .int 0 t4', .int 0 t5', .int txt.length t6'⟩ (by assumption) (by assumption) (List.forall_mem_cons.mpr ⟨by with_unfolding_all rfl, List.forall_mem_nil _⟩) ⟨Nat.zero_le _, .nil, .inl ⟨hl1, ⟨_, rfl⟩, ⟨_, rfl⟩, ⟨_, rfl⟩, ⟨_, rfl⟩, ⟨_, rfl⟩, ⟨_, rfl⟩, ⟨_, rfl⟩⟩⟩ (fun c' u' h' tk' hP' F' N' => ?turn) (fun c' u' h' tk' hX' F' N' => ?done)
    case turn =>
      obtain ⟨i, cv, vs, nn, ck, sz, of, pl, pc, pp⟩ := c'
      obtain ⟨hi, hst, hcase⟩ := hP'
      rcases hcase with ⟨hlt, ⟨u0, e0⟩, ⟨u1, e1⟩, ⟨u2, e2⟩, ⟨u3, e3⟩, ⟨u4, e4⟩, ⟨u5, e5⟩, ⟨u6, e6⟩⟩ | ⟨hi0, hnl, e0, ⟨u1, e1⟩, ⟨u2, e2⟩, ⟨u3, e3⟩, ⟨u4, e4⟩, ⟨u5, e5⟩, ⟨u6, e6⟩⟩
      · dsimp only at hi hst hlt e0 e1 e2 e3 e4 e5 e6
        subst e0 e1 e2 e3 e4 e5 e6
        dsimp only at F' N'
        have hvl : vs.length = i := by rw [StrsAre.length hst]; simp [figsJ]
        have hvz : vs.toArray.size ≤ sizeLine := by rw [List.size_toArray, sizeLine_eq]; omega
        by_cases hd : i < nd
        · have hB := digB_iff.mpr (hdig i hd)
          have hst1 := StrsAre.append' hst (StrsAre.cons ⟨#[txt.cps.getD i 0]⟩ u0 .nil)
          rw [← figs_next] at hst1
          by_cases hn : i + 1 < txt.length
          · k_with "call ref" => (k_dflt ((show wpAny _ _ (call (Value.ref 133) _) _ _ _); refine' char_at ?B ?F ?X ?N ?T ?hk ?hdp ?hun ?e0 ?e1 hn hl2 ?_; (case B => k_asm); (case F => k_asm); (case X => k_asm); (case N => k_asm); (case T => k_asm); (case hk => exact rfl); (case hdp => ((try simp only [depth_under_make, depth_under_kw, depth_in1, depth_deeper, units_in1, units_deeper, Around.mark_units] at *); (try dsimp only [ktrTop] at *); omega)); (case hun => ((try simp only [depth_under_make, depth_under_kw, depth_in1, depth_deeper, units_in1, units_deeper, Around.mark_units] at *); (try dsimp only [ktrTop] at *); omega)); (case e0 => (repeat (refine off_cons (by (simp only [offAll, and_true]; omega)) ?_)); exact off_sub hoff2 (by simp)); (case e1 => exact o2); k_whole); intro h' tk' t1' t2' F' N'; (try k_sweep))
            k_steps
            (rename News _ _ _ _ => N9)
            (rename Fr _ _ _ _ => F9)
            simp only [List.push_toArray, Int.zero_add, Int.add_zero] at N9
            refine ksw_end ⟨i + 1, _, vs ++ [.str ⟨#[txt.cps.getD i 0]⟩ u0], nn + 1, _, _, _, _, _, _⟩ F9 N9 (fun _ h => h) trivial (List.forall_mem_cons.mpr ⟨by with_unfolding_all rfl, List.forall_mem_nil _⟩) ?_ ⟨hd, hst1, .inl ⟨hn, ⟨_, rfl⟩, ⟨_, rfl⟩, ⟨_, rfl⟩, ⟨_, rfl⟩, ⟨_, rfl⟩, ⟨_, rfl⟩, ⟨_, rfl⟩⟩⟩ (show nd - (i + 1) < nd - i by omega)
            intro z h2 _
            have h2' := h2 _ (.head _)
            simp [kstB, h2']
          · k_with "call ref" => (k_dflt ((show wpAny _ _ (call (Value.ref 133) _) _ _ _); refine' char_eof ?B ?F ?X ?N ?T ?hk ?hdp ?hun ?e0 ?e1 ?e2 ?e3 ?h1 ?h2 ?h3 ?h4 ?h5 ?h6 ?_; (case B => k_asm); (case F => k_asm); (case X => k_asm); (case N => k_asm); (case T => k_asm); (case hk => exact rfl); (case hdp => ((try simp only [depth_under_make, depth_under_kw, depth_in1, depth_deeper, units_in1, units_deeper, Around.mark_units] at *); (try dsimp only [ktrTop] at *); omega)); (case hun => ((try simp only [depth_under_make, depth_under_kw, depth_in1, depth_deeper, units_in1, units_deeper, Around.mark_units] at *); (try dsimp only [ktrTop] at *); omega)); (case e0 => (repeat (refine off_cons (by (simp only [offAll, and_true]; omega)) ?_)); exact off_sub hoff2 (by simp)); (case e1 => exact o2); (case e2 => exact ltN (by omega)); (case e3 => exact o5); (case h1 => omega); (case h2 => rfl); (case h3 => omega); (case h4 => rfl); (case h5 => omega); (case h6 => exact hno10); k_whole); intro h' tk' t1' t2' t3' t4' t5' t6' F' N'; (try k_sweep))
            k_steps
            (rename News _ _ _ _ => N9)
            (rename Fr _ _ _ _ => F9)
            simp only [List.push_toArray, Int.zero_add, Int.add_zero] at N9
            refine ksw_end ⟨i + 1, _, vs ++ [.str ⟨#[txt.cps.getD i 0]⟩ u0], nn + 1, _, _, _, _, _, _⟩ F9 N9 (fun _ h => h) trivial (List.forall_mem_cons.mpr ⟨by with_unfolding_all rfl, List.forall_mem_nil _⟩) ?_ ⟨hd, hst1, .inr ⟨show i + 1 = nd by omega, by omega, rfl, ⟨_, rfl⟩, ⟨_, rfl⟩, ⟨_, rfl⟩, ⟨_, rfl⟩, ⟨_, rfl⟩, ⟨_, rfl⟩⟩⟩ (show nd - (i + 1) < nd - i by omega)
            intro z h2 _
            have h2' := h2 _ (.head _)
            simp [kstB, h2']
        · have hB := digB_not (b := b) (c := txt.cps.getD i 0) (by have e9 : i = nd := (by omega); subst e9; exact hstop hlt)
          k_steps
          (rename News _ _ _ _ => N9)
          (rename Fr _ _ _ _ => F9)
          exact ⟨⟨i, .str ⟨#[txt.cps.getD i 0]⟩ u0, vs, nn, .str txt u1, .int txt.length u2, .int ((i + 1 : Nat) : Int) u3, .int 0 u4, .int 0 u5, .int txt.length u6⟩, u', _, _, rfl, ⟨show i = nd by omega, hst, .inl ⟨hlt, ⟨_, rfl⟩, ⟨_, rfl⟩, ⟨_, rfl⟩, ⟨_, rfl⟩, ⟨_, rfl⟩, ⟨_, rfl⟩, ⟨_, rfl⟩⟩⟩, F9, N9⟩
      · dsimp only at hi hst hi0 e0 e1 e2 e3 e4 e5 e6
        subst e0 e1 e2 e3 e4 e5 e6
        dsimp only at F' N'
        have hvl : vs.length = i := by rw [StrsAre.length hst]; simp [figsJ]
        k_steps
        (rename News _ _ _ _ => N9)
        (rename Fr _ _ _ _ => F9)
        exact ⟨⟨i, .none, vs, nn, .str (Str.ofString "") u1, .int 0 u2, .int 0 u3, .int 0 u4, .int txt.length u5, .int txt.length u6⟩, u', _, _, rfl, ⟨hi0, hst, .inr ⟨hi0, hnl, rfl, ⟨_, rfl⟩, ⟨_, rfl⟩, ⟨_, rfl⟩, ⟨_, rfl⟩, ⟨_, rfl⟩, ⟨_, rfl⟩⟩⟩, F9, N9⟩
    case done =>
      obtain ⟨i, cv, vs, nn, ck, sz, of, pl, pc, pp⟩ := c'
      obtain ⟨hi, hst, hcase⟩ := hX'
      dsimp only at hi hst
      subst hi
      have hV0 : 0 ≤ V := by rw [hV]; exact Int.natCast_nonneg _
      have hV9 := hV
      dsimp only at F' N'
      k_with_none
      k_with "call builtin:str.join" => (k_dflt (refine' join_figs (txt := txt) ?l hst ?le hl2 ?_; (case l => is_list); (case le => omega); k_whole); intro tj kj)
      k_with "call type:int" => (k_dflt (refine int_head hb hnd2 hl2 hnd hdig hV9 ?_))
      iterate 20 (first | (k_unfold; (try dsimp only)) | (k_end; wrow_close) | walk1 | (dsimp only; walk1) | (leave1; walk_say "STEP leave1"; try dsimp only) | fail "no step")
      clear hV hV9
      refine' exec_cut (σ := CS) (fun c => (dx, sDict w k mo nl ds er ck sz of pl pc) :: (x, instObj 166 dx) :: (dds, xDict w j1 j2 (.str txt tt) pp) :: (ds, instObj 73 dds) :: (mo, methodObj (.ref 148) (.ref x)) :: (q, listOf c.its.toArray c.qn) :: (dT, tDict w kt x lf st q) :: (T, instObj 762 dT) :: (c.ext ++ own)) (fun c => [(Str.ofString "char", .str (signOf V) c.t)]) [] (MidOk w V q own [dx, x, dds, ds, mo, q, dT, T]) (by assumption) ?mid (fun c' u' h' tk' hM F' N' => ?fin)
      case mid =>
        by_cases hT : ToldP V
        · by_cases hR : replB V = true
          · k_steps
            (rename News _ _ _ _ => N9); (rename Fr _ _ _ _ => F9)
            (rename (_ ∧ _) => l9); revert l9; (rename (_ ∧ _) => l8); intro l9; refine cut_end ⟨[.ref _], qn + 1, [(_, _), (_, _)], _⟩ F9 (news_told N9) (fun _ h => h) (midOk_told hT l8 l9 (by assumption) (by assumption) ⟨_, _, by assumption⟩ ⟨_, _, _, _, _, by assumption⟩ hoff) (List.forall_mem_cons.mpr ⟨by rw [sign_repl hR]; with_unfolding_all rfl, List.forall_mem_nil _⟩) ?_; (intro z h2 _; have h2' := h2 _ (.head _); simp [h2'])
          · have hR' := replB_not.mp (Bool.eq_false_iff.mpr hR)
            (first | (k_unfold; (try dsimp only)) | (k_end; wrow_close) | walk1 | (dsimp only; walk1) | (leave1; walk_say "STEP leave1"; try dsimp only) | fail "no step")
            iterate 8 (first | (k_unfold; (try dsimp only)) | (k_end; wrow_close) | walk1 | (dsimp only; walk1) | (leave1; walk_say "STEP leave1"; try dsimp only) | fail "no step")
            refine wpAny_If ?_
            by_cases hS : (55296 ≤ V ∧ V ≤ 57343) ∨ V > 1114111
            · refine exec_cut1 true (by assumption) (by assumption) ?tst (fun h' tk' F' N' => ?bod)
              case tst =>
                k_steps
                all_goals first | assumption | exact ⟨rfl, _, _, rfl, by assumption, by assumption⟩
              case bod =>
                rw [if_pos rfl]
                k_steps
                (rename News _ _ _ _ => N9); (rename Fr _ _ _ _ => F9)
                (rename (_ ∧ _) => l9); revert l9; (rename (_ ∧ _) => l8); intro l9; refine cut_end ⟨[.ref _], qn + 1, [(_, _), (_, _)], _⟩ F9 (news_told N9) (fun _ h => h) (midOk_told hT l8 l9 (by assumption) (by assumption) ⟨_, _, by assumption⟩ ⟨_, _, _, _, _, by assumption⟩ hoff) (List.forall_mem_cons.mpr ⟨by rw [sign_sur hR' hS]; with_unfolding_all rfl, List.forall_mem_nil _⟩) ?_; (intro z h2 _; have h2' := h2 _ (.head _); simp [h2'])
            · refine exec_cut1 false (by assumption) (by assumption) ?tst (fun h' tk' F' N' => ?bod)
              case tst =>
                k_steps
                all_goals first | assumption | exact ⟨rfl, _, _, rfl, by assumption, by assumption⟩
              case bod =>
                rw [if_neg Bool.false_ne_true]
                iterate 1 (first | (k_unfold; (try dsimp only)) | (k_end; wrow_close) | walk1 | (dsimp only; walk1) | (leave1; walk_say "STEP leave1"; try dsimp only) | fail "no step")
                refine wpAny_If ?_
                refine exec_cut1 true (by assumption) (by assumption) ?tst (fun h' tk' F' N' => ?bod)
                case tst =>
                  rcases told_cases hV0 hT hR' hS with hc | hc | hc | hc | ⟨hc, hcb⟩ | ⟨hc, hc1, hcb⟩
                  all_goals (k_steps; all_goals (first | assumption | ((rename News _ _ _ _ => N9); exact fun p hp => N9 p (List.Mem.tail _ hp))))
                case bod =>
                  rw [if_pos rfl]
                  k_steps
                  (rename News _ _ _ _ => N9); (rename Fr _ _ _ _ => F9)
                  (rename (_ ∧ _) => l9); revert l9; (rename (_ ∧ _) => l8); intro l9; refine cut_end ⟨[.ref _], qn + 1, [(_, _), (_, _)], _⟩ F9 (news_told N9) (fun _ h => h) (midOk_told hT l8 l9 (by assumption) (by assumption) ⟨_, _, by assumption⟩ ⟨_, _, _, _, _, by assumption⟩ hoff) (List.forall_mem_cons.mpr ⟨by rw [sign_chr hR' hS]; with_unfolding_all rfl, List.forall_mem_nil _⟩) ?_; (intro z h2 _; have h2' := h2 _ (.head _); simp [h2'])
        · obtain ⟨hFr, hFb, hR2, hS, hV2⟩ := free_cases hV0 hT
          (first | (k_unfold; (try dsimp only)) | (k_end; wrow_close) | walk1 | (dsimp only; walk1) | (leave1; walk_say "STEP leave1"; try dsimp only) | fail "no step")
          iterate 8 (first | (k_unfold; (try dsimp only)) | (k_end; wrow_close) | walk1 | (dsimp only; walk1) | (leave1; walk_say "STEP leave1"; try dsimp only) | fail "no step")
          refine wpAny_If ?_
          refine exec_cut1 false (by assumption) (by assumption) ?tst0 (fun h' tk' F' N' => ?bod0)
          case tst0 =>
            k_steps
            all_goals first | assumption | exact ⟨rfl, _, _, rfl, by assumption, by assumption⟩
          rw [if_neg Bool.false_ne_true]
          iterate 1 (first | (k_unfold; (try dsimp only)) | (k_end; wrow_close) | walk1 | (dsimp only; walk1) | (leave1; walk_say "STEP leave1"; try dsimp only) | fail "no step")
          refine wpAny_If ?_
          refine exec_cut1 false (by assumption) (by assumption) ?tst (fun h' tk' F' N' => ?bod)
          case tst =>
            rcases hFr with hc | hc | hc | hc | hc | hc | hc
            all_goals (k_steps; all_goals (first | assumption | ((rename News _ _ _ _ => N9); exact fun p hp => N9 p (List.Mem.tail _ hp))))
          case bod =>
            rw [if_neg Bool.false_ne_true]
            k_steps
            (rename News _ _ _ _ => N9); (rename Fr _ _ _ _ => F9)
            refine cut_end ⟨[], qn, [], _⟩ F9 (news_no5 N9) (fun _ h => h) (midOk_free hT hoff) (List.forall_mem_cons.mpr ⟨by rw [sign_chr (replB_not.mp hR2) hS]; with_unfolding_all rfl, List.forall_mem_nil _⟩) ?_
            intro z h2 _
            have h2' := h2 _ (.head _)
            simp [h2']
      case fin =>
        obtain ⟨its, qn', ext, tch⟩ := c'
        obtain ⟨hM1, hoff8⟩ := hM
        dsimp only at F' N' hM1 hoff8
        have hvz := hM1.short
        generalize hown : ext ++ own = own2 at N' hoff8
        k_with_none
        by_cases hsm : semiB txt i = true
        · have hs := semi_yes hsm
          have hS9 := semi_eq hs.2
          rcases hcase with ⟨hlt, ⟨u0, e0⟩, ⟨u1, e1⟩, ⟨u2, e2⟩, ⟨u3, e3⟩, ⟨u4, e4⟩, ⟨u5, e5⟩, ⟨u6, e6⟩⟩ | hc
          · dsimp only at hlt e0 e1 e2 e3 e4 e5 e6
            subst e0 e1 e2 e3 e4 e5 e6
            k_steps
            subst hown
            (rename News _ _ _ _ => N9); (rename Fr _ _ _ _ => F9)
            exact ret _ _ _ its _ ext txt (i + 1) 0 _ _ _ _ _ _ (by rw [hsm]; exact Que.y hM1) hno10 hlt hl2 (by omega) (by rw [hsm]; simp) (by rw [hsm]; rfl) F9 N9
          · have := hc.2.1
            omega
        · have hsm2 : semiB txt i = false := Bool.eq_false_iff.mpr hsm
          iterate 1 (first | (k_unfold; (try dsimp only)) | (k_end; wrow_close) | walk1 | (dsimp only; walk1) | (leave1; walk_say "STEP leave1"; try dsimp only) | fail "no step")
          refine wpAny_If ?_
          refine exec_cut1 true (by assumption) (by assumption) ?tst (fun h' tk' F' N' => ?bod)
          case tst =>
            rcases hcase with hc | hc
            · have h59 := semi_not hsm2 hc.1
              obtain ⟨u0, e0⟩ := hc.2.1
              dsimp only at e0
              subst e0
              have hS9 := semi_ne h59
              k_steps
              all_goals first | assumption | exact ⟨rfl, _, _, rfl, by assumption, by assumption⟩
            · have e0 := hc.2.2.1
              dsimp only at e0
              subst e0
              k_steps
              all_goals first | assumption | exact ⟨rfl, _, _, rfl, by assumption, by assumption⟩
          case bod =>
            rw [if_pos rfl]
            iterate 22 (first | (k_unfold; (try dsimp only)) | (k_end; wrow_close) | walk1 | (dsimp only; walk1) | (leave1; walk_say "STEP leave1"; try dsimp only) | fail "no step")
            (first | (k_unfold; (try dsimp only)) | (k_end; wrow_close) | walk1 | (dsimp only; walk1) | (leave1; walk_say "STEP leave1"; try dsimp only) | fail "no step")
            iterate 12 (first | (k_unfold; (try dsimp only)) | (k_end; wrow_close) | walk1 | (dsimp only; walk1) | (leave1; walk_say "STEP leave1"; try dsimp only) | fail "no step")
            (rename (_ ∧ _) => l8)
            rcases hcase with ⟨hlt, ⟨u0, e0⟩, ⟨u1, e1⟩, ⟨u2, e2⟩, ⟨u3, e3⟩, ⟨u4, e4⟩, ⟨u5, e5⟩, ⟨u6, e6⟩⟩ | ⟨-, hnl, e0, ⟨u1, e1⟩, ⟨u2, e2⟩, ⟨u3, e3⟩, ⟨u4, e4⟩, ⟨u5, e5⟩, ⟨u6, e6⟩⟩
            · dsimp only at hlt e0 e1 e2 e3 e4 e5 e6
              subst e0 e1 e2 e3 e4 e5 e6
              have hz1 : (0 : Int) ≤ ((i + 1 : Nat) : Int) - 1 := by omega
              have hz2 : ((i + 1 : Nat) : Int) - 1 < (txt.length : Int) := by omega
              have hz3 : (Txt.item txt (((i + 1 : Nat) : Int) - 1) == ⟨#[txt.cps.getD i 0]⟩) = true := by
                rw [show ((i + 1 : Nat) : Int) - 1 = (i : Int) by omega, item_nat hlt]; simp
              k_with "subscriptTail" => (k_dflt (refine KXi.item (n := txt.length) rfl (by omega) hz2 (by omega) ?_); intro kxiE)
              k_steps
              subst hown
              (rename News _ _ _ _ => N9); (rename Fr _ _ _ _ => F9)
              (try simp only [List.push_toArray] at N9)
              rw [show ((i + 1 : Nat) : Int) - 1 = (i : Int) by omega] at N9
              exact ret _ _ _ (its ++ [.ref _]) _ ((_, _) :: ext) txt i 0 _ _ _ _ _ _ (by rw [hsm2]; exact Que.n hM1 l8.2.2.2.2.2.1 (allLt_app l8.2.2.2.2.2.2.2.2) (by assumption) ⟨_, _, _, _, by assumption⟩) hno10 hnd2 hl2 (by omega) (by rw [hsm2]; simp) (by rw [hsm2]; rfl) F9 (news_back N9)
            · dsimp only at e0 e1 e2 e3 e4 e5 e6
              subst e0 e1 e2 e3 e4 e5 e6
              k_steps
              subst hown
              (rename News _ _ _ _ => N9); (rename Fr _ _ _ _ => F9)
              (try simp only [List.push_toArray] at N9)
              exact ret _ _ _ (its ++ [.ref _]) _ ((_, _) :: ext) (Str.ofString "") 0 txt.length _ _ _ _ _ _ (by rw [hsm2]; exact Que.n hM1 l8.2.2.2.2.2.1 (allLt_app l8.2.2.2.2.2.2.2.2) (by assumption) ⟨_, _, _, _, by assumption⟩) (by decide +kernel) (Nat.zero_le _) (by decide +kernel) hl2 (by rw [hsm2, hnl]; rfl) (by rw [hsm2]; exact slice_eof hnl) F9 (news_back N9)
end Mine
end

section
open PySem PySem.W PyProof.Rows
set_option Elab.async false
set_option rowWalk.seconds 0
set_option maxRecDepth 100000
set_option maxHeartbeats 8000000
set_option linter.unusedVariables false
namespace Mine
local macro_rules | `(tactic| k_room) => `(tactic| ktr_room)
local macro_rules | `(tactic| k_units) => `(tactic| ktr_units)
local macro_rules | `(tactic| k_enter) => `(tactic| (refine' code_def ?k1 ?k2 ?k3 ?k4 ?k5 ?kA ?kF ?kK ?k6 ?k7 ?k8 ?k9 ?kB ?_ ?c2 ?c3 ?c4 ?c5; (case kA => exact rfl); (case kF => exact rfl); (case kK => first | exact rfl | assumption); (case k1 => k_asm); (case k2 => k_asm); (case k3 => k_asm); (case k4 => k_asm); (case k5 => k_asm); (case k6 => k_is); (case k7 => k_is); (case k8 => ktr_room); (case k9 => first | exact BindsTo.of_eq rfl | exact binds_K (by k_in) rfl (by k_is) rfl rfl rfl | fail "k_enter: no rule for these arguments"); (case c5 => decide); (case kB => exact locs rfl); (case c2 => exact rfl); (case c3 => exact rfl); (case c4 => exact rfl); k_whole; intro g' L' h' FG' F' N' B' X' T'; (try dsimp only); (try k_lift B'); (try k_fold)))
local macro_rules | `(tactic| walk_at "ite") => `(tactic| first | (refine ite_neg (by (simp only [List.any_cons, List.any_nil, Bool.or_false, Bool.or_eq_true, Bool.not_eq_true', bne_iff_ne, bne_eq_false_iff_eq, ne_eq, beq_iff_eq, decide_eq_true_eq, Int.fmod_eq_emod_of_nonneg, Int.fdiv_eq_ediv_of_nonneg, Int.reduceLE]); omega) ?_) | (refine ite_pos (by (simp only [List.any_cons, List.any_nil, Bool.or_false, Bool.or_eq_true, Bool.not_eq_true', bne_iff_ne, bne_eq_false_iff_eq, ne_eq, beq_iff_eq, decide_eq_true_eq, Int.fmod_eq_emod_of_nonneg, Int.fdiv_eq_ediv_of_nonneg, Int.reduceLE]); omega) ?_))
local macro_rules | `(tactic| walk_at "compareOp In int ref") => `(tactic| ((with_reducible show wpAny _ _ (compareOp CmpOp.In (Value.int _ _) (Value.ref _)) _ _ _); k_dflt (refine' in_tuple_ints ?t ?i ?_; (case t => exact News.isTup (by k_asm) (by k_mem)); (case i => (repeat constructor)))))
local macro_rules | `(tactic| walk_at "compareOp NotIn int ref") => `(tactic| ((with_reducible show wpAny _ _ (compareOp CmpOp.NotIn (Value.int _ _) (Value.ref _)) _ _ _); k_dflt (refine' notin_tuple_ints ?t ?i ?_; (case t => exact News.isTup (by k_asm) (by k_mem)); (case i => (repeat constructor)))))

local macro_rules | `(tactic| walk_at "call builtin:str.count") => `(tactic| (refine count4 (c := 10) (by decide) (by first | assumption | decide) ?_))
local macro_rules | `(tactic| walk_at "call builtin:str.rfind") => `(tactic| (refine rfind4 (c := 10) (by decide) (by first | assumption | decide) ?_))

theorem news_drop2 {h₀ h : Heap} {L : Addr} {e0 e1 : Addr × Obj} {r : List (Addr × Obj)} (N : News h₀ L h (e0 :: e1 :: r)) : News h₀ L h (e0 :: r) := by
  intro p hp
  refine N p ?_
  cases hp with
  | head => exact .head _
  | tail _ h => exact .tail _ (.tail _ h)
theorem pos_is {w : World} {p : Program} {loose : List Str} {mean : ExcName → Option Value} {mg mb : Str → Option Value} {dp un : Nat} {gd : Option (List Code)} {cn : Str} {cs : Scope} {a : Addr} {ccd : Value} {cl : List (Str × Addr)} {outer : List Env} {A₀ : Around} {base h₀ : Heap} {L : Addr} {m : Str → Option Value} {s : Shared} {Q E : Value → Shared → Prop}
   {x dx mo nl ds er : Addr} {k : SK} {chunk : Str} {tc : Tok} {size : Int} {ts : Tok} {off : Int} {to tpl : Tok} {pc : Int} {tpc : Tok} {own : List (Addr × Obj)}
   (B : Below A₀ base outer h₀) (F : Fr h₀ L s.heap m) (X : (hd.heap_39 w.params).In h₀) (N : News h₀ L s.heap ((dx, sDict w k mo nl ds er (.str chunk tc) (.int size ts) (.int off to) (.int 0 tpl) (.int pc tpc)) :: (x, instObj 166 dx) :: own)) (T : Top p loose mean mg mb h₀) (hk : cs.kind = .function) (hdp : dp ≤ 530) (hun : un ≤ 530)
   (hoff : OwnOff own [dx, x]) (hne : dx < x) (h0 : 0 ≤ off) (h1 : off ≤ 1000) (h2 : 0 ≤ pc) (h3 : pc ≤ 1000) (h6 : 10 ∉ chunk.cps.toList)
   (ret : ∀ h' tk' r t1 t2, (dx < r ∧ x < r ∧ AllLt r own) → Fr h₀ L h' m → News h₀ L h' ((r, { cls := .type "tuple", data := .seq #[.int 1 t1, .int (pc + off) t2] }) :: (dx, sDict w k mo nl ds er (.str chunk tc) (.int size ts) (.int off to) (.int 0 tpl) (.int pc tpc)) :: (x, instObj 166 dx) :: own) → Q (.ref r) { s with heap := h', toks := tk' })
   : wpAny (model Challenge.rw_qy0005_08.row.prog w) (ktrTop dp un gd cn cs L a ccd cl outer) (call (.ref 126) [.ref x]) Q E s := by
  revert X
  k_fill
  intro X
  w_on

  replace hne := ltN hne
  refine wpAny_call ?_
  k_dflt k_enter
  k_steps
  (rename News _ _ _ _ => N9)
  (rename Fr _ _ _ _ => F9)
  (rename (_ ∧ _) => l9)
  exact ret _ _ _ _ _ l9.2 F9 (news_drop2 N9)
end Mine
end

section
open PySem PySem.W PyProof.Rows
set_option Elab.async false
set_option rowWalk.seconds 0
set_option maxRecDepth 100000
set_option maxHeartbeats 8000000
set_option linter.unusedVariables false
namespace Mine
local macro_rules | `(tactic| k_room) => `(tactic| ktr_room)
local macro_rules | `(tactic| k_units) => `(tactic| ktr_units)
local macro_rules | `(tactic| k_enter) => `(tactic| (refine' code_def ?k1 ?k2 ?k3 ?k4 ?k5 ?kA ?kF ?kK ?k6 ?k7 ?k8 ?k9 ?kB ?_ ?c2 ?c3 ?c4 ?c5; (case kA => exact rfl); (case kF => exact rfl); (case kK => first | exact rfl | assumption); (case k1 => k_asm); (case k2 => k_asm); (case k3 => k_asm); (case k4 => k_asm); (case k5 => k_asm); (case k6 => k_is); (case k7 => k_is); (case k8 => ktr_room); (case k9 => first | exact BindsTo.of_eq rfl | exact binds_K (by k_in) rfl (by k_is) rfl rfl rfl | fail "k_enter: no rule for these arguments"); (case c5 => decide); (case kB => exact locs rfl); (case c2 => exact rfl); (case c3 => exact rfl); (case c4 => exact rfl); k_whole; intro g' L' h' FG' F' N' B' X' T'; (try dsimp only); (try k_lift B'); (try k_fold)))
local macro_rules | `(tactic| walk_at "no such key") => `(tactic| fail)
local macro_rules | `(tactic| walk_at "ite") => `(tactic| first | (refine ite_neg (by (simp only [List.any_cons, List.any_nil, Bool.or_false, Bool.or_eq_true, Bool.not_eq_true', bne_iff_ne, bne_eq_false_iff_eq, ne_eq, beq_iff_eq, decide_eq_true_eq, Int.fmod_eq_emod_of_nonneg, Int.fdiv_eq_ediv_of_nonneg, Int.reduceLE]); omega) ?_) | (refine ite_pos (by (simp only [List.any_cons, List.any_nil, Bool.or_false, Bool.or_eq_true, Bool.not_eq_true', bne_iff_ne, bne_eq_false_iff_eq, ne_eq, beq_iff_eq, decide_eq_true_eq, Int.fmod_eq_emod_of_nonneg, Int.fdiv_eq_ediv_of_nonneg, Int.reduceLE]); omega) ?_))
local macro_rules | `(tactic| walk_at "compareOp In int ref") => `(tactic| ((with_reducible show wpAny _ _ (compareOp CmpOp.In (Value.int _ _) (Value.ref _)) _ _ _); k_dflt (refine' in_tuple_ints ?t ?i ?_; (case t => exact News.isTup (by k_asm) (by k_mem)); (case i => (repeat constructor)))))
local macro_rules | `(tactic| walk_at "compareOp NotIn int ref") => `(tactic| ((with_reducible show wpAny _ _ (compareOp CmpOp.NotIn (Value.int _ _) (Value.ref _)) _ _ _); k_dflt (refine' notin_tuple_ints ?t ?i ?_; (case t => exact News.isTup (by k_asm) (by k_mem)); (case i => (repeat constructor)))))

theorem in_empty {prog : Program} {w : World} {A : Around} {E : Value → Shared → Prop} {s : Shared} {h₀ : Heap} {L ch : Addr} {news : List (Addr × Obj)} {x : Str} {t : Tok} {Q : Value → Shared → Prop} (N : News h₀ L s.heap news) (hq : (ch, ({ cls := .type "tuple", data := .seq #[] } : Obj)) ∈ news) (h : Q (.bool false) s) :
    wpAny (model prog w) A (compareOp .In (.str x t) (.ref ch)) Q E s := in_tuple_strs (News.isTup N hq) .nil h
theorem join_single (x : Str) : Txt.join (Str.ofString "") [x] = x := by
  have e : (Txt.join (Str.ofString "") [x]).cps.toList = x.cps.toList := by
    show (Builtin.Str.glued (Str.ofString "") [x]).cps.toList = _
    rw [glued_nil]; simp
  have e2 := Array.ext' e
  cases hh : Txt.join (Str.ofString "") [x] with
  | mk c => rw [hh] at e2; simp only at e2; rw [e2]
theorem slice_le {x : Str} {l : Option Int} (h : x.length ≤ 100) : (Txt.slice x l none).length ≤ 100 := Nat.le_trans (Txt.slice_le _ _ _) h
theorem join_one {prog : Program} {w : World} {A : Around} {E : Value → Shared → Prop} {s : Shared} {h₀ : Heap} {L D : Addr} {news : List (Addr × Obj)} {x : Str} {t u : Tok} {n : Nat} {Q : Value → Shared → Prop} (N : News h₀ L s.heap news) (hm : (D, listOf (#[].push (.str x t)) n) ∈ news) (hz : x.length ≤ 100)
    (h : ∀ t' k, Q (.str x t') { s with toks := k }) : wpAny (model prog w) A (call (.builtin "str.join") [.str (Str.ofString "") u, .ref D]) Q E s := by
  have hl : s.heap.IsList D [.str x t].toArray := News.isList N hm
  refine join_list hl (StrsAre.cons x t .nil) ?_ (fun t' k => ?_)
  · have e : (Str.ofString "").length = 0 := by decide
    simp [e]; omega
  · rw [join_single]; exact h t' k
theorem news_1st4 {h₀ h : Heap} {L : Addr} {e0 e1 e2 e3 e4 : Addr × Obj} {r : List (Addr × Obj)} (N : News h₀ L h (e0 :: e1 :: e2 :: e3 :: e4 :: r)) : News h₀ L h (e1 :: e2 :: e3 :: e4 :: e0 :: r) := by
  intro p hp
  refine N p ?_
  simp only [List.mem_cons] at hp ⊢
  rcases hp with h | h | h | h | h | h <;> simp [h]
theorem off_conj4 {d dx x dds ds : Addr} {own : List (Addr × Obj)} (h : dx < d ∧ x < d ∧ dds < d ∧ ds < d ∧ AllLt d own) : ∀ b ∈ [dx, x, dds, ds], d ≠ b := by
  obtain ⟨h1, h2, h3, h4, -⟩ := h
  intro b hb
  simp only [List.mem_cons, List.not_mem_nil, or_false] at hb
  rcases hb with rfl | rfl | rfl | rfl <;> exact Nat.ne_of_gt (by assumption)
local macro_rules | `(tactic| walk_at "ite") => `(tactic| (refine ite_neg (by simp; done) ?_))
local macro_rules | `(tactic| walk_at "call builtin:list.append") => `(tactic| (k_here; k_dflt (refine' append_K ?k1 ?k2 ?k3 ?_ ?z; (case k1 => k_asm); (case k2 => k_asm); (case k3 => k_upd); (case z => first | assumption | (simp only [List.size_toArray, List.length_cons, List.length_nil, sizeLine_eq]; omega)); k_whole); intro h' F' N'; (try k_sweep)))
theorem chars {w : World} {p : Program} {loose : List Str} {mean : ExcName → Option Value} {mg mb : Str → Option Value} {dp un : Nat} {gd : Option (List Code)} {cn : Str} {cs : Scope} {a : Addr} {ccd : Value} {cl : List (Str × Addr)} {outer : List Env} {A₀ : Around} {base h₀ : Heap} {L : Addr} {m : Str → Option Value} {s : Shared} {Q E : Value → Shared → Prop}
   {x dx mo nl ds dds er ch : Addr} {k : SK} {ck : Str} {tc ts : Tok} {off : Nat} {to tpl : Tok} {pc : Nat} {tpc : Tok} {j1 j2 : Tok} {txt : Str} {tt tp : Tok} {own : List (Addr × Obj)}
   (B : Below A₀ base outer h₀) (F : Fr h₀ L s.heap m) (X : (hd.heap_39 w.params).In h₀) (N : News h₀ L s.heap ((dx, sDict w k mo nl ds er (.str ck tc) (.int ck.length ts) (.int (off : Int) to) (.int 0 tpl) (.int (pc : Int) tpc)) :: (x, instObj 166 dx) :: (dds, xDict w j1 j2 (.str txt tt) (.int txt.length tp)) :: (ds, instObj 73 dds) :: own)) (T : Top p loose mean mg mb h₀) (hk : cs.kind = .function) (hdp : dp ≤ 520) (hun : un ≤ 520)
   (hch : (ch, ({ cls := .type "tuple", data := .seq #[] } : Obj)) ∈ own)
   (hoff : OwnOff own [dx, x, dds, ds]) (o2 : dx < x) (o3 : x < dds) (o5 : dds < ds)
   (h10 : 10 ∉ ck.cps.toList) (hl1 : off ≤ ck.length) (hl2 : ck.length ≤ 100) (hl3 : pc ≤ 100) (hl4 : txt.length ≤ 100)
   (ret : ∀ h' tk' t1, Fr h₀ L h' m → News h₀ L h' own → Q (.str (Txt.slice ck (some (off : Int)) none) t1) { s with heap := h', toks := tk' })
   : wpAny (model Challenge.rw_qy0005_08.row.prog w) (ktrTop dp un gd cn cs L a ccd cl outer) (call (.ref 156) [.ref x, .ref ch]) Q E s := by
  revert X
  k_fill
  intro X
  w_on
  k_with_none
  replace o2 := ltN o2
  replace o3 := ltN o3
  replace o5 := ltN o5
  have hch5 : ∀ e : Addr × Obj, (ch, ({ cls := .type "tuple", data := .seq #[] } : Obj)) ∈ e :: (dx, sDict w k mo nl ds er (.str ck tc) (.int ck.length ts) (.int (off : Int) to) (.int 0 tpl) (.int (pc : Int) tpc)) :: (x, instObj 166 dx) :: (dds, xDict w j1 j2 (.str txt tt) (.int txt.length tp)) :: (ds, instObj 73 dds) :: own := fun e => .tail _ (.tail _ (.tail _ (.tail _ (.tail _ hch))))
  refine wpAny_call ?_
  k_dflt k_enter
  iterate 8 (first | (k_unfold; (try dsimp only)) | (k_end; wrow_close) | walk1 | (dsimp only; walk1) | (leave1; walk_say "STEP leave1"; try dsimp only) | fail "no step")
  (rename Addr => stk)
  (first | (k_unfold; (try dsimp only)) | (k_end; wrow_close) | walk1 | (dsimp only; walk1) | (leave1; walk_say "STEP leave1"; try dsimp only) | fail "no step")
  iterate 13 (first | (k_unfold; (try dsimp only)) | (k_end; wrow_close) | walk1 | (dsimp only; walk1) | (leave1; walk_say "STEP leave1"; try dsimp only) | fail "no step")
  refine' while_cut (σ := Nat × Tok) (fun c => (stk, listOf #[] 0) :: (dx, sDict w k mo nl ds er (.str ck tc) (.int ck.length ts) (.int (off : Int) to) (.int 0 tpl) (.int (pc : Int) tpc)) :: (x, instObj 166 dx) :: (dds, xDict w j1 j2 (.str txt tt) (.int txt.length tp)) :: (ds, instObj 73 dds) :: own) (fun c => [(Str.ofString "end", .int (c.1 : Int) c.2)]) [] (fun c => off ≤ c.1 ∧ c.1 ≤ ck.length) (fun c => c.1 = ck.length) (fun c => ck.length - c.1) ⟨off, _⟩ (by assumption) (by assumption) (List.forall_mem_cons.mpr ⟨by with_unfolding_all rfl, List.forall_mem_nil _⟩) ⟨Nat.le_refl _, hl1⟩ (fun c' u' h' tk' hP' F' N' => ?turn) (fun c' u' h' tk' hX' F' N' => ?done)
  case turn =>
    obtain ⟨j, tj⟩ := c'
    obtain ⟨hj1, hj2⟩ := hP'
    dsimp only at hj1 hj2 F' N'
    by_cases hj : j = ck.length
    · k_steps
      (rename News _ _ _ _ => N9); (rename Fr _ _ _ _ => F9)
      exact ⟨⟨j, tj⟩, u', _, _, rfl, hj, F9, N9⟩
    · have hz2 : (j : Int) < (ck.length : Int) := by omega
      k_with "subscriptTail" => (k_dflt (refine KXi.item (n := ck.length) rfl (by omega) hz2 (by omega) ?_); intro kxiE)
      k_with "compareOp In str ref" => (k_dflt (refine' in_empty ?N (hch5 _) ?_; (case N => k_asm); k_whole))
      k_steps
      (rename News _ _ _ _ => N9); (rename Fr _ _ _ _ => F9)
      refine ksw_end ⟨j + 1, _⟩ F9 N9 (fun _ h => h) trivial (List.forall_mem_cons.mpr ⟨by with_unfolding_all rfl, List.forall_mem_nil _⟩) ?_ ⟨by dsimp only; omega, by dsimp only; omega⟩ (show ck.length - (j + 1) < ck.length - j by omega)
      intro z h2 _
      have h2' := h2 _ (.head _)
      simp [kstB, h2']
  case done =>
    obtain ⟨j, tj⟩ := c'
    dsimp only at hX' F' N'
    subst hX'
    k_with_none
    iterate 1 (first | (k_unfold; (try dsimp only)) | (k_end; wrow_close) | walk1 | (dsimp only; walk1) | (leave1; walk_say "STEP leave1"; try dsimp only) | fail "no step")
    refine' exec_cut (σ := Unit) (fun _ => (stk, listOf #[] 0) :: (dx, sDict w k mo nl ds er (.str ck tc) (.int ck.length ts) (.int (off : Int) to) (.int 0 tpl) (.int (pc : Int) tpc)) :: (x, instObj 166 dx) :: (dds, xDict w j1 j2 (.str txt tt) (.int txt.length tp)) :: (ds, instObj 73 dds) :: own) (fun _ => []) [] (fun _ => True) (by assumption) ?one (fun c' u' h' tk' hal F' N' => ?rest)
    case one =>
      by_cases he : ck.length = off
      · k_steps
        (rename News _ _ _ _ => N9); (rename Fr _ _ _ _ => F9)
        exact cut_end () F9 N9 (fun _ h => h) trivial (List.forall_mem_nil _) (fun z _ _ => rfl)
      · k_steps
        (rename News _ _ _ _ => N9); (rename Fr _ _ _ _ => F9)
        exact cut_end () F9 N9 (fun _ h => h) trivial (List.forall_mem_nil _) (fun z _ _ => rfl)
    case rest =>
      k_with "subscriptTail" => ((with_reducible rename Fr _ _ _ _ => F'); (with_reducible rename News _ _ _ _ => N'); (refine slice_strN_sn (hsz := ?hsz) (s := ⟨_, _, _, _, _⟩) F' N' ?_); (case hsz => (rw [sizeLine_eq]; omega)); intro _ _ _ _ _)
      iterate 20 (first | (k_unfold; (try dsimp only)) | (k_end; wrow_close) | walk1 | (dsimp only; walk1) | (leave1; walk_say "STEP leave1"; try dsimp only) | fail "no step")
      k_with "call ref" => (k_dflt ((show wpAny _ _ (call (Value.ref 141) _) _ _ _); refine' read_eof ?B ?F ?X ?N ?T ?hk ?e0 o2 o3 o5 ?hdp ?hun rfl ?h3 rfl ?h5 h10 ?_; (case B => k_asm); (case F => k_asm); (case X => k_asm); (case N => exact news_1st4 (by assumption)); (case T => k_asm); (case hk => exact rfl); (case hdp => ((try simp only [depth_under_make, depth_under_kw, depth_in1, depth_deeper, units_in1, units_deeper, Around.mark_units] at *); (try dsimp only [ktrTop] at *); omega)); (case hun => ((try simp only [depth_under_make, depth_under_kw, depth_in1, depth_deeper, units_in1, units_deeper, Around.mark_units] at *); (try dsimp only [ktrTop] at *); omega)); (case e0 => exact off_cons2 (off_conj4 (by assumption)) hoff); (case h3 => omega); (case h5 => omega); k_whole); intro h' tk' t1' t2' t3' t4' t5' t6' F' N'; (try k_sweep))
      (first | (k_unfold; (try dsimp only)) | (k_end; wrow_close) | walk1 | (dsimp only; walk1) | (leave1; walk_say "STEP leave1"; try dsimp only) | fail "no step")
      k_with "call builtin:str.join" => (k_dflt (refine' join_one ?N ?m ?z ?_; (case N => k_asm); (case m => k_mem); (case z => exact slice_le hl2); k_whole); intro tj kj)
      k_steps
      (rename News _ _ _ _ => N9); (rename Fr _ _ _ _ => F9)
      exact ret _ _ _ F9 (fun p hp => N9 p (.tail _ (.tail _ (.tail _ (.tail _ (.tail _ hp))))))
end Mine
end

section
open PySem PySem.W PyProof.Rows
set_option Elab.async false
set_option rowWalk.seconds 0
set_option maxRecDepth 100000
set_option maxHeartbeats 8000000
set_option linter.unusedVariables false
namespace Mine
local macro_rules | `(tactic| k_room) => `(tactic| ktr_room)
local macro_rules | `(tactic| k_units) => `(tactic| ktr_units)
local macro_rules | `(tactic| k_enter) => `(tactic| (refine' code_def ?k1 ?k2 ?k3 ?k4 ?k5 ?kA ?kF ?kK ?k6 ?k7 ?k8 ?k9 ?kB ?_ ?c2 ?c3 ?c4 ?c5; (case kA => exact rfl); (case kF => exact rfl); (case kK => first | exact rfl | assumption); (case k1 => k_asm); (case k2 => k_asm); (case k3 => k_asm); (case k4 => k_asm); (case k5 => k_asm); (case k6 => k_is); (case k7 => k_is); (case k8 => ktr_room); (case k9 => first | exact BindsTo.of_eq rfl | exact binds_K (by k_in) rfl (by k_is) rfl rfl rfl | fail "k_enter: no rule for these arguments"); (case c5 => decide); (case kB => exact locs rfl); (case c2 => exact rfl); (case c3 => exact rfl); (case c4 => exact rfl); k_whole; intro g' L' h' FG' F' N' B' X' T'; (try dsimp only); (try k_lift B'); (try k_fold)))
local macro_rules | `(tactic| walk_at "ite") => `(tactic| first | (refine ite_neg (by (simp only [List.any_cons, List.any_nil, Bool.or_false, Bool.or_eq_true, Bool.not_eq_true', bne_iff_ne, bne_eq_false_iff_eq, ne_eq, beq_iff_eq, decide_eq_true_eq, Int.fmod_eq_emod_of_nonneg, Int.fdiv_eq_ediv_of_nonneg, Int.reduceLE]); omega) ?_) | (refine ite_pos (by (simp only [List.any_cons, List.any_nil, Bool.or_false, Bool.or_eq_true, Bool.not_eq_true', bne_iff_ne, bne_eq_false_iff_eq, ne_eq, beq_iff_eq, decide_eq_true_eq, Int.fmod_eq_emod_of_nonneg, Int.fdiv_eq_ediv_of_nonneg, Int.reduceLE]); omega) ?_))
local macro_rules | `(tactic| walk_at "compareOp In int ref") => `(tactic| ((with_reducible show wpAny _ _ (compareOp CmpOp.In (Value.int _ _) (Value.ref _)) _ _ _); k_dflt (refine' in_tuple_ints ?t ?i ?_; (case t => exact News.isTup (by k_asm) (by k_mem)); (case i => (repeat constructor)))))
local macro_rules | `(tactic| walk_at "compareOp NotIn int ref") => `(tactic| ((with_reducible show wpAny _ _ (compareOp CmpOp.NotIn (Value.int _ _) (Value.ref _)) _ _ _); k_dflt (refine' notin_tuple_ints ?t ?i ?_; (case t => exact News.isTup (by k_asm) (by k_mem)); (case i => (repeat constructor)))))

local macro_rules | `(tactic| walk_at "subscriptTail Name BinOp str int") => `(tactic| (k_dflt (refine KXi.item (n := 32) (by decide +kernel) (by omega) (by omega) (by decide) ?_); intro kxiE))
theorem allLt_to {d : Addr} : ∀ {l : List (Addr × Obj)}, (∀ p ∈ l, p.1 < d) → AllLt d l
  | [], _ => trivial
  | _ :: _, h => ⟨h _ (.head _), allLt_to fun p hp => h p (.tail _ hp)⟩
theorem bad_str : Str.ofString "�" = ⟨#[65533]⟩ := by decide +kernel
theorem sgn1 {V : Int} (h : V = 0 ∨ V > 1114111 ∨ (55296 ≤ V ∧ V ≤ 57343)) : Str.ofString "�" = signOf V ∧ true = toldOf V := by
  rw [bad_str]
  refine ⟨?_, (told_yes (by unfold ToldP; omega)).symm⟩
  by_cases h0 : V = 0
  · subst h0; decide +kernel
  · exact (sign_sur (by omega) (by omega)).symm
theorem sgn2 {V : Int} {x : Str} (hx : x = oldRow) (h : 128 ≤ V ∧ V ≤ 159) : Txt.item x (V.fmod 32) = signOf V ∧ true = toldOf V := by
  subst hx
  refine ⟨?_, (told_yes (by unfold ToldP; omega)).symm⟩
  rw [← old_is h.1 h.2, ← item_nat (x := oldRow) (j := (V % 32).toNat) (by have e : oldRow.length = 32 := rfl; omega)]
  congr 1
  rw [Int.fmod_eq_emod_of_nonneg _ (by decide)]
  omega
theorem sgn3s : ∀ n : Nat, n < 32 → n ≠ 0 → (⟨#[n]⟩ : Str) = signOf (n : Int) ∧ (!([9, 10, 12] : List Int).any fun x => x == (n : Int)) = toldOf (n : Int) := by decide +kernel
theorem sgn3 {V : Int} (h0 : 0 ≤ V) (h1 : V ≠ 0) (h2 : V < 32) : (⟨#[V.toNat]⟩ : Str) = signOf V ∧ (!([9, 10, 12] : List Int).any fun x => x == V) = toldOf V := by
  have := sgn3s V.toNat (by omega) (by omega)
  rwa [Int.toNat_of_nonneg h0] at this
theorem sgn4 {V : Int} (h1 : ¬ (V = 0 ∨ V > 1114111 ∨ 55296 ≤ V ∧ V ≤ 57343)) (h2 : ¬ (128 ≤ V ∧ V ≤ 159)) (h3 : ¬ V < 32) : (⟨#[V.toNat]⟩ : Str) = signOf V := (sign_chr (by omega) (by omega)).symm
theorem any16a {V : Int} : (([4061, 4062] : List Int).any fun x => x == V.fdiv 16) = decide (64976 ≤ V ∧ V ≤ 65007) := by
  rw [Int.fdiv_eq_ediv_of_nonneg _ (by decide), Bool.eq_iff_iff]
  simp only [List.any_cons, List.any_nil, Bool.or_false, Bool.or_eq_true, beq_iff_eq, decide_eq_true_eq]
  omega
theorem tld4 {V : Int} (h1 : ¬ (V = 0 ∨ V > 1114111 ∨ 55296 ≤ V ∧ V ≤ 57343)) (h2 : ¬ (128 ≤ V ∧ V ≤ 159)) (h3 : ¬ V < 32) (h4 : V ≠ 127) (h5 : ¬ (64976 ≤ V ∧ V ≤ 65007)) : decide (65533 < V.fmod 65536) = toldOf V := by
  rw [Int.fmod_eq_emod_of_nonneg _ (by decide)]
  unfold toldOf
  refine decide_eq_decide.mpr ?_
  unfold ToldP
  omega
theorem news_tup {h₀ h : Heap} {L r : Addr} {x y : Str} {t : Tok} {b c : Bool} {own rest : List (Addr × Obj)} (N : News h₀ L h ((r, ({ cls := .type "tuple", data := .seq #[.str x t, .bool b] } : Obj)) :: rest)) (hs : ∀ p ∈ own, p ∈ rest) (e : x = y ∧ b = c) :
    News h₀ L h ((r, ({ cls := .type "tuple", data := .seq #[.str y t, .bool c] } : Obj)) :: own) := by
  obtain ⟨rfl, rfl⟩ := e
  intro p hp
  rcases List.mem_cons.mp hp with rfl | hp
  · exact N _ (.head _)
  · exact N _ (.tail _ (hs p hp))
theorem sign_is {w : World} {p : Program} {loose : List Str} {mean : ExcName → Option Value} {mg mb : Str → Option Value} {dp un : Nat} {gd : Option (List Code)} {cn : Str} {cs : Scope} {a : Addr} {ccd : Value} {cl : List (Str × Addr)} {outer : List Env} {A₀ : Around} {base h₀ : Heap} {L : Addr} {m : Str → Option Value} {s : Shared} {Q E : Value → Shared → Prop}
   {V : Int} {tV : Tok} {own : List (Addr × Obj)}
   (B : Below A₀ base outer h₀) (F : Fr h₀ L s.heap m) (X : (hd.heap_39 w.params).In h₀) (N : News h₀ L s.heap (own)) (T : Top p loose mean mg mb h₀) (hk : cs.kind = .function) (hdp : dp ≤ 530) (hun : un ≤ 530)
   (hV0 : 0 ≤ V)
   (ret : ∀ h' tk' r t1, AllLt r own → Fr h₀ L h' m → News h₀ L h' ((r, ({ cls := .type "tuple", data := .seq #[.str (signOf V) t1, .bool (toldOf V)] } : Obj)) :: own) → Q (.ref r) { s with heap := h', toks := tk' })
   : wpAny (model Challenge.rw_qy0005_08.row.prog w) (ktrTop dp un gd cn cs L a ccd cl outer) (call (.ref 776) [.int V tV]) Q E s := by
  revert X
  k_fill
  intro X
  w_on
  k_with_none
  refine wpAny_call ?_
  k_dflt k_enter
  by_cases h1 : V = 0 ∨ V > 1114111 ∨ (55296 ≤ V ∧ V ≤ 57343)
  · k_steps
    all_goals ((rename News _ _ _ _ => N9); (rename Fr _ _ _ _ => F9); refine ret _ _ _ _ ?_ F9 (news_tup N9 (fun _ h => h) (sgn1 h1)); first | exact allLt_to (by assumption))
  by_cases h2 : 128 ≤ V ∧ V ≤ 159
  · k_steps
    all_goals ((rename News _ _ _ _ => N9); (rename Fr _ _ _ _ => F9); refine ret _ _ _ _ ?_ F9 (news_tup N9 (fun _ h => h) (sgn2 (by decide +kernel) h2)); first | exact allLt_to (by assumption))
  by_cases h3 : V < 32
  · k_steps
    all_goals ((rename News _ _ _ _ => N9); (rename Fr _ _ _ _ => F9); (rename (_ ∧ _) => l9); exact ret _ _ _ _ l9.2 F9 (news_tup N9 (fun _ h => .tail _ h) (sgn3 hV0 (by omega) h3)))
  have hs4 := sgn4 h1 h2 h3
  by_cases h4 : V = 127
  · k_steps
    all_goals ((rename News _ _ _ _ => N9); (rename Fr _ _ _ _ => F9); refine ret _ _ _ _ ?_ F9 (news_tup N9 (fun _ h => h) ⟨hs4, by subst h4; decide +kernel⟩); first | exact allLt_to (by assumption))
  by_cases h5 : 64976 ≤ V ∧ V ≤ 65007
  · have h6 : (([4061, 4062] : List Int).any fun x => x == V.fdiv 16) = true := by rw [any16a]; exact decide_eq_true h5
    k_steps
    all_goals ((rename News _ _ _ _ => N9); (rename Fr _ _ _ _ => F9); (rename (_ ∧ _) => l9); exact ret _ _ _ _ l9.2 F9 (news_tup N9 (fun _ h => .tail _ h) ⟨hs4, by rw [h6]; exact (told_yes (by unfold ToldP; omega)).symm⟩))
  · have h6 : (([4061, 4062] : List Int).any fun x => x == V.fdiv 16) = false := by rw [any16a]; exact decide_eq_false h5
    k_steps
    all_goals ((rename News _ _ _ _ => N9); (rename Fr _ _ _ _ => F9); (rename (_ ∧ _) => l9); exact ret _ _ _ _ l9.2 F9 (news_tup N9 (fun _ h => .tail _ h) ⟨hs4, tld4 h1 h2 h3 h4 h5⟩))
end Mine
end

section
open PySem PySem.W PyProof.Rows
set_option Elab.async false
set_option rowWalk.seconds 0
set_option maxRecDepth 100000
set_option maxHeartbeats 8000000
set_option linter.unusedVariables false
namespace Mine
local macro_rules | `(tactic| k_room) => `(tactic| ktr_room)
local macro_rules | `(tactic| k_units) => `(tactic| ktr_units)
local macro_rules | `(tactic| k_enter) => `(tactic| (refine' code_def ?k1 ?k2 ?k3 ?k4 ?k5 ?kA ?kF ?kK ?k6 ?k7 ?k8 ?k9 ?kB ?_ ?c2 ?c3 ?c4 ?c5; (case kA => exact rfl); (case kF => exact rfl); (case kK => first | exact rfl | assumption); (case k1 => k_asm); (case k2 => k_asm); (case k3 => k_asm); (case k4 => k_asm); (case k5 => k_asm); (case k6 => k_is); (case k7 => k_is); (case k8 => ktr_room); (case k9 => first | exact BindsTo.of_eq rfl | exact binds_K (by k_in) rfl (by k_is) rfl rfl rfl | fail "k_enter: no rule for these arguments"); (case c5 => decide); (case kB => exact locs rfl); (case c2 => exact rfl); (case c3 => exact rfl); (case c4 => exact rfl); k_whole; intro g' L' h' FG' F' N' B' X' T'; (try dsimp only); (try k_lift B'); (try k_fold)))
local macro_rules | `(tactic| walk_at "ite") => `(tactic| first | (refine ite_neg (by (simp only [List.any_cons, List.any_nil, Bool.or_false, Bool.or_eq_true, Bool.not_eq_true', bne_iff_ne, bne_eq_false_iff_eq, ne_eq, beq_iff_eq, decide_eq_true_eq, Int.fmod_eq_emod_of_nonneg, Int.fdiv_eq_ediv_of_nonneg, Int.reduceLE]); omega) ?_) | (refine ite_pos (by (simp only [List.any_cons, List.any_nil, Bool.or_false, Bool.or_eq_true, Bool.not_eq_true', bne_iff_ne, bne_eq_false_iff_eq, ne_eq, beq_iff_eq, decide_eq_true_eq, Int.fmod_eq_emod_of_nonneg, Int.fdiv_eq_ediv_of_nonneg, Int.reduceLE]); omega) ?_))
local macro_rules | `(tactic| walk_at "compareOp In int ref") => `(tactic| ((with_reducible show wpAny _ _ (compareOp CmpOp.In (Value.int _ _) (Value.ref _)) _ _ _); k_dflt (refine' in_tuple_ints ?t ?i ?_; (case t => exact News.isTup (by k_asm) (by k_mem)); (case i => (repeat constructor)))))
local macro_rules | `(tactic| walk_at "compareOp NotIn int ref") => `(tactic| ((with_reducible show wpAny _ _ (compareOp CmpOp.NotIn (Value.int _ _) (Value.ref _)) _ _ _); k_dflt (refine' notin_tuple_ints ?t ?i ?_; (case t => exact News.isTup (by k_asm) (by k_mem)); (case i => (repeat constructor)))))

abbrev t7 (w : World) (k : TK) (x lf st : Addr) : Obj := dictOf [En w "stream" k.k1 (.ref x), En w "parser" k.k2 .none, En w "escapeFlag" k.k3 (.bool false), En w "lastFourChars" k.k4 (.ref lf), En w "state" k.k5 (.ref st), En w "escape" k.k6 (.bool false), En w "currentToken" k.k7 .none] 7
theorem news_made {h₀ h : Heap} {L : Addr} {e0 e1 e2 ds dds nl mo x dx T dT : Addr × Obj} {r : List (Addr × Obj)} (N : News h₀ L h (e0 :: e1 :: e2 :: ds :: dds :: nl :: mo :: x :: dx :: T :: dT :: r)) : News h₀ L h (dx :: x :: dds :: ds :: mo :: dT :: T :: r) := by
  intro p hp
  refine N p ?_
  simp only [List.mem_cons] at hp ⊢
  rcases hp with h | h | h | h | h | h | h | h <;> simp [h]
theorem make_is {w : World} {p : Program} {loose : List Str} {mean : ExcName → Option Value} {mg mb : Str → Option Value} {dp un : Nat} {gd : Option (List Code)} {cn : Str} {cs : Scope} {a : Addr} {ccd : Value} {cl : List (Str × Addr)} {outer : List Env} {A₀ : Around} {base h₀ : Heap} {L : Addr} {m : Str → Option Value} {s : Shared} {Q E : Value → Shared → Prop}
   {txt : Str} {tt : Tok} {own : List (Addr × Obj)}
   (B : Below A₀ base outer h₀) (F : Fr h₀ L s.heap m) (X : (hd.heap_39 w.params).In h₀) (N : News h₀ L s.heap (own)) (T : Top p loose mean mg mb h₀) (hk : cs.kind = .function) (hdp : dp ≤ 530) (hun : un ≤ 530)
   (hl2 : txt.length ≤ 100)
   (ret : ∀ h' tk' dT T dx x mo nl dds ds er lf st k kt j1 j2 tc ts to tpl tpc tp, AllLt dT own → dT < T → T < dx → dx < x → x < mo → mo < dds → dds < ds → Fr h₀ L h' m → News h₀ L h' ((dx, sDict w k mo nl ds er (.str (Str.ofString "") tc) (.int 0 ts) (.int 0 to) (.int 0 tpl) (.int 0 tpc)) :: (x, instObj 166 dx) :: (dds, xDict w j1 j2 (.str txt tt) (.int 0 tp)) :: (ds, instObj 73 dds) :: (mo, methodObj (.ref 148) (.ref x)) :: (dT, t7 w kt x lf st) :: (T, instObj 762 dT) :: own) → Q (.ref T) { s with heap := h', toks := tk' })
   : wpAny (model Challenge.rw_qy0005_08.row.prog w) (ktrTop dp un gd cn cs L a ccd cl outer) (call (.ref 762) [.str txt tt]) Q E s := by
  revert X
  k_fill
  intro X
  w_on
  k_with_none
  k_steps
  (rename News _ _ _ _ => N9); (rename Fr _ _ _ _ => F9)
  exact ret _ _ _ _ _ _ _ _ _ _ _ _ _ ⟨_, _, _, _, _, _, _, _, _, _⟩ ⟨_, _, _, _, _, _, _, 0⟩ _ _ _ _ _ _ _ _ (allLt_of (by assumption)) (toA (by omega)) (toA (by omega)) (toA (by omega)) (toA (by omega)) (toA (by omega)) (toA (by omega)) F9 (news_made N9)
end Mine
end

section
open PySem PySem.W PyProof.Rows
set_option Elab.async false
set_option linter.unusedVariables false
set_option maxRecDepth 100000
set_option maxHeartbeats 8000000
namespace Mine
section
variable {prog : Program} {w : World} {A : Around} {E : Value → Shared → Prop} {s : Shared} {h₀ : Heap} {L : Addr} {m : Str → Option Value} {u : Tok} {V : Int} {Q : Value → Shared → Prop} {value slice : Expr} {b : Nat}
def behA (b : Nat) : Addr := if b = 16 then 769 else 768
theorem item_767 (F : Fr h₀ L s.heap m) (X : (hd.heap_39 w.params).In h₀) (hb : Base2 b) (h : Q (.ref (behA b)) { s with toks := s.toks + 1 })
    (hs : subscripted slice false (.ref 767) (.int (b : Int) u) = operate [.ref 767, .int (b : Int) u] (getItem (.ref 767) (.int (b : Int) u)) := by with_unfolding_all rfl) :
    wpAny (model prog w) A (subscriptTail value slice (.ref 767) (.int (b : Int) u)) Q E s := by
  rcases hb with rfl | rfl
  · exact item_767a F X h hs
  · exact item_767b F X h hs
theorem item_beh (F : Fr h₀ L s.heap m) (X : (hd.heap_39 w.params).In h₀) (hb : Base2 b) (h0 : 0 ≤ V) (h1 : V < 10) (h : ∀ x t, Beh b x → Q (.str x t) s)
    (hs : subscripted slice false (.ref (behA b)) (.int V u) = operate [.ref (behA b), .int V u] (getItem (.ref (behA b)) (.int V u)) := by with_unfolding_all rfl) :
    wpAny (model prog w) A (subscriptTail value slice (.ref (behA b)) (.int V u)) Q E s := by
  rcases hb with rfl | rfl
  · exact item_beh10 F X h0 h1 h hs
  · exact item_beh16 F X h0 h1 h hs
end
theorem kfm_lo {n : Int} : 0 ≤ n.fmod 10 := by rw [Int.fmod_eq_emod_of_nonneg _ (by decide)]; omega
theorem kfm_hi {n : Int} : n.fmod 10 < 10 := by rw [Int.fmod_eq_emod_of_nonneg _ (by decide)]; omega
def SrcEnd (h₀ : Heap) (L : Addr) (s : Shared) (m : Str → Option Value) (v : Value) (s' : Shared) : Prop :=
  ∃ (l : Addr) (vs : List Value) (ns : List Int) (nn : Nat) (h : Heap) (tk : Nat), v = .ref l ∧ s' = { s with heap := h, toks := tk } ∧ Fr h₀ L h m ∧ News h₀ L h [(l, listOf vs.toArray nn)] ∧ IntsAre vs ns ∧ 1 ≤ ns.length ∧ ns.length ≤ 48
theorem src_cut {prog : Program} {w : World} {A : Around} {E : Value → Shared → Prop} {Q : Value → Shared → Prop} {s : Shared} {e : Expr} {env : Env} {h₀ : Heap} {L : Addr} {m : Str → Option Value} (F : Fr h₀ L s.heap m)
    (one : wpAny (model prog w) A (eval e env) (SrcEnd h₀ L s m) E s)
    (done : ∀ l vs ns nn h tk, Fr h₀ L h m → News h₀ L h [(l, listOf vs.toArray nn)] → IntsAre vs ns → 1 ≤ ns.length → ns.length ≤ 48 → Q (.ref l) { s with heap := h, toks := tk }) :
    wpAny (model prog w) A (eval e env) Q E s := by
  refine wpAny_mono one (fun v s' hq => ?_) fun _ _ x => x
  obtain ⟨l, vs, ns, nn, h, tk, rfl, rfl, F1, N1, hi, h1, h2⟩ := hq
  exact done l vs ns nn h tk F1 N1 hi h1 h2
theorem mul_is {prog : Program} {w : World} {A : Around} {E : Value → Shared → Prop} {Q : Value → Shared → Prop} {s : Shared} {a b : Int} {t u : Tok} (hm : IntMulOk a b) (h : Q (.int (a * b) s.toks) { s with toks := s.toks + 1 }) : wpAny (model prog w) A (binaryOp .Mult (.int a t) (.int b u)) Q E s := AutoIntOps.mul_0 h hm
structure TextOk (b : Nat) (x : Str) (v : Int) : Prop where
  low : 1 ≤ x.length
  top : x.length ≤ 48
  dig : ∀ i, i < x.length → IsDig b (x.cps.getD i 0)
  val : v = (numOf b x.cps.toList : Int)
structure TextAt (b n : Nat) (x : Str) (v : Int) : Prop where
  len : x.length = n
  dig : ∀ i, i < x.length → IsDig b (x.cps.getD i 0)
  val : v = (numOf b x.cps.toList : Int)
theorem empty_len : (Str.ofString "").length = 0 := by decide +kernel
theorem empty_list : (Str.ofString "").cps.toList = [] := by decide +kernel
theorem text_nil {b : Nat} : TextAt b ([] : List Int).length (Str.ofString "") 0 :=
  ⟨empty_len, fun i h => absurd h (by rw [empty_len]; exact Nat.not_lt_zero _), by rw [empty_list]; rfl⟩
theorem textOk {b : Nat} {x : Str} {v : Int} {ns : List Int} (h1 : 1 ≤ ns.length) (h2 : ns.length ≤ 48) (h : TextAt b ns.length x v) : TextOk b x v := ⟨by rw [h.len]; exact h1, by rw [h.len]; exact h2, h.dig, h.val⟩
def RowOk (row : Str) : Prop := row.length = 16 ∧ ∀ i : Nat, i < 16 → dig (row.cps.getD i 0) = i ∧ digB 16 (row.cps.getD i 0) = true ∧ (i < 10 → digB 10 (row.cps.getD i 0) = true)
theorem rowL : RowOk (Str.ofString "0123456789ABCDEF") := by unfold RowOk; decide +kernel
theorem rowS : RowOk (Str.ofString "0123456789abcdef") := by unfold RowOk; decide +kernel
theorem app_len (x y : Str) : (x ++ y).length = x.length + y.length := Array.size_append
theorem app_list (x y : Str) : (x ++ y).cps.toList = x.cps.toList ++ y.cps.toList := Array.toList_append
theorem app_lo {x y : Str} {i : Nat} (h : i < x.length) : (x ++ y).cps.getD i 0 = x.cps.getD i 0 := by
  show (x.cps ++ y.cps).getD i 0 = _
  have h1 : i < x.cps.size := h
  simp [Array.getD_eq_getD_getElem?, Array.getElem?_append, h1]
theorem app_hi {x y : Str} {i : Nat} (h : x.length ≤ i) : (x ++ y).cps.getD i 0 = y.cps.getD (i - x.length) 0 := by
  show (x.cps ++ y.cps).getD i 0 = _
  have h1 : ¬ i < x.cps.size := Nat.not_lt.mpr h
  simp [Array.getD_eq_getD_getElem?, Array.getElem?_append, h1]
  rfl
theorem text_next {b n : Nat} (hb : Base2 b) {x row : Str} {v one : Int} (hP : TextAt b n x v) (h0 : 0 ≤ one) (h1 : one < (b : Int)) (hr : RowOk row) : TextAt b (n + 1) (x ++ Txt.item row one) (v * (b : Int) + one) := by
  have hb2 : (b : Int) ≤ 16 := by rcases hb with rfl | rfl <;> decide
  have ho : one = ((one.toNat : Nat) : Int) := by omega
  have hlt : one.toNat < 16 := by omega
  have hi : Txt.item row one = ⟨#[row.cps.getD one.toNat 0]⟩ := by
    rw [ho, item_nat (by rw [hr.1]; omega)]; rfl
  obtain ⟨d1, d2, d3⟩ := hr.2 one.toNat hlt
  have hd : IsDig b (row.cps.getD one.toNat 0) := by
    rcases hb with rfl | rfl
    · exact digB_iff.mp (d3 (by omega))
    · exact digB_iff.mp d2
  refine ⟨?_, ?_, ?_⟩
  · rw [app_len, hP.len, hi]; rfl
  · intro i hl
    rw [app_len, hi] at hl
    have hl' : i < x.length + 1 := hl
    by_cases h : i < x.length
    · rw [app_lo h]; exact hP.dig i h
    · rw [app_hi (by omega), hi, show i - x.length = 0 by omega]; exact hd
  · rw [app_list, hi]
    unfold numOf
    rw [List.foldl_append]
    show _ = ((numOf b x.cps.toList * b + dig (row.cps.getD one.toNat 0) : Nat) : Int)
    rw [d1, hP.val]
    omega

theorem off_below {dT : Addr} {own : List (Addr × Obj)} {adr : List Addr} (h : AllLt dT own) (ha : ∀ a ∈ adr, dT ≤ a) : OwnOff own adr := fun p hp b hb => Nat.ne_of_lt (Nat.lt_of_lt_of_le (ktn_ltOf h p hp) (ha b hb))
theorem sub_le {b : Nat} {bh tx : Str} {va : Int} (h : TextOk b tx va) (hb : Beh b bh) : 1 ≤ (tx ++ bh).length ∧ (tx ++ bh).length ≤ 100 := by
  have := h.low; have := h.top; have := hb.short
  rw [app_len]; omega
theorem fine_tx {b : Nat} {tx : Str} {va : Int} (h : TextOk b tx va) : Fine tx := by
  intro n hn
  obtain ⟨i, hi, e⟩ := List.getElem_of_mem hn
  have hs : i < tx.cps.size := by simpa using hi
  have hd := h.dig i hs
  rw [show tx.cps.getD i 0 = n by rw [← e]; simp [hs]] at hd
  have := dig_low hd
  omega
theorem fine_app {x y : Str} (hx : Fine x) (hy : Fine y) : Fine (x ++ y) := by
  intro n hn
  rw [app_list] at hn
  rcases List.mem_append.mp hn with h | h
  · exact hx n h
  · exact hy n h
theorem dig_app {b : Nat} {bh tx : Str} {va : Int} (h : TextOk b tx va) : ∀ i, i < tx.length → IsDig b ((tx ++ bh).cps.getD i 0) := fun i hi => by rw [app_lo hi]; exact h.dig i hi
theorem stop_app {b : Nat} {bh tx : Str} (hb : Beh b bh) : tx.length < (tx ++ bh).length → ¬ IsDig b ((tx ++ bh).cps.getD tx.length 0) := by
  intro hl
  rw [app_len] at hl
  rw [app_hi (Nat.le_refl _), Nat.sub_self]
  exact hb.stop (by omega)
theorem head_app {tx bh : Str} : (headOf (tx ++ bh) tx.length).cps.toList = tx.cps.toList := by
  rw [head_list, app_list, List.take_append_of_le_length (by rw [Array.length_toList]; exact Nat.le_refl _), List.take_of_length_le (by rw [Array.length_toList]; exact Nat.le_refl _)]
theorem semi_app {tx bh : Str} : semiB (tx ++ bh) tx.length = semiB bh 0 := by
  unfold semiB
  rw [app_hi (Nat.le_refl _), Nat.sub_self, app_len]
  congr 1
  exact decide_eq_decide.mpr (by omega)
theorem slice_list {x : Str} {k : Nat} (h : k ≤ x.length) : (Txt.slice x (some (k : Int)) none).cps.toList = x.cps.toList.drop k := by
  have hl : x.cps.toList.length = x.length := Array.length_toList
  rw [slice_from_eq (b := (x.length : Int)) (by omega) (by omega) rfl]
  simp only [Int.toNat_natCast]
  rw [List.take_of_length_le (by rw [List.length_drop]; omega)]
theorem str_ext {x y : Str} (h : x.cps.toList = y.cps.toList) : x = y := by
  cases x; cases y
  simp only at h
  rw [Array.ext' h]
theorem slice_app {x y : Str} {k : Nat} (h : k ≤ y.length) : Txt.slice (x ++ y) (some ((x.length + k : Nat) : Int)) none = Txt.slice y (some (k : Int)) none := by
  refine str_ext ?_
  rw [slice_list (by rw [app_len]; omega), slice_list h, app_list, List.drop_append]
  have hl : x.cps.toList.length = x.length := Array.length_toList
  rw [List.drop_eq_nil_of_le (by omega), List.nil_append]
  congr 1
  omega
def restOf (bh : Str) : Str := if semiB bh 0 = true then Txt.slice bh (some (1 : Int)) none else bh
theorem rest_is {tx bh : Str} : Txt.slice (tx ++ bh) (some ((tx.length + (if semiB (tx ++ bh) tx.length = true then 1 else 0) : Nat) : Int)) none = restOf bh := by
  rw [semi_app]
  unfold restOf
  by_cases h : semiB bh 0 = true
  · rw [if_pos h, if_pos h]
    have := semi_yes h
    exact slice_app (k := 1) (by omega)
  · rw [if_neg h, if_neg h, slice_app (k := 0) (Nat.zero_le _)]
    exact slice_zero
theorem rest_le {b : Nat} {bh : Str} (h : Beh b bh) : (restOf bh).length ≤ 3 := by
  have := h.short
  unfold restOf
  split
  · exact Nat.le_trans (Txt.slice_le _ _ _) this
  · exact this
theorem len_is {prog : Program} {w : World} {A : Around} {E : Value → Shared → Prop} {Q : Value → Shared → Prop} {s : Shared} {x : Str} {t : Tok} (hx : x.length ≤ 1000) (h : ∀ t' k, Q (.int x.length t') { s with toks := k }) : wpAny (model prog w) A (call (.builtin "len") [.str x t]) Q E s :=
  P.len_str (by omega) (h _ _)
theorem news_ch {h₀ h : Heap} {L : Addr} {c t1 t2 e0 e1 e2 e3 : Addr × Obj} {r : List (Addr × Obj)} (N : News h₀ L h (c :: t1 :: t2 :: e0 :: e1 :: e2 :: e3 :: r)) : News h₀ L h (e0 :: e1 :: e2 :: e3 :: c :: r) := by
  intro p hp
  refine N p ?_
  simp only [List.mem_cons] at hp ⊢
  rcases hp with h | h | h | h | h | h <;> simp [h]
theorem off_four {d dx x dds ds : Addr} (h1 : dx < d) (h2 : x < d) (h3 : dds < d) (h4 : ds < d) : ∀ b ∈ [dx, x, dds, ds], d ≠ b := by
  intro b hb
  simp only [List.mem_cons, List.not_mem_nil, or_false] at hb
  rcases hb with rfl | rfl | rfl | rfl <;> exact Nat.ne_of_gt (by assumption)
theorem rest_len {tx bh : Str} : ((tx ++ bh).length : Int) - ((restOf bh).length : Int) = ((tx.length + (if semiB (tx ++ bh) tx.length = true then 1 else 0) : Nat) : Int) := by
  rw [semi_app, app_len]
  unfold restOf
  by_cases h : semiB bh 0 = true
  · rw [if_pos h, if_pos h]
    have h1 := semi_yes h
    have e : (Txt.slice bh (some ((1 : Nat) : Int)) none).length = bh.length - 1 := by
      have := congrArg List.length (slice_list (x := bh) (k := 1) (by omega))
      rw [List.length_drop, Array.length_toList, Array.length_toList] at this
      exact this
    have e2 : (Txt.slice bh (some (1 : Int)) none).length = bh.length - 1 := e
    rw [e2]; omega
  · rw [if_neg h, if_neg h]; omega
structure DS where
  (its : List Value) (qn : Nat) (ext : List (Addr × Obj)) (rest : Str) (t : Tok)
theorem news_due {h₀ h : Heap} {L : Addr} {a b d r : Addr × Obj} (N : News h₀ L h [a, b, d, r]) : News h₀ L h (d :: [a, b]) := by
  intro p hp
  refine N p ?_
  simp only [List.mem_cons, List.not_mem_nil, or_false] at hp ⊢
  rcases hp with h | h | h <;> simp [h]
theorem news_swap {h₀ h : Heap} {L : Addr} {a d : Addr × Obj} {r : List (Addr × Obj)} (N : News h₀ L h (a :: d :: r)) : News h₀ L h (d :: a :: r) := by
  intro p hp
  refine N p ?_
  simp only [List.mem_cons] at hp ⊢
  rcases hp with h | h | h <;> simp [h]
theorem news_front {h₀ h : Heap} {L : Addr} {a b : Addr × Obj} {r : List (Addr × Obj)} (N : News h₀ L h (a :: b :: r)) : News h₀ L h (a :: r) := by
  intro p hp
  refine N p ?_
  simp only [List.mem_cons] at hp ⊢
  rcases hp with h | h <;> simp [h]
theorem news_fst {h₀ h : Heap} {L : Addr} {a b : Addr × Obj} (N : News h₀ L h [a, b]) : News h₀ L h (a :: []) := news_front N
theorem Mid.off {w : World} {V : Int} {q : Addr} {told : Bool} {its : List Value} {ext : List (Addr × Obj)} (h : Mid w V q told its ext) : OwnOff ext [q] := by
  cases h with
  | f => exact off_nil
  | t hm =>
    obtain ⟨h1, h2, -⟩ := hm
    refine off_cons2 ?_ (off_cons2 ?_ off_nil)
    · intro b hb
      rw [List.mem_singleton.mp hb]; exact Nat.ne_of_gt h2
    · intro b hb
      rw [List.mem_singleton.mp hb]; exact Nat.ne_of_gt h1
theorem off_ord {dT T dx x mo dds ds : Addr} {own : List (Addr × Obj)} (h : AllLt dT own) (m1 : dT < T) (m2 : T < dx) (m3 : dx < x) (m4 : x < mo) (m5 : mo < dds) (m6 : dds < ds) : OwnOff own [dx, x, dds, ds, mo, dT, T] := by
  refine off_below h ?_
  intro a ha
  simp only [List.mem_cons, List.not_mem_nil, or_false] at ha
  replace m1 := ltN m1
  replace m2 := ltN m2
  replace m3 := ltN m3
  replace m4 := ltN m4
  replace m5 := ltN m5
  replace m6 := ltN m6
  show @LE.le Nat instLENat dT a
  rcases ha with rfl | rfl | rfl | rfl | rfl | rfl | rfl <;> omega
theorem off_ordq {dT T dx x mo dds ds q : Addr} {own : List (Addr × Obj)} (h : AllLt dT own) (m1 : dT < T) (m2 : T < dx) (m3 : dx < x) (m4 : x < mo) (m5 : mo < dds) (m6 : dds < ds) (m7 : ds < q) : OwnOff own [dx, x, dds, ds, mo, q, dT, T] := by
  refine off_below h ?_
  intro a ha
  simp only [List.mem_cons, List.not_mem_nil, or_false] at ha
  replace m1 := ltN m1
  replace m2 := ltN m2
  replace m3 := ltN m3
  replace m4 := ltN m4
  replace m5 := ltN m5
  replace m6 := ltN m6
  replace m7 := ltN m7
  show @LE.le Nat instLENat dT a
  rcases ha with rfl | rfl | rfl | rfl | rfl | rfl | rfl | rfl <;> omega
theorem news_q {h₀ h : Heap} {L : Addr} {q e0 e1 e2 e3 e4 : Addr × Obj} {r : List (Addr × Obj)} (N : News h₀ L h (q :: e0 :: e1 :: e2 :: e3 :: e4 :: r)) : News h₀ L h (e0 :: e1 :: e2 :: e3 :: e4 :: q :: r) := by
  intro p hp
  refine N p ?_
  simp only [List.mem_cons] at hp ⊢
  rcases hp with h | h | h | h | h | h | h <;> simp [h]
theorem cmp_cut {prog : Program} {w : World} {A : Around} {E : Value → Shared → Prop} {Q : Value → Shared → Prop} {s : Shared} {a b : Value} {op : CmpOp} {h₀ : Heap} {L : Addr} {m : Str → Option Value} {news : List (Addr × Obj)} (F : Fr h₀ L s.heap m) (N : News h₀ L s.heap news)
    (one : wpAny (model prog w) A (compareOp op a b) (fun r s' => r = .bool false ∧ ∃ h tk, s' = { s with heap := h, toks := tk } ∧ Fr h₀ L h m ∧ News h₀ L h news) E s)
    (done : ∀ h tk, Fr h₀ L h m → News h₀ L h news → Q (.bool false) { s with heap := h, toks := tk }) :
    wpAny (model prog w) A (compareOp op a b) Q E s := by
  refine wpAny_mono one (fun f s' hq => ?_) fun _ _ x => x
  obtain ⟨rfl, h, tk, rfl, F1, N1⟩ := hq
  exact done h tk F1 N1
theorem news_q8 {w : World} {h₀ h : Heap} {L : Addr} {q dT x lf st : Addr} {k1 k2 k3 k4 k5 k6 k7 k8 : Tok} {n : Nat} {e0 e1 e2 e3 e4 : Addr × Obj} {r : List (Addr × Obj)}
    (N : News h₀ L h ((q, listOf #[] n) :: e0 :: e1 :: e2 :: e3 :: e4 :: (dT, dictOf [En w "stream" k1 (.ref x), En w "parser" k2 .none, En w "escapeFlag" k3 (.bool false), En w "lastFourChars" k4 (.ref lf), En w "state" k5 (.ref st), En w "escape" k6 (.bool false), En w "currentToken" k7 .none, En w "tokenQueue" k8 (.ref q)] 8) :: r)) :
    News h₀ L h (e0 :: e1 :: e2 :: e3 :: e4 :: (q, listOf #[] n) :: (dT, tDict w ⟨k1, k2, k3, k4, k5, k6, k7, k8⟩ x lf st q) :: r) := news_q N
theorem Mid.above {w : World} {V : Int} {q : Addr} {told : Bool} {its : List Value} {ext : List (Addr × Obj)} (h : Mid w V q told its ext) : ∀ p ∈ ext, q < p.1 := by
  cases h with
  | f => exact fun p hp => nomatch hp
  | t hm =>
    obtain ⟨h1, h2, -⟩ := hm
    intro p hp
    simp only [List.mem_cons, List.not_mem_nil, or_false] at hp
    rcases hp with rfl | rfl
    · exact h2
    · exact h1
theorem Que.above {w : World} {V : Int} {q : Addr} {told sm : Bool} {its : List Value} {ext : List (Addr × Obj)} (h : Que w V q told sm its ext) : ∀ p ∈ ext, q < p.1 := by
  cases h with
  | y hm => exact hm.above
  | n hm hq =>
    intro p hp
    rcases List.mem_cons.mp hp with rfl | hp
    · exact hq
    · exact hm.above p hp
theorem Que.off {w : World} {V : Int} {q : Addr} {told sm : Bool} {its : List Value} {ext : List (Addr × Obj)} {adr : List Addr} (h : Que w V q told sm its ext) (ha : ∀ a ∈ adr, a < q) : OwnOff ext adr := fun p hp b hb => Nat.ne_of_gt (Nat.lt_trans (ha b hb) (h.above p hp))
/- what stands behind the stream's four objects is off them -/
theorem off_rest {dx x mo dds ds q dT T : Addr} {o5 o6 o7 o8 : Obj} {extq own : List (Addr × Obj)} {w : World} {V : Int} {told sm : Bool} {its : List Value} (hq : Que w V q told sm its extq) (hoff : OwnOff own [dx, x, dds, ds, mo, q, dT, T])
    (n1 : dT < T) (n2 : T < dx) (n3 : dx < x) (n4 : x < mo) (n5 : mo < dds) (n6 : dds < ds) (n7 : ds < q) : OwnOff ((mo, o5) :: (q, o6) :: (dT, o7) :: (T, o8) :: (extq ++ own)) [dx, x, dds, ds] := by
  replace n1 := ltN n1
  replace n2 := ltN n2
  replace n3 := ltN n3
  replace n4 := ltN n4
  replace n5 := ltN n5
  replace n6 := ltN n6
  replace n7 := ltN n7
  refine off_cons2 ?_ (off_cons2 ?_ (off_cons2 ?_ (off_cons2 ?_ (off_app (hq.off ?_) (off_sub hoff ?_)))))
  all_goals (intro b hb; simp only [List.mem_cons, List.not_mem_nil, or_false] at hb)
  · show @Ne Nat mo b
    rcases hb with rfl | rfl | rfl | rfl <;> omega
  · show @Ne Nat q b
    rcases hb with rfl | rfl | rfl | rfl <;> omega
  · show @Ne Nat dT b
    rcases hb with rfl | rfl | rfl | rfl <;> omega
  · show @Ne Nat T b
    rcases hb with rfl | rfl | rfl | rfl <;> omega
  · show @LT.lt Nat instLTNat b q
    rcases hb with rfl | rfl | rfl | rfl <;> omega
  · rcases hb with rfl | rfl | rfl | rfl <;> simp
theorem off_rest2 {dx x dds ds : Addr} {o1 o2 : Obj} {r : List (Addr × Obj)} (h : OwnOff r [dx, x, dds, ds]) (n3 : dx < x) (n4 : x < dds) (n6 : dds < ds) : OwnOff ((dds, o1) :: (ds, o2) :: r) [dx, x] := by
  replace n3 := ltN n3
  replace n4 := ltN n4
  replace n6 := ltN n6
  refine off_cons2 ?_ (off_cons2 ?_ (off_sub h ?_))
  all_goals (intro b hb; simp only [List.mem_cons, List.not_mem_nil, or_false] at hb)
  · show @Ne Nat dds b
    rcases hb with rfl | rfl <;> omega
  · show @Ne Nat ds b
    rcases hb with rfl | rfl <;> omega
  · rcases hb with rfl | rfl <;> simp
theorem num_app {b : Nat} {bh tx : Str} {va : Int} (h : TextOk b tx va) : va = (numOf b (headOf (tx ++ bh) tx.length).cps.toList : Int) := by rw [head_app]; exact h.val

end Mine
end

section
open PySem PySem.W PyProof.Rows PySem.Calls
open PySem.SeqAt (EqAt)
set_option Elab.async false
set_option linter.unusedVariables false
set_option maxRecDepth 100000
set_option maxHeartbeats 8000000
namespace Mine
/- two values that this run finds equal; two queues of dicts -/
section
variable {prog : Program} {w : World} {A : Around} {s : Shared}
def EqH (prog : Program) (w : World) (A : Around) (s : Shared) (y x : Value) : Prop :=
  ∀ (E : Value → Shared → Prop) (Q : Bool → Shared → Prop), Q true s → wpAny (model prog w) A (eqBool y x) Q E s
theorem eqH_at {y x : Value} {b : Bool} (h : EqAt A s y x b) (hb : b = true) : EqH prog w A s y x := by
  subst hb
  exact fun E Q hq => h prog w E Q hq
theorem eqH_int {V : Int} {t u : Tok} : EqH prog w A s (.int V t) (.int V u) := eqH_at (SeqAt.EqAt.int_int V t V u) (by simp)
theorem eqH_str {x : Str} {t u : Tok} : EqH prog w A s (.str x t) (.str x u) := eqH_at (SeqAt.EqAt.str_str x t x u) (by simp)
theorem eqH_refs {l b : Addr} (hne : l ≠ b) (h : ∀ (E : Value → Shared → Prop) (Q : Value → Shared → Prop), Q (.bool true) s → wpAny (model prog w) A (compareOp .Eq (.ref l) (.ref b)) Q E s) : EqH prog w A s (.ref l) (.ref b) := fun E Q hq => by
  unfold eqBool
  refine wpAny_holding ?_
  refine wpAny_ite_split (fun hab => absurd (Value.ref.inj (eq_of_beq hab)) hne) (fun _ => ?_)
  exact wpAny_bind (h E _ (wpAny_truthy_bool hq))
variable {K : Type} [DecidableEq K] {knd : KeyKind prog w K} {E : Value → Shared → Prop}
theorem pairs_true {nm : String} {a b : Addr} {ka kb : List (K × Value)} {Q : Bool → Shared → Prop} (ha : (a == sysModules) = false) (hb : (b == sysModules) = false)
    (da : s.heap.DictOf knd a ka) (db : s.heap.DictOf knd b kb) (hlen : ka.length = kb.length) (hits : ∀ p ∈ ka, ∃ y, valueAt kb p.1 = some y ∧ EqH prog w A s p.2 y) (h : Q true s) :
    wpAny (model prog w) A (Builtin.Dict.samePairs nm a b) Q E s := by
  obtain ⟨oa, es, ep, hoa, _, hda, hka, hpa, _⟩ := da
  obtain ⟨ob, es', ep', hob, _, hdb, hkb, hpb, _⟩ := db
  have hla : ka.length = es.size := by rw [← hpa.length]; exact Array.length_toList
  have hlb : kb.length = es'.size := by rw [← hpb.length]; exact Array.length_toList
  have hsz : es.size = es'.size := by omega
  have hfind : ∀ k, findBy knd.is es' k = valueAt kb k := fun k => by
    rw [← hpb.find k]
    clear hlb hpb hkb hdb hob hsz
    obtain ⟨l⟩ := es'
    simp [findBy]
  unfold Builtin.Dict.samePairs Builtin.Dict.showsAll
  rw [if_neg (show ¬ (a == sysModules) = true by rw [ha]; exact Bool.false_ne_true), if_neg (show ¬ (b == sysModules) = true by rw [hb]; exact Bool.false_ne_true)]
  refine wpAny_bind (wpAny_pure (wpAny_bind (wpAny_pure ?_)))
  refine wpAny_bind (wpAny_dictEntries hoa hda ?_)
  dsimp only
  refine wpAny_bind (wpAny_dictEntries hob hdb ?_)
  rw [if_neg (by rw [hsz]; simp)]
  refine wpAny_bind (wpAny_dictEpoch hoa hda ?_)
  refine wpAny_bind ?_
  rw [Std.Legacy.Range.forIn_eq_forIn_range']
  simp only [Std.Legacy.Range.size, Nat.sub_zero, Nat.add_sub_cancel, Nat.div_one]
  refine wpAny_forIn_list _ (fun rest q s' => s' = s ∧ q = (none, ()) ∧ ∃ i, rest = List.range' i (es.size - i) ∧ i ≤ es.size) _ ?_ ?_ _ _ ⟨rfl, rfl, 0, by simp, Nat.zero_le _⟩
  · rintro x rest q s' ⟨rfl, rfl, i, hr, hi⟩
    have hlt : i < es.size := by
      rcases Nat.lt_or_ge i es.size with h | h
      · exact h
      · rw [Nat.sub_eq_zero_of_le h] at hr; cases hr
    have hx : x = i ∧ rest = List.range' (i + 1) (es.size - (i + 1)) := by
      have e : es.size - i = (es.size - (i + 1)) + 1 := by omega
      rw [e, List.range'_succ] at hr
      injection hr with h1 h2
      exact ⟨h1, h2⟩
    obtain ⟨rfl, hrest⟩ := hx
    have hlt' : x < ka.length := by omega
    refine wpAny_bind (wpAny_dictEntries hoa hda ?_)
    rw [Array.getElem?_eq_getElem hlt]
    obtain ⟨hkey, hval⟩ := hpa.get? (i := x) (e := es[x]) (k := ka[x].1) (v := ka[x].2) (by rw [Array.getElem?_toList]; exact Array.getElem?_eq_getElem hlt) (List.getElem?_eq_getElem hlt')
    obtain ⟨k', hk', hh⟩ := hka es[x] (Array.getElem_mem hlt)
    rw [knd.inj _ _ _ hk' hkey] at hh
    obtain ⟨y, hy, he⟩ := hits ka[x] (List.getElem_mem hlt')
    show wpAny _ _ (holding [es[x].key, es[x].val] _ >>= _) _ _ _
    rw [hh]
    refine wpAny_bind (wpAny_holding (wpAny_bind (wpAny_dictFind_of hkey hob hdb hkb ?_)))
    cases hj : es'.findIdx? fun e => knd.is ka[x].1 e.key with
    | none =>
      rw [← hfind ka[x].1, findBy_of_findIdx?, hj] at hy
      cases hy
    | some j =>
      obtain ⟨hjlt, -, -⟩ := Array.findIdx?_eq_some_iff_getElem.mp hj
      have hv' : valueAt kb ka[x].1 = some es'[j].val := by
        rw [← hfind ka[x].1, findBy_of_findIdx?, hj]
        simp [Array.getElem?_eq_getElem hjlt]
      refine wpAny_bind (wpAny_dictEntries hob hdb ?_)
      rw [Array.getElem?_eq_getElem hjlt]
      rw [hv'] at hy
      rw [← Option.some.inj hy, ← hval] at he
      refine wpAny_holding (he _ _ ?_)
      show wpAny _ _ (if (!true) = true then _ else _) _ _ _
      rw [if_neg (by decide)]
      refine wpAny_bind (wpAny_dictEpoch hoa hda ?_)
      rw [if_neg (by simp)]
      exact wpAny_pure ⟨rfl, rfl, x + 1, hrest, hlt⟩
  · rintro q s' ⟨rfl, rfl, i, hr, hi⟩
    exact wpAny_pure h
theorem dict_true {a b : Addr} {ka kb : List (K × Value)} {Q : Value → Shared → Prop} (ha : (a == sysModules) = false) (hb : (b == sysModules) = false)
    (da : s.heap.DictOf knd a ka) (db : s.heap.DictOf knd b kb) (hu : A.units < cLine) (hlen : ka.length = kb.length) (hits : ∀ p ∈ ka, ∃ y, valueAt kb p.1 = some y ∧ EqH prog w A.in1 s p.2 y) (h : Q (.bool true) s) :
    wpAny (model prog w) A (compareOp .Eq (.ref a) (.ref b)) Q E s := by
  refine wpAny_richCompare_same_room (op := .Eq) da.typeIs db.typeIs PySem.F.slot_dict_eq (wpAny_call_entry PySem.F.slot_dict_eq da.typeIs PySem.F.entry_dict_eq ?_ (PySem.F.args_dict_eq_2 _ _)) hu
  show wpAny _ _ (Builtin.Dict.dictSlotArgs "__eq__" ⟨[.ref a, .ref b], []⟩ >>= _) _ _ s
  refine wpAny_bind ?_
  unfold Builtin.Dict.dictSlotArgs
  refine wpAny_bind (wpAny_notOrdered_dict da.typeIs ?_)
  show wpAny _ _ (pure (Value.ref a, Value.ref b)) _ _ s
  refine wpAny_pure ?_
  refine wpAny_bind (wpAny_isInstance (T := "dict") db.typeIs PySem.F.sub_dict_dict ?_)
  simp only [Bool.not_true, Bool.false_eq_true, if_false]
  refine wpAny_bind (wpAny_pure (wpAny_bind (wpAny_pure ?_)))
  refine wpAny_bind (pairs_true ha hb da db hlen hits ?_)
  exact wpAny_pure ⟨_, rfl, (fun x => nomatch x), h⟩
open PySem.AutoSeq1 (wpAny_loadPart')
open PySem.MeetsSeq PySem.MeetsSeq2 PySem.MeetsSeq3
abbrev LstAt (h : Heap) (l : Addr) (items : Array Value) (n : Nat) (dd : Option Addr) (sl : Array (Option Value)) : Prop := h.get? l = some { cls := .type "list", dict := dd, data := .seq items n, slots := sl }
theorem loop_ne {l b : Addr} {items items2 : Array Value} {n n2 : Nat} {dd dd2 : Option Addr} {sl sl2 : Array (Option Value)} (hsz : items.size = items2.size) (k : Nat) :
    ∀ i : Nat, items.size - i = k → MeetsIn prog w (Builtin.«list.__eq__.loop» ⟨[.ref l, .ref b, rawInt i, rawInt 3], []⟩)
      (fun A R s => LstAt s.heap l items n dd sl ∧ LstAt s.heap b items2 n2 dd2 sl2 ∧ (∀ j (h1 : j < items.size) (h2 : j < items2.size), EqH prog w A.in1 s items[j] items2[j]) ∧ R (.ok (.ret (.bool false))) s) := by
  induction k with
  | zero =>
    intro i hk A R s h
    obtain ⟨hp, g, d, tk, os⟩ := s
    obtain ⟨hl, hb, he, h⟩ := h
    wp_walk using wpAny_loadPart' hl, wpAny_loadPart' hb
    have hi1 : items[((i : Nat) : Int).toNat]? = none := by simp; omega
    have hi2 : items2[((i : Nat) : Int).toNat]? = none := by simp; omega
    rw [hi1, hi2]
    wp_walk using wpAny_loadPart' hl, wpAny_loadPart' hb
    show R (.ok (.ret (.bool (items.size != items2.size)))) _
    rw [hsz]
    simpa using h
  | succ k ih =>
    intro i hk A R s h
    obtain ⟨hp, g, d, tk, os⟩ := s
    obtain ⟨hl, hb, he, h⟩ := h
    wp_walk using wpAny_loadPart' hl, wpAny_loadPart' hb
    have hlt : i < items.size := by omega
    have hlt2 : i < items2.size := by omega
    have hi1 : items[((i : Nat) : Int).toNat]? = some items[i] := by simp [hlt]
    have hi2 : items2[((i : Nat) : Int).toNat]? = some items2[i] := by simp [hlt2]
    have hc : ((i : Int) + 1) = ((i + 1 : Nat) : Int) := by omega
    rw [hi1, hi2]
    refine wpAny_bind (he i hlt hlt2 _ _ ?_)
    wp_walk
    rw [hc]
    exact ⟨plainId_quiet plain_eq_loop _, codeAny_builtin entry_eq_loop (by
      rw [Around.under_plainId plain_eq_loop _]
      exact ih (i + 1) (by omega) A R _ ⟨hl, hb, he, h⟩)⟩
theorem list_ne {l b : Addr} {items items2 : Array Value} {n n2 : Nat} {dd dd2 : Option Addr} {sl sl2 : Array (Option Value)} (hsz : items.size = items2.size) :
    MeetsIn prog w (Builtin.«list.__ne__» ⟨[.ref l, .ref b], []⟩)
      (fun A R s => LstAt s.heap l items n dd sl ∧ LstAt s.heap b items2 n2 dd2 sl2 ∧ (∀ j (h1 : j < items.size) (h2 : j < items2.size), EqH prog w A.in1 s items[j] items2[j]) ∧ R (.ok (.ret (.bool false))) s) := by
  intro A R s h
  obtain ⟨hp, g, d, tk, os⟩ := s
  obtain ⟨hl, hb, he, h⟩ := h
  have f3 := AutoSeq1.sub_list_list
  have hne : ¬ (items.size != items2.size) = true := by simp [hsz]
  wp_walk using wpAny_loadPart' hl, wpAny_loadPart' hb
  exact ⟨plainId_quiet plain_eq_loop _, codeAny_builtin entry_eq_loop (by
    rw [Around.under_plainId plain_eq_loop _]
    exact loop_ne hsz _ 0 rfl A R _ ⟨hl, hb, he, h⟩)⟩
theorem lists_ne {l b : Addr} {items items2 : Array Value} {Q : Value → Shared → Prop} (hl : s.heap.IsList l items) (hb : s.heap.IsList b items2) (hsz : items.size = items2.size) (hu : A.units < cLine)
    (he : ∀ j (h1 : j < items.size) (h2 : j < items2.size), EqH prog w A.in1 s items[j] items2[j]) (h : Q (.bool false) s) : wpAny (model prog w) A (compareOp .NotEq (.ref l) (.ref b)) Q E s := by
  obtain ⟨⟨cls, dd, data, sl⟩, ho, hc, n, hd⟩ := id hl
  obtain ⟨⟨cls2, dd2, data2, sl2⟩, ho2, hc2, n2, hd2⟩ := id hb
  simp only at hc hd hc2 hd2
  subst hc hd hc2 hd2
  exact wpAny_richCompare_same_room (op := .NotEq) ⟨_, ho, rfl⟩ ⟨_, ho2, rfl⟩ F.slot_list_ne (call_meetsIn F.slot_list_ne ⟨_, ho, rfl⟩ F.entry_list_ne (F.args_list_ne_2 _ _) (list_ne hsz)
    ⟨ho, ho2, he, show Value.bool false ≠ Value.notImplemented ∧ Q (.bool false) s from ⟨(fun x => nomatch x), h⟩⟩) hu
theorem eqH_dict {K : Type} [DecidableEq K] {knd : KeyKind prog w K} {h₀ : Heap} {L : Addr} {news : List (Addr × Obj)} {a b : Addr} {oa ob : Obj} {ka kb : List (K × Value)} (N : News h₀ L s.heap news) (ma : (a, oa) ∈ news) (mb : (b, ob) ∈ news) (da : oa.IsDictOf knd ka) (db : ob.IsDictOf knd kb)
    (sa : (a == sysModules) = false) (sb : (b == sysModules) = false) (hu : A.units < cLine) (hlen : ka.length = kb.length) (hits : ∀ p ∈ ka, ∃ y, valueAt kb p.1 = some y ∧ EqH prog w A.in1 s p.2 y) : EqH prog w A s (.ref a) (.ref b) := by
  by_cases hab : a = b
  · subst hab
    exact eqH_at (SeqAt.EqAt.same _) rfl
  · exact eqH_refs hab fun E Q hq => dict_true sa sb (Heap.dictOf_iff.mpr ⟨_, N.get ma, da⟩) (Heap.dictOf_iff.mpr ⟨_, N.get mb, db⟩) hu hlen hits hq
end
section
variable {w : World} {A : Around} {s : Shared} {h₀ : Heap} {L : Addr} {news : List (Addr × Obj)} {V : Int}
theorem eqH_var {a b : Addr} {oa ob : Obj} (N : News h₀ L s.heap news) (ma : (a, oa) ∈ news) (mb : (b, ob) ∈ news) (sa : (a == sysModules) = false) (sb : (b == sysModules) = false) (hu : A.units < cLine) (da : IsVar w V oa) (db : IsVar w V ob) : EqH PR w A s (.ref a) (.ref b) := by
  obtain ⟨_, _, da⟩ := da
  obtain ⟨_, _, db⟩ := db
  refine eqH_dict N ma mb da db sa sb hu rfl ?_
  intro p hp
  simp only [strPairs, List.mem_cons, List.not_mem_nil, or_false] at hp
  subst hp
  exact ⟨_, rfl, eqH_int⟩
theorem eqH_tell {a b a2 b2 : Addr} {oa ob oa2 ob2 : Obj} (N : News h₀ L s.heap news) (ma : (a, oa) ∈ news) (mb : (b, ob) ∈ news) (ma2 : (a2, oa2) ∈ news) (mb2 : (b2, ob2) ∈ news) (sa : (a == sysModules) = false) (sb : (b == sysModules) = false) (sa2 : (a2 == sysModules) = false) (sb2 : (b2 == sysModules) = false)
    (hu : A.units + 1 < cLine) (da : IsTell w a2 oa) (db : IsTell w b2 ob) (da2 : IsVar w V oa2) (db2 : IsVar w V ob2) : EqH PR w A s (.ref a) (.ref b) := by
  obtain ⟨_, _, _, _, _, da⟩ := da
  obtain ⟨_, _, _, _, _, db⟩ := db
  refine eqH_dict N ma mb da db sa sb (by omega) rfl ?_
  intro p hp
  simp only [strPairs, List.mem_cons, List.not_mem_nil, or_false] at hp
  rcases hp with rfl | rfl | rfl
  · exact ⟨_, rfl, eqH_int⟩
  · exact ⟨_, rfl, eqH_str⟩
  · exact ⟨_, rfl, eqH_var N ma2 mb2 sa2 sb2 (by rw [units_in1]; omega) da2 db2⟩
theorem eqH_semi {a b : Addr} {oa ob : Obj} (N : News h₀ L s.heap news) (ma : (a, oa) ∈ news) (mb : (b, ob) ∈ news) (sa : (a == sysModules) = false) (sb : (b == sysModules) = false) (hu : A.units < cLine) (da : IsNoSemi w oa) (db : IsNoSemi w ob) : EqH PR w A s (.ref a) (.ref b) := by
  obtain ⟨_, _, _, _, da⟩ := da
  obtain ⟨_, _, _, _, db⟩ := db
  refine eqH_dict N ma mb da db sa sb hu rfl ?_
  intro p hp
  simp only [strPairs, List.mem_cons, List.not_mem_nil, or_false] at hp
  rcases hp with rfl | rfl
  · exact ⟨_, rfl, eqH_int⟩
  · exact ⟨_, rfl, eqH_str⟩
theorem mid_eq {q dl : Addr} {tb : Bool} {its items : List Value} {ext extq : List (Addr × Obj)} (N : News h₀ L s.heap news) (hu : A.units + 1 < cLine) (m1 : Mid w V q tb items extq) (m2 : Mid w V dl tb its ext) (e1 : ∀ p ∈ extq, p ∈ news) (e2 : ∀ p ∈ ext, p ∈ news) :
    items.length = its.length ∧ ∀ j (h1 : j < items.length) (h2 : j < its.length), EqH PR w A s items[j] its[j] := by
  cases m1 with
  | f =>
    cases m2
    exact ⟨rfl, fun j h1 _ => absurd h1 (Nat.not_lt_zero _)⟩
  | @t c1 hc1 =>
    cases m2 with
    | @t c2 hc2 =>
      obtain ⟨-, -, -, s1, s2, v1, v2⟩ := hc1
      obtain ⟨-, -, -, s3, s4, v3, v4⟩ := hc2
      refine ⟨rfl, fun j h1 h2 => ?_⟩
      have hj : j = 0 := by simp at h1; omega
      subst hj
      exact eqH_tell N (e1 _ (.tail _ (.head _))) (e2 _ (.tail _ (.head _))) (e1 _ (.head _)) (e2 _ (.head _)) s1 s3 s2 s4 hu v2 v4 v1 v3
theorem que_eq {q dl : Addr} {tb sm : Bool} {its items : List Value} {ext extq : List (Addr × Obj)} (N : News h₀ L s.heap news) (hu : A.units + 1 < cLine) (m1 : Que w V q tb sm items extq) (m2 : Que w V dl tb sm its ext) (e1 : ∀ p ∈ extq, p ∈ news) (e2 : ∀ p ∈ ext, p ∈ news) :
    items.length = its.length ∧ ∀ j (h1 : j < items.length) (h2 : j < its.length), EqH PR w A s items[j] its[j] := by
  cases m1 with
  | y m1 =>
    cases m2 with
    | y m2 => exact mid_eq N hu m1 m2 e1 e2
  | @n i1 x1 d1 o1 m1 _ _ s1 v1 =>
    cases m2 with
    | @n i2 x2 d2 o2 m2 _ _ s2 v2 =>
      obtain ⟨hl, he⟩ := mid_eq N hu m1 m2 (fun p hp => e1 p (.tail _ hp)) (fun p hp => e2 p (.tail _ hp))
      refine ⟨by simp [hl], fun j h1 h2 => ?_⟩
      by_cases hj : j < i1.length
      · rw [List.getElem_append_left hj, List.getElem_append_left (by omega)]
        exact he j hj (by omega)
      · rw [List.getElem_append_right (by omega), List.getElem_append_right (by omega)]
        simp only [List.getElem_singleton]
        exact eqH_semi N (e1 _ (.head _)) (e2 _ (.head _)) s1 s2 (by omega) v1 v2
theorem que_ne {q dl : Addr} {tb sm : Bool} {its items : List Value} {ext extq : List (Addr × Obj)} {n1 n2 : Nat} {E : Value → Shared → Prop} {Q : Value → Shared → Prop} (N : News h₀ L s.heap news) (hu : A.units + 2 < cLine) (m1 : Que w V q tb sm items extq) (m2 : Que w V dl tb sm its ext)
    (hq : (q, listOf items.toArray n1) ∈ news) (hd : (dl, listOf its.toArray n2) ∈ news) (e1 : ∀ p ∈ extq, p ∈ news) (e2 : ∀ p ∈ ext, p ∈ news) (h : Q (.bool false) s) : wpAny (model PR w) A (compareOp .NotEq (.ref q) (.ref dl)) Q E s := by
  obtain ⟨hl, he⟩ := que_eq (A := A.in1) N (by rw [units_in1]; omega) m1 m2 e1 e2
  refine lists_ne (News.isList N hq) (News.isList N hd) (by simpa using hl) (by omega) (fun j h1 h2 => ?_) h
  have := he j (by simpa using h1) (by simpa using h2)
  simpa using this
end
end Mine
end

section
open PySem PySem.W PyProof.Rows
set_option Elab.async false
set_option rowWalk.seconds 0
set_option maxRecDepth 100000
set_option maxHeartbeats 8000000
set_option linter.unusedVariables false
namespace Mine
local macro_rules | `(tactic| k_enter) => `(tactic| (refine' code_def ?k1 ?k2 ?k3 ?k4 ?k5 ?kA ?kF ?kK ?k6 ?k7 ?k8 ?k9 ?kB ?_ ?c2 ?c3 ?c4 ?c5; (case kA => exact rfl); (case kF => exact rfl); (case kK => first | exact rfl | assumption); (case k1 => k_asm); (case k2 => k_asm); (case k3 => k_asm); (case k4 => k_asm); (case k5 => k_asm); (case k6 => k_is); (case k7 => k_is); (case k8 => ktr_room); (case k9 => first | exact BindsTo.of_eq rfl | exact binds_K (by k_in) rfl (by k_is) rfl rfl rfl | fail "k_enter: no rule for these arguments"); (case c5 => decide); (case kB => exact locs rfl); (case c2 => exact rfl); (case c3 => exact rfl); (case c4 => exact rfl); k_whole; intro g' L' h' FG' F' N' B' X' T'; (try dsimp only); (try k_lift B'); (try k_fold)))
local macro_rules | `(tactic| walk_at "no such key") => `(tactic| fail)
local macro_rules | `(tactic| walk_at "ite") => `(tactic| first | (refine ite_neg (by (simp only [List.any_cons, List.any_nil, Bool.or_false, Bool.or_eq_true, Bool.not_eq_true', bne_iff_ne, bne_eq_false_iff_eq, ne_eq, beq_iff_eq, decide_eq_true_eq, Int.fmod_eq_emod_of_nonneg, Int.fdiv_eq_ediv_of_nonneg, Int.reduceLE]); omega) ?_) | (refine ite_pos (by (simp only [List.any_cons, List.any_nil, Bool.or_false, Bool.or_eq_true, Bool.not_eq_true', bne_iff_ne, bne_eq_false_iff_eq, ne_eq, beq_iff_eq, decide_eq_true_eq, Int.fmod_eq_emod_of_nonneg, Int.fdiv_eq_ediv_of_nonneg, Int.reduceLE]); omega) ?_))
local macro_rules | `(tactic| walk_at "compareOp In int ref") => `(tactic| ((with_reducible show wpAny _ _ (compareOp CmpOp.In (Value.int _ _) (Value.ref _)) _ _ _); k_dflt (refine' in_tuple_ints ?t ?i ?_; (case t => exact News.isTup (by k_asm) (by k_mem)); (case i => (repeat constructor)))))
local macro_rules | `(tactic| walk_at "compareOp NotIn int ref") => `(tactic| ((with_reducible show wpAny _ _ (compareOp CmpOp.NotIn (Value.int _ _) (Value.ref _)) _ _ _); k_dflt (refine' notin_tuple_ints ?t ?i ?_; (case t => exact News.isTup (by k_asm) (by k_mem)); (case i => (repeat constructor)))))

local macro_rules | `(tactic| k_qdec) => `(tactic| first | (rewrite [Fast.te17448422675489707002]; kernel_rfl) | (rewrite [Fast.te2458874890965802552]; kernel_rfl))
theorem lawx : PySem.Challenge.rw_qy0005_08.Holds := by
  w_on
  refine holds_law said fun said' => ?_
  refine holds_open (q := hd.view_39) (loose := looses) (Xt := xts) (XP := XL hd.view_39 lvs) (Yf := Hook.obs hook) (Ya := Hook.val hook) (YP := Hook.says hook) (N := 16592) left (Hook.of hook) (Hook.keeps hook) (fun s e => xl_of s (Bool.and_eq_true_iff.mp e).1) XL.keeps (by rfl) (by rfl) (by rfl) (fun s e => recFacts_of (Bool.and_eq_true_iff.mp e).2) ?d4 ?d5 ?d6 ⟨rfl, rfl, rfl, rfl, rfl, ?d7⟩ ?hw ?hc
  case d4 => rfl
  case d5 => exact said'
  case d6 => exact chains_ok
  case d7 => exact tables_ok
  case hw => w_witness2
  clear said'
  unfold hook
  k_go0
  all_goals try k_fold
  k_with_none
  iterate 1 (first | (k_unfold; (try dsimp only)) | (k_end; wrow_close) | walk1 | (dsimp only; walk1) | (leave1; walk_say "STEP leave1"; try dsimp only) | fail "no step")
  refine' exec_cut (σ := Int × Tok) (fun _ => []) (fun c => [(Str.ofString "head", .int c.1 c.2)]) [] (fun _ => True) (by assumption) ?one1 (fun c' u' h' tk' hX1 F' N' => ?r1)
  case one1 =>
    k_steps
    all_goals (first | trivial | ((rename News _ _ _ _ => N9); (rename Fr _ _ _ _ => F9); refine cut_end (_, _) F9 N9 (fun _ h => h) trivial (List.forall_mem_cons.mpr ⟨by with_unfolding_all rfl, List.forall_mem_nil _⟩) ?_; intro z h2 _; have h2'0 := h2 _ (.head _); simp [h2'0]))
  case r1 =>
    obtain ⟨hn, ht⟩ := c'
    dsimp only at F' N'
    iterate 1 (first | (k_unfold; (try dsimp only)) | (k_end; wrow_close) | walk1 | (dsimp only; walk1) | (leave1; walk_say "STEP leave1"; try dsimp only) | fail "no step")
    refine' exec_cut (σ := Nat × Tok) (fun _ => []) (fun c => [(Str.ofString "base", .int (c.1 : Int) c.2)]) [] (fun c => Base2 c.1) (by assumption) ?one2 (fun c' u' h' tk' hb F' N' => ?r2)
    case one2 =>
      k_steps
      all_goals first | (first | trivial | ((rename News _ _ _ _ => N9); (rename Fr _ _ _ _ => F9); refine cut_end (16, _) F9 N9 (fun _ h => h) (.inr rfl) (List.forall_mem_cons.mpr ⟨by with_unfolding_all rfl, List.forall_mem_nil _⟩) ?_; intro z h2 _; have h2'0 := h2 _ (.head _); simp [h2'0])) | (first | trivial | ((rename News _ _ _ _ => N9); (rename Fr _ _ _ _ => F9); refine cut_end (10, _) F9 N9 (fun _ h => h) (.inl rfl) (List.forall_mem_cons.mpr ⟨by with_unfolding_all rfl, List.forall_mem_nil _⟩) ?_; intro z h2 _; have h2'0 := h2 _ (.head _); simp [h2'0]))
    case r2 =>
      obtain ⟨b, bt⟩ := c'
      dsimp only at F' N' hb
      iterate 1 (first | (k_unfold; (try dsimp only)) | (k_end; wrow_close) | walk1 | (dsimp only; walk1) | (leave1; walk_say "STEP leave1"; try dsimp only) | fail "no step")
      refine' exec_cut (σ := Str × Tok) (fun _ => []) (fun c => [(Str.ofString "behind", .str c.1 c.2)]) [] (fun c => Beh b c.1) (by assumption) ?one3 (fun c' u' h' tk' hbeh F' N' => ?r3)
      case one3 =>
        k_with "subscriptTail Name Name ref int" => ((try dsimp only); (with_reducible show wpAny _ _ (subscriptTail _ _ (Value.ref 767) (Value.int _ _)) _ _ _); k_dflt (refine' item_767 ?F ?X ?kb ?_; (case F => k_asm); (case X => k_asm); (case kb => assumption); k_whole))
        k_with "subscriptTail Subscript Name Name BinOp ref int" => ((try dsimp only); (with_reducible show wpAny _ _ (subscriptTail _ _ (Value.ref (behA _)) (Value.int _ _)) _ _ _); k_dflt (refine' item_beh ?F ?X ?kc ?ka ?kb ?_; (case F => k_asm); (case X => k_asm); (case kc => assumption); (case ka => exact kfm_lo); (case kb => exact kfm_hi); k_whole); intro xb tb hB)
        k_steps
        all_goals (first | trivial | ((rename News _ _ _ _ => N9); (rename Fr _ _ _ _ => F9); refine cut_end (_, _) F9 N9 (fun _ h => h) (by assumption) (List.forall_mem_cons.mpr ⟨by with_unfolding_all rfl, List.forall_mem_nil _⟩) ?_; intro z h2 _; have h2'0 := h2 _ (.head _); simp [h2'0]))
      case r3 =>
        obtain ⟨bh, bht⟩ := c'
        dsimp only at F' N' hbeh
        iterate 9 (first | (k_unfold; (try dsimp only)) | (k_end; wrow_close) | walk1 | (dsimp only; walk1) | (leave1; walk_say "STEP leave1"; try dsimp only) | fail "no step")
        refine' exec_cut (σ := Str × Tok × Int × Tok) (fun _ => []) (fun c => [(Str.ofString "text", .str c.1 c.2.1), (Str.ofString "value", .int c.2.2.1 c.2.2.2)]) [Str.ofString "n", Str.ofString "one"] (fun c => TextOk b c.1 c.2.2.1) (by assumption) ?one4 (fun c' u' h' tk' htx F' N' => ?r4)
        case one4 =>
          (first | (k_unfold; (try dsimp only)) | (k_end; wrow_close) | walk1 | (dsimp only; walk1) | (leave1; walk_say "STEP leave1"; try dsimp only) | fail "no step")
          refine src_cut (by assumption) ?src (fun l vs ns nn h' tk' F' N' hi hn1 hn2 => ?loop)
          case src =>
            k_steps
            all_goals ((rename News _ _ _ _ => N9); (rename Fr _ _ _ _ => F9))
            all_goals first | exact ⟨_, [.int 0 _], [0], _, _, _, rfl, rfl, F9, N9, IntsAre.cons 0 _ .nil, by decide, by decide⟩ | exact ⟨_, _, _, _, _, _, rfl, rfl, F9, N9, by assumption, by omega, by omega⟩
          case loop =>
            skip
            refine' kst_listL (σ := Str × Tok × Int × Tok) (fun _ => [(l, listOf vs.toArray nn)]) (fun c => [(Str.ofString "text", .str c.1 c.2.1), (Str.ofString "value", .int c.2.2.1 c.2.2.2)]) (fun _ => True) [Str.ofString "one"] (fun pre c => TextAt b pre.length c.1 c.2.2.1) (Str.ofString "", _, 0, _) rfl (fun _ => .head _) hi (by assumption) (by assumption) trivial (List.forall_mem_cons.mpr ⟨by with_unfolding_all rfl, List.forall_mem_cons.mpr ⟨by with_unfolding_all rfl, List.forall_mem_nil _⟩⟩) text_nil (fun c' pre' post' n' t' u' h' tk' own' e' hm' hoff' _ hP' F' N' => ?turn) (fun c' u' h' tk' _ hP' F' N' => ?done)
            case turn =>
              obtain ⟨tx, ttk, va, vtk⟩ := c'
              dsimp only at hP' F' N'
              have hb0 : (0 : Int) < (b : Int) := by rcases hb with rfl | rfl <;> decide
              have hb1 : (b : Int) ≤ 16 := by rcases hb with rfl | rfl <;> decide
              have hm1 : 0 ≤ n'.fmod (b : Int) := Int.fmod_nonneg_of_pos _ hb0
              have hm2 : n'.fmod (b : Int) < (b : Int) := Int.fmod_lt_of_pos _ hb0
              have hpl : pre'.length < 48 := by have := congrArg List.length e'; simp at this; omega
              have hlen := hP'.len
              have hbits : IntMulOk va (b : Int) := IntMulOk.of_right (by rcases hb with rfl | rfl <;> decide)
              k_with "subscriptTail Name Name str int" => ((try dsimp only); k_dflt (refine KXi.item (n := 16) (by decide +kernel) (by omega) (by omega) (by decide) ?_); intro kxiE)
              k_with "inplaceOp Add str str" => ((try dsimp only); k_dflt (refine SB.iadd (hsz := ?hsz) ?_; (case hsz => (rw [sizeLine_eq]; omega))); intro _ _)
              k_with "binaryOp Mult int int" => ((try dsimp only); k_dflt (refine mul_is hbits ?_))
              k_steps
              all_goals ((rename News _ _ _ _ => N9); (rename Fr _ _ _ _ => F9))
              all_goals (refine kst_end (_, _, va * (b : Int) + n'.fmod (b : Int), _) F9 N9 (fun p hp => List.mem_append_left _ hp) (fun p hp => List.mem_append_right _ hp) rfl trivial (List.forall_mem_cons.mpr ⟨by with_unfolding_all rfl, List.forall_mem_cons.mpr ⟨by with_unfolding_all rfl, List.forall_mem_nil _⟩⟩) ?_ (by rw [List.length_append, List.length_singleton]; first | exact text_next hb hP' hm1 hm2 rowL | exact text_next hb hP' hm1 hm2 rowS))
              all_goals (intro z h1 h2 h3; (have h2a := h2 _ (.head _)); (have h2b := h2 _ (.tail _ (.head _))); (simp at h3); simp [kstB, h1, h2a, h2b, h3])
            case done =>
              refine ⟨rfl, cut_end c' F' N' (List.forall_mem_nil _) (textOk hn1 hn2 hP') (List.forall_mem_cons.mpr ⟨by with_unfolding_all rfl, List.forall_mem_cons.mpr ⟨by with_unfolding_all rfl, List.forall_mem_nil _⟩⟩) ?_⟩
              intro z h2 h3
              have h2a := h2 _ (.head _)
              have h2b := h2 _ (.tail _ (.head _))
              simp at h3
              simp [kstB, h2a, h2b, h3]
        case r4 =>
          obtain ⟨tx, ttk, va, vtk⟩ := c'
          dsimp only at F' N' htx
          have hva0 : 0 ≤ va := by rw [htx.val]; exact Int.natCast_nonneg _
          k_with_none
          k_with "call ref" => (k_dflt ((show wpAny _ _ (call (Value.ref 776) _) _ _ _); refine' sign_is ?B ?F ?X ?N ?T ?hk ?hdp ?hun hva0 ?_; (case B => k_asm); (case F => k_asm); (case X => k_in); (case N => k_asm); (case T => k_asm); (case hk => exact rfl); (case hdp => decide); (case hun => decide); k_whole); intro h' tk' rr t1 l9 F' N'; (try k_sweep))
          k_with "getMethod ref" => ((with_reducible show wpAny _ _ (getMethod (Value.ref _) (PySem.Str.ofString "append") _) _ _ _); k_dflt (refine' listMethod_K ?N ?m PySem.F.slot_list_append PySem.F.type_list_append ?_; (case N => k_asm); (case m => k_mem)))
          k_with "callWith builtin:list.append" => ((try dsimp only); refine callWith_method1 ?_)
          k_with "call builtin:list.append" => (k_dflt (refine' append_K ?k1 ?k2 ?k3 ?_ ?z; (case k1 => k_asm); (case k2 => k_asm); (case k3 => k_upd); (case z => first | assumption | (simp only [List.size_toArray, List.length_cons, List.length_nil, sizeLine_eq]; omega)); k_whole); intro h' F' N'; (try k_sweep))
          iterate 9 (first | (k_unfold; (try dsimp only)) | (k_end; wrow_close) | walk1 | (dsimp only; walk1) | (leave1; walk_say "STEP leave1"; try dsimp only) | fail "no step")
          (first | (k_unfold; (try dsimp only)) | (k_end; wrow_close) | walk1 | (dsimp only; walk1) | (leave1; walk_say "STEP leave1"; try dsimp only) | fail "no step")
          generalize htb : toldOf va = tb at N'
          generalize hsg : signOf va = sg at N'
          iterate 10 (first | (k_unfold; (try dsimp only)) | (k_end; wrow_close) | walk1 | (dsimp only; walk1) | (leave1; walk_say "STEP leave1"; try dsimp only) | fail "no step")
          iterate 4 (first | (k_unfold; (try dsimp only)) | (k_end; wrow_close) | walk1 | (dsimp only; walk1) | (leave1; walk_say "STEP leave1"; try dsimp only) | fail "no step")
          (rename Addr => dl)
          (rename World => w)
          iterate 3 (first | (k_unfold; (try dsimp only)) | (k_end; wrow_close) | walk1 | (dsimp only; walk1) | (leave1; walk_say "STEP leave1"; try dsimp only) | fail "no step")
          refine' exec_cut (σ := CS) (fun c => (dl, listOf c.its.toArray c.qn) :: c.ext) (fun _ => []) [] (fun c => Mid w va dl tb c.its c.ext) (by assumption) ?one5 (fun c' u' h' tk' hM F' N' => ?r5)
          case one5 =>
            cases tb
            · k_steps
              (rename News _ _ _ _ => N9); (rename Fr _ _ _ _ => F9)
              exact cut_end ⟨[], 0, [], 0⟩ F9 (news_fst N9) (fun _ h => h) Mid.f (List.forall_mem_nil _) (fun z _ _ => rfl)
            · k_steps
              (rename News _ _ _ _ => N9); (rename Fr _ _ _ _ => F9)
              (rename (_ ∧ _) => l9); revert l9; (rename (_ ∧ _) => l8); intro l9
              exact cut_end ⟨[.ref _], 0 + 1, [(_, _), (_, _)], 0⟩ F9 (news_due N9) (fun _ h => h) (Mid.t (c := ⟨_, _, _, _, 0⟩) ⟨l8.1, l9.2.1, l9.1, by assumption, by assumption, ⟨_, _, by assumption⟩, ⟨_, _, _, _, _, by assumption⟩⟩) (List.forall_mem_nil _) (fun z _ _ => rfl)
          case r5 =>
            obtain ⟨its, dn, ext, t0⟩ := c'
            dsimp only at F' N' hM
            have hvz := hM.short
            have hoffd := hM.off
            have hbz : bh.length ≤ sizeLine := by have := hbeh.short; rw [sizeLine_eq]; omega
            k_with "subscriptTail" => ((with_reducible rename Fr _ _ _ _ => F'); (with_reducible rename News _ _ _ _ => N'); first | ((with_reducible show wpAny _ _ (subscriptTail _ (Expr.Slice none (some _) none _) _ _) _ _ _); (refine slice_strN_ns (hsz := hbz) (s := ⟨_, _, _, _, _⟩) F' N' ?_)) | ((with_reducible show wpAny _ _ (subscriptTail _ (Expr.Slice (some _) none none _) _ _) _ _ _); (refine slice_strN_sn (hsz := hbz) (s := ⟨_, _, _, _, _⟩) F' N' ?_)); intro _ _ _ _ _)
            k_with "ite" => first | (refine ite_pos (by with_reducible assumption) ?_) | (refine ite_neg (Bool.eq_false_iff.mp (by with_reducible assumption)) ?_)
            iterate 1 (first | (k_unfold; (try dsimp only)) | (k_end; wrow_close) | walk1 | (dsimp only; walk1) | (leave1; walk_say "STEP leave1"; try dsimp only) | fail "no step")
            refine' exec_cut (σ := DS) (fun c => (dl, listOf c.its.toArray c.qn) :: c.ext) (fun c => [(Str.ofString "rest", .str c.rest c.t)]) [] (fun c => Que w va dl tb (semiB bh 0) c.its c.ext ∧ c.rest = restOf bh) (by assumption) ?one6 (fun c' u' h' tk' hQ F' N' => ?r6)
            case one6 =>
              cases hsm : semiB bh 0
              · have hS : (Txt.slice bh none (some 1) == Str.ofString ";") = false := hbeh.semi.trans hsm
                k_steps
                (rename News _ _ _ _ => N9); (rename Fr _ _ _ _ => F9)
                (rename (_ ∧ _) => l9)
                (try simp only [List.push_toArray] at N9)
                exact cut_end ⟨its ++ [.ref _], dn + 1, (_, _) :: ext, bh, _⟩ F9 (news_swap N9) (fun _ h => h) ⟨Que.n hM l9.1 l9.2 (by assumption) ⟨_, _, _, _, by assumption⟩, by unfold restOf; rw [if_neg (by rw [hsm]; exact Bool.false_ne_true)]⟩ (List.forall_mem_cons.mpr ⟨by with_unfolding_all rfl, List.forall_mem_nil _⟩) (by intro z h2 _; have h2a := h2 _ (.head _); simp [h2a])
              · have hS : (Txt.slice bh none (some 1) == Str.ofString ";") = true := hbeh.semi.trans hsm
                k_steps
                (rename News _ _ _ _ => N9); (rename Fr _ _ _ _ => F9)
                exact cut_end ⟨its, dn, ext, Txt.slice bh (some (1 : Int)) none, _⟩ F9 N9 (fun _ h => h) ⟨Que.y hM, by unfold restOf; rw [if_pos hsm]⟩ (List.forall_mem_cons.mpr ⟨by with_unfolding_all rfl, List.forall_mem_nil _⟩) (by intro z h2 _; have h2a := h2 _ (.head _); simp [h2a])
            case r6 =>
              obtain ⟨its2, dn2, ext2, rst, t2⟩ := c'
              obtain ⟨hQ1, hrest⟩ := hQ
              dsimp only at F' N' hQ1 hrest
              generalize hown : ((dl, listOf its2.toArray dn2) :: ext2 : List (Addr × Obj)) = own at N'
              have hsx := sub_le htx hbeh
              have hsl := htx.top
              have hsb := hbeh.short
              k_with_none
              k_with "binaryOp Add str str" => ((try dsimp only); k_dflt (refine SB.add (hsz := ?hsz) ?_; (case hsz => (rw [sizeLine_eq]; omega))); intro _ _)
              k_with "call ref" => (k_dflt ((show wpAny _ _ (call (Value.ref 762) _) _ _ _); refine' make_is ?B ?F ?X ?N ?T ?hk ?hdp ?hun hsx.2 ?_; (case B => k_asm); (case F => k_asm); (case X => k_in); (case N => k_asm); (case T => k_asm); (case hk => exact rfl); (case hdp => decide); (case hun => decide); k_whole); intro h' tk' dT T dx x mo nl dds ds er lf st k kt j1 j2 tc ts to tpl tpc tp m0 m1 m2 m3 m4 m5 m6 F' N'; (try k_sweep))
              iterate 12 (first | (k_unfold; (try dsimp only)) | (k_end; wrow_close) | walk1 | (dsimp only; walk1) | (leave1; walk_say "STEP leave1"; try dsimp only) | fail "no step")
              (first | (k_unfold; (try dsimp only)) | (k_end; wrow_close) | walk1 | (dsimp only; walk1) | (leave1; walk_say "STEP leave1"; try dsimp only) | fail "no step")
              iterate 3 (first | (k_unfold; (try dsimp only)) | (k_end; wrow_close) | walk1 | (dsimp only; walk1) | (leave1; walk_say "STEP leave1"; try dsimp only) | fail "no step")
              have hoffA := off_ord m0 m1 m2 m3 m4 m5 m6
              have n1 := ltN m1
              have n2 := ltN m2
              have n3 := ltN m3
              have n4 := ltN m4
              have n5 := ltN m5
              have n6 := ltN m6
              iterate 22 (first | (k_unfold; (try dsimp only)) | (k_end; wrow_close) | walk1 | (dsimp only; walk1) | (leave1; walk_say "STEP leave1"; try dsimp only) | fail "no step")
              (rename (_ ∧ _) => lq)
              have hoffq := off_ordq m0 m1 m2 m3 m4 m5 m6 lq.2.2.2.1
              have hfx := fine_app (fine_tx htx) hbeh.fine
              have hnl : tx.length ≤ (tx ++ bh).length := by rw [app_len]; omega
              (rename News _ _ _ _ => N7)
              have N8 := news_q8 N7
              refine' consume (nd := tx.length) (V := va) ?B ?F ?X N8 ?T ?hk ?hdp ?hun hb ?hx hoffq m1 m2 m3 m4 m5 m6 lq.2.2.2.1 hfx hsx.1 hsx.2 htx.low hnl (dig_app htx) (stop_app hbeh) (num_app htx) ?_
              case B => k_asm
              case F => k_asm
              case X => k_in
              case T => k_asm
              case hk => exact rfl
              case hdp => decide
              case hun => decide
              case hx => rcases hb with rfl | rfl <;> rfl
              intro h' tk' tch items qn' extq ck off pc u1 u2 u3 u4 u5 u6 hQ2 c1 c2 c3 c4 c5 c6 F' N'
              rw [hsg]
              rw [htb, semi_app] at hQ2
              subst hown
              k_with "ite" => (refine ite_neg (by simp; done) ?_)
              iterate 10 (first | (k_unfold; (try dsimp only)) | (k_end; wrow_close) | walk1 | (dsimp only; walk1) | (leave1; walk_say "STEP leave1"; try dsimp only) | fail "no step")
              (rename News _ _ _ _ => N9)
              refine que_ne (n1 := qn') (n2 := dn2) N9 (by simp only [units_deeper, units_caller, cLine_is]; decide) hQ2 hQ1 ?mq ?md ?me1 ?me2 ?_
              case mq => exact .tail _ (.tail _ (.tail _ (.tail _ (.tail _ (.head _)))))
              case md => exact .tail _ (.tail _ (.tail _ (.tail _ (.tail _ (.tail _ (.tail _ (.tail _ (List.mem_append_right _ (.head _)))))))))
              case me1 => exact fun p hp => .tail _ (.tail _ (.tail _ (.tail _ (.tail _ (.tail _ (.tail _ (.tail _ (List.mem_append_left _ hp))))))))
              case me2 => exact fun p hp => .tail _ (.tail _ (.tail _ (.tail _ (.tail _ (.tail _ (.tail _ (.tail _ (List.mem_append_right _ (.tail _ hp)))))))))
              iterate 7 (first | (k_unfold; (try dsimp only)) | (k_end; wrow_close) | walk1 | (dsimp only; walk1) | (leave1; walk_say "STEP leave1"; try dsimp only) | fail "no step")
              refine wpAny_If ?_
              refine exec_cut1 false (by assumption) (by assumption) ?tst (fun h' tk' F' N' => ?bod)
              case tst =>
                k_with_none
                (rename News _ _ _ _ => N9)
                cases tb
                · k_steps
                  all_goals first | exact True.intro | ((rename Fr _ _ _ _ => F9); exact F9) | ((rename News _ _ _ _ => N9); exact N9)
                · generalize semiB bh 0 = sm at hQ2
                  cases hQ2 with
                  | y hM2 =>
                    cases hM2 with
                    | t hc2 =>
                      obtain ⟨-, -, -, s3, s4, ⟨_, _, v3⟩, ⟨_, _, _, _, _, v4⟩⟩ := hc2
                      simp only [List.cons_append, List.nil_append] at N9
                      k_steps
                      all_goals first | exact True.intro | ((rename Fr _ _ _ _ => F9); exact F9) | ((rename News _ _ _ _ => N9); exact N9)
                  | n hM2 d1 d2 d3 d4 =>
                    cases hM2 with
                    | t hc2 =>
                      obtain ⟨-, -, -, s3, s4, ⟨_, _, v3⟩, ⟨_, _, _, _, _, v4⟩⟩ := hc2
                      simp only [List.cons_append, List.nil_append] at N9
                      k_steps
                      all_goals first | exact True.intro | ((rename Fr _ _ _ _ => F9); exact F9) | ((rename News _ _ _ _ => N9); exact N9)
              case bod =>
                rw [if_neg Bool.false_ne_true]
                iterate 11 (first | (k_unfold; (try dsimp only)) | (k_end; wrow_close) | walk1 | (dsimp only; walk1) | (leave1; walk_say "STEP leave1"; try dsimp only) | fail "no step")
                (rename News _ _ _ _ => N9)
                k_dflt (refine' pos_is ?B ?F ?X N9 ?T ?hk ?hdp ?hun ?hoff m3 ?h0 ?h1 ?h2 ?h3 c1 ?_)
                case B => k_asm
                case F => k_asm
                case X => k_in
                case T => k_asm
                case hk => exact rfl
                case hdp => decide
                case hun => decide
                case hoff => exact off_rest2 (off_rest hQ2 hoffq m1 m2 m3 m4 m5 m6 lq.2.2.2.1) m3 (toA (by omega)) m6
                case h0 => omega
                case h1 => omega
                case h2 => omega
                case h3 => omega
                intro h' tk' r v1 v2 lr F' N'
                have hrl : rst.length ≤ 3 := by rw [hrest]; exact rest_le hbeh
                k_with_none
                k_with "binaryOp Add str str" => ((try dsimp only); k_dflt (refine SB.add (hsz := ?hsz) ?_; (case hsz => (rw [sizeLine_eq]; omega))); intro _ _)
                k_with "call builtin:len" => ((try dsimp only); (first | (show wpAny _ _ (call _ [Value.str rst _]) _ _ _; refine len_is (by omega) ?_) | refine len_is (by omega) ?_); intro _ _)
                iterate 25 (first | (k_unfold; (try dsimp only)) | (k_end; wrow_close) | walk1 | (dsimp only; walk1) | (leave1; walk_say "STEP leave1"; try dsimp only) | fail "no step")
                have hpos : ((pc : Int) + (off : Int)) = ((tx ++ bh).length : Int) - (rst.length : Int) := by
                  rw [hrest, rest_len, ← c5]; omega
                (rename News _ _ _ _ => N9)
                rw [hpos] at N9
                iterate 17 (first | (k_unfold; (try dsimp only)) | (k_end; wrow_close) | walk1 | (dsimp only; walk1) | (leave1; walk_say "STEP leave1"; try dsimp only) | fail "no step")
                (rename News _ _ _ _ => N9)
                (rename (_ ∧ _) => lc)
                k_dflt (refine' chars ?B ?F ?X (news_ch N9) ?T ?hk ?hdp ?hun (.head _) ?hoff m3 (toA (by omega)) m6 c1 c2 c3 c4 hsx.2 ?_)
                case B => k_asm
                case F => k_asm
                case X => k_in
                case T => k_asm
                case hk => exact rfl
                case hdp => decide
                case hun => decide
                case hoff => exact off_cons2 (off_four lc.2.2.1 lc.2.2.2.1 lc.2.2.2.2.1 lc.2.2.2.2.2.1) (off_rest hQ2 hoffq m1 m2 m3 m4 m5 m6 lq.2.2.2.1)
                intro h' tk' w1 F' N'
                have hfin : Txt.slice ck (some (off : Int)) none = rst := by rw [c6, rest_is, hrest]
                rw [hfin]
                k_steps
end Mine
end

open PySem PySem.W PyProof.Rows
theorem PySem.Challenge.cw_qy0005_08_holds : PySem.Challenge.rw_qy0005_08.Holds :=
  Mine.lawx
