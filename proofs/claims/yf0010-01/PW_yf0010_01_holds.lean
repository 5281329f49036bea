import PyProof.Rows.All
import PyProof.StrReplace2
import Wide.All
import OpenK.AllK
import Wide.FinOn
import Lean
import PySem.Challenge.RW_yf0010_01
set_option linter.all false
set_option Elab.async false
set_option autoImplicit false
set_option maxRecDepth 100000
namespace YF
section
open PySem PySem.W PySem.Calls PyProof.Rows PySem.Spec
noncomputable abbrev pw : Program := PySem.Challenge.pw_yf0010_01
noncomputable def nthS : List Stmt → Nat → Stmt
  | s :: _, 0 => s
  | _ :: r, n + 1 => nthS r n
  | [], _ => .Pass ⟨0, 0, 0, 0⟩
noncomputable def stAt (n : Nat) : Stmt := nthS PySem.Challenge.pw_yf0010_01.main.body n
noncomputable def fnArgs : Stmt → Arguments
  | .FunctionDef _ a _ _ _ _ _ _ _ _ => a
  | _ => default
noncomputable def fnBody : Stmt → List Stmt
  | .FunctionDef _ _ b _ _ _ _ _ _ _ => b
  | _ => []
noncomputable def fnScope : Stmt → Scope
  | .FunctionDef _ _ _ _ _ _ s _ _ _ => s
  | _ => default
noncomputable def ents (l : List (Int × Tok)) : Array (Int × Value) := (l.map fun p => (p.1, Value.int p.1 p.2)).toArray
noncomputable def b1S : List (Int × Tok) := [(65024, 338), (65025, 339), (65026, 340), (65027, 341), (65028, 342), (65029, 343), (6150, 324), (65030, 344), (65031, 345), (65032, 346), (65033, 347), (6155, 325), (6156, 326), (6157, 327), (8203, 328), (8204, 329), (8205, 330), (65034, 348), (65035, 349), (65036, 350), (65037, 351), (65038, 352), (65039, 353), (173, 322), (847, 323), (8288, 331), (65279, 332)]
noncomputable def c6S : List (Int × Tok) := [(65529, 407), (65530, 409), (65531, 411), (65532, 413), (65533, 415)]
noncomputable def c7S : List (Int × Tok) := [(12272, 428), (12273, 430), (12274, 432), (12275, 434), (12276, 436), (12277, 438), (12278, 440), (12279, 442), (12280, 444), (12281, 446), (12282, 448), (12283, 450)]
noncomputable def c8S : List (Int × Tok) := [(832, 460), (833, 461), (8234, 469), (8235, 470), (8236, 471), (8237, 472), (8206, 462), (8207, 463), (8238, 473), (8298, 479), (8299, 480), (8300, 481), (8301, 482), (8302, 483), (8303, 484)]
noncomputable def c9S : List (Int × Tok) := [(917505, 508), (917536, 514), (917537, 515), (917538, 516), (917539, 517), (917540, 518), (917541, 519), (917542, 520), (917543, 521), (917544, 522), (917545, 523), (917546, 524), (917547, 525), (917548, 526), (917549, 527), (917550, 528), (917551, 529), (917552, 530), (917553, 531), (917554, 532), (917555, 533), (917556, 534), (917557, 535), (917558, 536), (917559, 537), (917560, 538), (917561, 539), (917562, 540), (917563, 541), (917564, 542), (917565, 543), (917566, 544), (917567, 545), (917568, 546), (917569, 547), (917570, 548), (917571, 549), (917572, 550), (917573, 551), (917574, 552), (917575, 553), (917576, 554), (917577, 555), (917578, 556), (917579, 557), (917580, 558), (917581, 559), (917582, 560), (917583, 561), (917584, 562), (917585, 563), (917586, 564), (917587, 565), (917588, 566), (917589, 567), (917590, 568), (917591, 569), (917592, 570), (917593, 571), (917594, 572), (917595, 573), (917596, 574), (917597, 575), (917598, 576), (917599, 577), (917600, 578), (917601, 579), (917602, 580), (917603, 581), (917604, 582), (917605, 583), (917606, 584), (917607, 585), (917608, 586), (917609, 587), (917610, 588), (917611, 589), (917612, 590), (917613, 591), (917614, 592), (917615, 593), (917616, 594), (917617, 595), (917618, 596), (917619, 597), (917620, 598), (917621, 599), (917622, 600), (917623, 601), (917624, 602), (917625, 603), (917626, 604), (917627, 605), (917628, 606), (917629, 607), (917630, 608), (917631, 609)]
noncomputable def o11 (P : Params) : Obj := ⟨(.type "tuple"), none, (.seq #[] 0), #[]⟩
noncomputable def o12 (P : Params) : Obj := ⟨.none, none, (.fields #[(.int 2 0), (.int 0 0), (.ref 20), (.int 4 0), (.int 0 0), (.ref 27), (.int 6 0), (.int 0 0), (.ref 34), (.int 8 0), (.int 0 0), (.ref 41), (.int 14 0), (.int 0 0), (.ref 48), (.int 20 0), (.int 0 0), (.ref 55), (.int 23 0), (.int 0 0), (.ref 62), (.int 26 0), (.int 0 0), (.ref 69), (.int 29 0), (.int 0 0), (.ref 76), (.int 32 0), (.int 0 0), (.ref 83), (.int 36 0), (.int 0 0), (.ref 90), (.int 38 0), (.int 0 0), (.ref 103), (.int 40 0), (.int 0 0), (.ref 115), (.int 59 0), (.int 0 0), (.ref 133), (.int 61 0), (.int 0 0), (.ref 140), (.int 63 0), (.int 0 0), (.ref 147), (.int 71 0), (.int 0 0), (.ref 159), (.int 74 0), (.int 0 0), (.ref 171), (.int 77 0), (.int 0 0), (.ref 195), (.int 80 0), (.int 0 0), (.ref 213), (.int 83 0), (.int 0 0), (.ref 220), (.int 88 0), (.int 0 0), (.ref 225), (.int 90 0), (.int 0 0), (.ref 230), (.int 100 0), (.int 0 0), (.ref 237), (.int 102 0), (.int 0 0), (.ref 244), (.int 104 0), (.int 0 0), (.ref 251), (.int 106 0), (.int 0 0), (.ref 258), (.int 112 0), (.int 0 0), (.ref 265), (.int 125 0), (.int 0 0), (.ref 272), (.int 132 0), (.int 0 0), (.ref 279), (.int 137 0), (.int 0 0), (.ref 284), (.int 142 0), (.int 0 0), (.ref 291), (.int 147 0), (.int 0 0), (.ref 298), (.int 149 0), (.int 0 0), (.ref 305), (.int 154 0), (.int 0 0), (.ref 312), (.int 156 0), (.int 0 0), (.ref 317), (.int 162 0), (.int 0 0), (.ref 322)]), #[]⟩
noncomputable def o13 (P : Params) : Obj := ⟨(.type "code"), none, (.fields #[(.str (Str.ofString "<module>") 182), (.str (Str.ofString "<module>") 183), (.str (Str.ofString "/claim/cut.py") 184), (.int 1 0), (.int 0 0), (.int 0 0), (.int 0 0), (.int 0 0), (.ref 11), (.bool false), (.int 181 0), (.ref 12), .none, .none, .none, .none, (.int 185 0), (.int 1 0), (.str (Str.ofString "/claim/cut.py") 186)]), #[]⟩
noncomputable def o14 (P : Params) : Obj := ⟨(.type "frame"), none, .plain, #[some (.ref 13), some (.ref 3), some (.ref 3), none, some (.str (Str.ofString "__main__") 164), none, some (.ref 0)]⟩
noncomputable def o15 (P : Params) : Obj := ⟨(.type "tuple"), none, (.seq #[] 0), #[]⟩
noncomputable def o16 (P : Params) : Obj := ⟨.none, none, (.fields #[]), #[]⟩
noncomputable def o17 (P : Params) : Obj := ⟨(.type "tuple"), none, (.seq #[(.str (Str.ofString "a") 192)] 0), #[]⟩
noncomputable def o18 (P : Params) : Obj := ⟨(.type "tuple"), none, (.seq #[] 0), #[]⟩
noncomputable def o19 (P : Params) : Obj := ⟨.none, none, (.func ⟨(Str.ofString "not_"), (Str.ofString "not_"), fnArgs (stAt 1), .stmts (fnBody (stAt 1)), fnScope (stAt 1), 0, [], .none, .none, .none, .none, none, .none, .none, 0⟩), #[]⟩
noncomputable def o20 (P : Params) : Obj := ⟨(.type "code"), none, (.fields #[(.str (Str.ofString "not_") 189), (.str (Str.ofString "not_") 190), (.str (Str.ofString "/claim/cut.py") 191), (.int 2 0), (.int 1 0), (.int 0 0), (.int 0 0), (.int 3 0), (.ref 15), (.bool true), (.int 181 0), (.ref 16), .none, (.ref 17), (.ref 18), (.ref 19), (.int 193 0), (.int 2 0), (.str (Str.ofString "/claim/cut.py") 194)]), #[]⟩
noncomputable def o21 (P : Params) : Obj := ⟨(.type "function"), none, (.func ⟨(Str.ofString "not_"), (Str.ofString "not_"), fnArgs (stAt 1), .stmts (fnBody (stAt 1)), fnScope (stAt 1), 3, [], .none, .none, .none, (.str (Str.ofString "cpy313.operator") 187), none, (.ref 20), .none, 0⟩), #[]⟩
noncomputable def o22 (P : Params) : Obj := ⟨(.type "tuple"), none, (.seq #[] 0), #[]⟩
noncomputable def o23 (P : Params) : Obj := ⟨.none, none, (.fields #[]), #[]⟩
noncomputable def o24 (P : Params) : Obj := ⟨(.type "tuple"), none, (.seq #[(.str (Str.ofString "a") 199), (.str (Str.ofString "b") 200)] 0), #[]⟩
noncomputable def o25 (P : Params) : Obj := ⟨(.type "tuple"), none, (.seq #[] 0), #[]⟩
noncomputable def o26 (P : Params) : Obj := ⟨.none, none, (.func ⟨(Str.ofString "is_"), (Str.ofString "is_"), fnArgs (stAt 2), .stmts (fnBody (stAt 2)), fnScope (stAt 2), 0, [], .none, .none, .none, .none, none, .none, .none, 0⟩), #[]⟩
noncomputable def o27 (P : Params) : Obj := ⟨(.type "code"), none, (.fields #[(.str (Str.ofString "is_") 196), (.str (Str.ofString "is_") 197), (.str (Str.ofString "/claim/cut.py") 198), (.int 4 0), (.int 2 0), (.int 0 0), (.int 0 0), (.int 3 0), (.ref 22), (.bool true), (.int 181 0), (.ref 23), .none, (.ref 24), (.ref 25), (.ref 26), (.int 201 0), (.int 4 0), (.str (Str.ofString "/claim/cut.py") 202)]), #[]⟩
noncomputable def o28 (P : Params) : Obj := ⟨(.type "function"), none, (.func ⟨(Str.ofString "is_"), (Str.ofString "is_"), fnArgs (stAt 2), .stmts (fnBody (stAt 2)), fnScope (stAt 2), 3, [], .none, .none, .none, (.str (Str.ofString "cpy313.operator") 187), none, (.ref 27), .none, 0⟩), #[]⟩
noncomputable def o29 (P : Params) : Obj := ⟨(.type "tuple"), none, (.seq #[] 0), #[]⟩
noncomputable def o30 (P : Params) : Obj := ⟨.none, none, (.fields #[]), #[]⟩
noncomputable def o31 (P : Params) : Obj := ⟨(.type "tuple"), none, (.seq #[(.str (Str.ofString "a") 207)] 0), #[]⟩
noncomputable def o32 (P : Params) : Obj := ⟨(.type "tuple"), none, (.seq #[] 0), #[]⟩
noncomputable def o33 (P : Params) : Obj := ⟨.none, none, (.func ⟨(Str.ofString "neg"), (Str.ofString "neg"), fnArgs (stAt 3), .stmts (fnBody (stAt 3)), fnScope (stAt 3), 0, [], .none, .none, .none, .none, none, .none, .none, 0⟩), #[]⟩
noncomputable def o34 (P : Params) : Obj := ⟨(.type "code"), none, (.fields #[(.str (Str.ofString "neg") 204), (.str (Str.ofString "neg") 205), (.str (Str.ofString "/claim/cut.py") 206), (.int 6 0), (.int 1 0), (.int 0 0), (.int 0 0), (.int 3 0), (.ref 29), (.bool true), (.int 181 0), (.ref 30), .none, (.ref 31), (.ref 32), (.ref 33), (.int 208 0), (.int 6 0), (.str (Str.ofString "/claim/cut.py") 209)]), #[]⟩
noncomputable def o35 (P : Params) : Obj := ⟨(.type "function"), none, (.func ⟨(Str.ofString "neg"), (Str.ofString "neg"), fnArgs (stAt 3), .stmts (fnBody (stAt 3)), fnScope (stAt 3), 3, [], .none, .none, .none, (.str (Str.ofString "cpy313.operator") 187), none, (.ref 34), .none, 0⟩), #[]⟩
noncomputable def o36 (P : Params) : Obj := ⟨(.type "tuple"), none, (.seq #[] 0), #[]⟩
noncomputable def o37 (P : Params) : Obj := ⟨.none, none, (.fields #[]), #[]⟩
noncomputable def o38 (P : Params) : Obj := ⟨(.type "tuple"), none, (.seq #[(.str (Str.ofString "a") 214), (.str (Str.ofString "b") 215), (.str (Str.ofString "count") 216), (.str (Str.ofString "i") 217)] 0), #[]⟩
noncomputable def o39 (P : Params) : Obj := ⟨(.type "tuple"), none, (.seq #[] 0), #[]⟩
noncomputable def o40 (P : Params) : Obj := ⟨.none, none, (.func ⟨(Str.ofString "countOf"), (Str.ofString "countOf"), fnArgs (stAt 4), .stmts (fnBody (stAt 4)), fnScope (stAt 4), 0, [], .none, .none, .none, .none, none, .none, .none, 0⟩), #[]⟩
noncomputable def o41 (P : Params) : Obj := ⟨(.type "code"), none, (.fields #[(.str (Str.ofString "countOf") 211), (.str (Str.ofString "countOf") 212), (.str (Str.ofString "/claim/cut.py") 213), (.int 8 0), (.int 2 0), (.int 0 0), (.int 0 0), (.int 3 0), (.ref 36), (.bool true), (.int 181 0), (.ref 37), .none, (.ref 38), (.ref 39), (.ref 40), (.int 218 0), (.int 8 0), (.str (Str.ofString "/claim/cut.py") 219)]), #[]⟩
noncomputable def o42 (P : Params) : Obj := ⟨(.type "function"), none, (.func ⟨(Str.ofString "countOf"), (Str.ofString "countOf"), fnArgs (stAt 4), .stmts (fnBody (stAt 4)), fnScope (stAt 4), 3, [], .none, .none, .none, (.str (Str.ofString "cpy313.operator") 187), none, (.ref 41), .none, 0⟩), #[]⟩
noncomputable def o43 (P : Params) : Obj := ⟨(.type "tuple"), none, (.seq #[] 0), #[]⟩
noncomputable def o44 (P : Params) : Obj := ⟨.none, none, (.fields #[]), #[]⟩
noncomputable def o45 (P : Params) : Obj := ⟨(.type "tuple"), none, (.seq #[(.str (Str.ofString "a") 224), (.str (Str.ofString "b") 225), (.str (Str.ofString "i") 226), (.str (Str.ofString "j") 227)] 0), #[]⟩
noncomputable def o46 (P : Params) : Obj := ⟨(.type "tuple"), none, (.seq #[] 0), #[]⟩
noncomputable def o47 (P : Params) : Obj := ⟨.none, none, (.func ⟨(Str.ofString "indexOf"), (Str.ofString "indexOf"), fnArgs (stAt 5), .stmts (fnBody (stAt 5)), fnScope (stAt 5), 0, [], .none, .none, .none, .none, none, .none, .none, 0⟩), #[]⟩
noncomputable def o48 (P : Params) : Obj := ⟨(.type "code"), none, (.fields #[(.str (Str.ofString "indexOf") 221), (.str (Str.ofString "indexOf") 222), (.str (Str.ofString "/claim/cut.py") 223), (.int 14 0), (.int 2 0), (.int 0 0), (.int 0 0), (.int 3 0), (.ref 43), (.bool true), (.int 181 0), (.ref 44), .none, (.ref 45), (.ref 46), (.ref 47), (.int 228 0), (.int 14 0), (.str (Str.ofString "/claim/cut.py") 229)]), #[]⟩
noncomputable def o49 (P : Params) : Obj := ⟨(.type "function"), none, (.func ⟨(Str.ofString "indexOf"), (Str.ofString "indexOf"), fnArgs (stAt 5), .stmts (fnBody (stAt 5)), fnScope (stAt 5), 3, [], .none, .none, .none, (.str (Str.ofString "cpy313.operator") 187), none, (.ref 48), .none, 0⟩), #[]⟩
noncomputable def o50 (P : Params) : Obj := ⟨(.type "tuple"), none, (.seq #[] 0), #[]⟩
noncomputable def o51 (P : Params) : Obj := ⟨.none, none, (.fields #[]), #[]⟩
noncomputable def o52 (P : Params) : Obj := ⟨(.type "tuple"), none, (.seq #[(.str (Str.ofString "a") 234), (.str (Str.ofString "b") 235)] 0), #[]⟩
noncomputable def o53 (P : Params) : Obj := ⟨(.type "tuple"), none, (.seq #[] 0), #[]⟩
noncomputable def o54 (P : Params) : Obj := ⟨.none, none, (.func ⟨(Str.ofString "iadd"), (Str.ofString "iadd"), fnArgs (stAt 6), .stmts (fnBody (stAt 6)), fnScope (stAt 6), 0, [], .none, .none, .none, .none, none, .none, .none, 0⟩), #[]⟩
noncomputable def o55 (P : Params) : Obj := ⟨(.type "code"), none, (.fields #[(.str (Str.ofString "iadd") 231), (.str (Str.ofString "iadd") 232), (.str (Str.ofString "/claim/cut.py") 233), (.int 20 0), (.int 2 0), (.int 0 0), (.int 0 0), (.int 3 0), (.ref 50), (.bool true), (.int 181 0), (.ref 51), .none, (.ref 52), (.ref 53), (.ref 54), (.int 236 0), (.int 20 0), (.str (Str.ofString "/claim/cut.py") 237)]), #[]⟩
noncomputable def o56 (P : Params) : Obj := ⟨(.type "function"), none, (.func ⟨(Str.ofString "iadd"), (Str.ofString "iadd"), fnArgs (stAt 6), .stmts (fnBody (stAt 6)), fnScope (stAt 6), 3, [], .none, .none, .none, (.str (Str.ofString "cpy313.operator") 187), none, (.ref 55), .none, 0⟩), #[]⟩
noncomputable def o57 (P : Params) : Obj := ⟨(.type "tuple"), none, (.seq #[] 0), #[]⟩
noncomputable def o58 (P : Params) : Obj := ⟨.none, none, (.fields #[]), #[]⟩
noncomputable def o59 (P : Params) : Obj := ⟨(.type "tuple"), none, (.seq #[(.str (Str.ofString "a") 242), (.str (Str.ofString "b") 243)] 0), #[]⟩
noncomputable def o60 (P : Params) : Obj := ⟨(.type "tuple"), none, (.seq #[] 0), #[]⟩
noncomputable def o61 (P : Params) : Obj := ⟨.none, none, (.func ⟨(Str.ofString "imod"), (Str.ofString "imod"), fnArgs (stAt 7), .stmts (fnBody (stAt 7)), fnScope (stAt 7), 0, [], .none, .none, .none, .none, none, .none, .none, 0⟩), #[]⟩
noncomputable def o62 (P : Params) : Obj := ⟨(.type "code"), none, (.fields #[(.str (Str.ofString "imod") 239), (.str (Str.ofString "imod") 240), (.str (Str.ofString "/claim/cut.py") 241), (.int 23 0), (.int 2 0), (.int 0 0), (.int 0 0), (.int 3 0), (.ref 57), (.bool true), (.int 181 0), (.ref 58), .none, (.ref 59), (.ref 60), (.ref 61), (.int 244 0), (.int 23 0), (.str (Str.ofString "/claim/cut.py") 245)]), #[]⟩
noncomputable def o63 (P : Params) : Obj := ⟨(.type "function"), none, (.func ⟨(Str.ofString "imod"), (Str.ofString "imod"), fnArgs (stAt 7), .stmts (fnBody (stAt 7)), fnScope (stAt 7), 3, [], .none, .none, .none, (.str (Str.ofString "cpy313.operator") 187), none, (.ref 62), .none, 0⟩), #[]⟩
noncomputable def o64 (P : Params) : Obj := ⟨(.type "tuple"), none, (.seq #[] 0), #[]⟩
noncomputable def o65 (P : Params) : Obj := ⟨.none, none, (.fields #[]), #[]⟩
noncomputable def o66 (P : Params) : Obj := ⟨(.type "tuple"), none, (.seq #[(.str (Str.ofString "a") 250), (.str (Str.ofString "b") 251)] 0), #[]⟩
noncomputable def o67 (P : Params) : Obj := ⟨(.type "tuple"), none, (.seq #[] 0), #[]⟩
noncomputable def o68 (P : Params) : Obj := ⟨.none, none, (.func ⟨(Str.ofString "imul"), (Str.ofString "imul"), fnArgs (stAt 8), .stmts (fnBody (stAt 8)), fnScope (stAt 8), 0, [], .none, .none, .none, .none, none, .none, .none, 0⟩), #[]⟩
noncomputable def o69 (P : Params) : Obj := ⟨(.type "code"), none, (.fields #[(.str (Str.ofString "imul") 247), (.str (Str.ofString "imul") 248), (.str (Str.ofString "/claim/cut.py") 249), (.int 26 0), (.int 2 0), (.int 0 0), (.int 0 0), (.int 3 0), (.ref 64), (.bool true), (.int 181 0), (.ref 65), .none, (.ref 66), (.ref 67), (.ref 68), (.int 252 0), (.int 26 0), (.str (Str.ofString "/claim/cut.py") 253)]), #[]⟩
noncomputable def o70 (P : Params) : Obj := ⟨(.type "function"), none, (.func ⟨(Str.ofString "imul"), (Str.ofString "imul"), fnArgs (stAt 8), .stmts (fnBody (stAt 8)), fnScope (stAt 8), 3, [], .none, .none, .none, (.str (Str.ofString "cpy313.operator") 187), none, (.ref 69), .none, 0⟩), #[]⟩
noncomputable def o71 (P : Params) : Obj := ⟨(.type "tuple"), none, (.seq #[] 0), #[]⟩
noncomputable def o72 (P : Params) : Obj := ⟨.none, none, (.fields #[]), #[]⟩
noncomputable def o73 (P : Params) : Obj := ⟨(.type "tuple"), none, (.seq #[(.str (Str.ofString "a") 258), (.str (Str.ofString "b") 259)] 0), #[]⟩
noncomputable def o74 (P : Params) : Obj := ⟨(.type "tuple"), none, (.seq #[] 0), #[]⟩
noncomputable def o75 (P : Params) : Obj := ⟨.none, none, (.func ⟨(Str.ofString "ipow"), (Str.ofString "ipow"), fnArgs (stAt 9), .stmts (fnBody (stAt 9)), fnScope (stAt 9), 0, [], .none, .none, .none, .none, none, .none, .none, 0⟩), #[]⟩
noncomputable def o76 (P : Params) : Obj := ⟨(.type "code"), none, (.fields #[(.str (Str.ofString "ipow") 255), (.str (Str.ofString "ipow") 256), (.str (Str.ofString "/claim/cut.py") 257), (.int 29 0), (.int 2 0), (.int 0 0), (.int 0 0), (.int 3 0), (.ref 71), (.bool true), (.int 181 0), (.ref 72), .none, (.ref 73), (.ref 74), (.ref 75), (.int 260 0), (.int 29 0), (.str (Str.ofString "/claim/cut.py") 261)]), #[]⟩
noncomputable def o77 (P : Params) : Obj := ⟨(.type "function"), none, (.func ⟨(Str.ofString "ipow"), (Str.ofString "ipow"), fnArgs (stAt 9), .stmts (fnBody (stAt 9)), fnScope (stAt 9), 3, [], .none, .none, .none, (.str (Str.ofString "cpy313.operator") 187), none, (.ref 76), .none, 0⟩), #[]⟩
noncomputable def o78 (P : Params) : Obj := ⟨(.type "tuple"), none, (.seq #[] 0), #[]⟩
noncomputable def o79 (P : Params) : Obj := ⟨.none, none, (.fields #[]), #[]⟩
noncomputable def o80 (P : Params) : Obj := ⟨(.type "tuple"), none, (.seq #[(.str (Str.ofString "a") 266), (.str (Str.ofString "b") 267)] 0), #[]⟩
noncomputable def o81 (P : Params) : Obj := ⟨(.type "tuple"), none, (.seq #[] 0), #[]⟩
noncomputable def o82 (P : Params) : Obj := ⟨.none, none, (.func ⟨(Str.ofString "isub"), (Str.ofString "isub"), fnArgs (stAt 10), .stmts (fnBody (stAt 10)), fnScope (stAt 10), 0, [], .none, .none, .none, .none, none, .none, .none, 0⟩), #[]⟩
noncomputable def o83 (P : Params) : Obj := ⟨(.type "code"), none, (.fields #[(.str (Str.ofString "isub") 263), (.str (Str.ofString "isub") 264), (.str (Str.ofString "/claim/cut.py") 265), (.int 32 0), (.int 2 0), (.int 0 0), (.int 0 0), (.int 3 0), (.ref 78), (.bool true), (.int 181 0), (.ref 79), .none, (.ref 80), (.ref 81), (.ref 82), (.int 268 0), (.int 32 0), (.str (Str.ofString "/claim/cut.py") 269)]), #[]⟩
noncomputable def o84 (P : Params) : Obj := ⟨(.type "function"), none, (.func ⟨(Str.ofString "isub"), (Str.ofString "isub"), fnArgs (stAt 10), .stmts (fnBody (stAt 10)), fnScope (stAt 10), 3, [], .none, .none, .none, (.str (Str.ofString "cpy313.operator") 187), none, (.ref 83), .none, 0⟩), #[]⟩
noncomputable def o85 (P : Params) : Obj := ⟨(.type "tuple"), none, (.seq #[(.type "Exception")] 0), #[]⟩
noncomputable def o86 (P : Params) : Obj := ⟨(.type "builtin_function_or_method"), none, (.fields #[(.builtin "type.__prepare__"), (.type "type")]), #[]⟩
noncomputable def o87 (P : Params) : Obj := ⟨(.type "dict"), none, (.dict #[⟨PyData.keyHash P (Str.ofString "__module__"), (.str (Str.ofString "__module__") 280), (.str (Str.ofString "cpy313.ftplib") 271)⟩, ⟨PyData.keyHash P (Str.ofString "__qualname__"), (.str (Str.ofString "__qualname__") 282), (.str (Str.ofString "Error") 281)⟩, ⟨PyData.keyHash P (Str.ofString "__firstlineno__"), (.str (Str.ofString "__firstlineno__") 284), (.int 36 283)⟩, ⟨PyData.keyHash P (Str.ofString "__static_attributes__"), (.str (Str.ofString "__static_attributes__") 285), (.ref 92)⟩] 4), #[]⟩
noncomputable def o88 (P : Params) : Obj := ⟨(.type "tuple"), none, (.seq #[] 0), #[]⟩
noncomputable def o89 (P : Params) : Obj := ⟨.none, none, (.fields #[]), #[]⟩
noncomputable def o90 (P : Params) : Obj := ⟨(.type "code"), none, (.fields #[(.str (Str.ofString "Error") 275), (.str (Str.ofString "Error") 276), (.str (Str.ofString "/claim/cut.py") 277), (.int 36 0), (.int 0 0), (.int 0 0), (.int 0 0), (.int 0 0), (.ref 88), (.bool false), (.int 181 0), (.ref 89), .none, .none, .none, .none, (.int 278 0), (.int 36 0), (.str (Str.ofString "/claim/cut.py") 279)]), #[]⟩
noncomputable def o91 (P : Params) : Obj := ⟨(.type "frame"), none, .plain, #[some (.ref 90), some (.ref 3), some (.ref 87), none, some (.str (Str.ofString "cpy313.ftplib") 271), none, some (.ref 0)]⟩
noncomputable def o92 (P : Params) : Obj := ⟨(.type "tuple"), none, (.seq #[] 0), #[]⟩
noncomputable def o93 (P : Params) : Obj := ⟨(.type "dict"), none, (.dict #[⟨PyData.keyHash P (Str.ofString "__module__"), (.str (Str.ofString "__module__") 280), (.str (Str.ofString "cpy313.ftplib") 271)⟩, ⟨PyData.keyHash P (Str.ofString "__firstlineno__"), (.str (Str.ofString "__firstlineno__") 284), (.int 36 283)⟩, ⟨PyData.keyHash P (Str.ofString "__static_attributes__"), (.str (Str.ofString "__static_attributes__") 285), (.ref 92)⟩, ⟨PyData.keyHash P (Str.ofString "__weakref__"), (.str (Str.ofString "__weakref__") 287), (.ref 95)⟩, ⟨PyData.keyHash P (Str.ofString "__doc__"), (.str (Str.ofString "__doc__") 288), .none⟩] 3), #[]⟩
noncomputable def o94 (P : Params) : Obj := ⟨(.type "type"), none, (.cls ⟨(Str.ofString "Error"), [(.type "Exception")], [(.ref 94), (.type "Exception"), (.type "BaseException"), (.type "object")], 93, (Str.ofString "Error"), true, [], [(.ref 107)], false, none, false⟩), #[some (.ref 85), none, some (.str (Str.ofString "Error") 273), some (.str (Str.ofString "Error") 281), some (.builtin "Exception.__new__"), some (.bool true)]⟩
noncomputable def o95 (P : Params) : Obj := ⟨(.type "getset_descriptor"), none, (.fields #[(.str (Str.ofString "__weakref__") 286), (.ref 94), (.builtin "ExceptionGroup.__weakref__"), .none]), #[]⟩
noncomputable def o96 (P : Params) : Obj := ⟨(.type "super"), none, (.fields #[(.ref 94), (.ref 94), (.ref 94)]), #[]⟩
noncomputable def o97 (P : Params) : Obj := ⟨(.type "builtin_function_or_method"), none, (.fields #[(.builtin "object.__init_subclass__"), (.ref 94)]), #[]⟩
noncomputable def o98 (P : Params) : Obj := ⟨(.type "tuple"), none, (.seq #[(.ref 94)] 0), #[]⟩
noncomputable def o99 (P : Params) : Obj := ⟨(.type "builtin_function_or_method"), none, (.fields #[(.builtin "type.__prepare__"), (.type "type")]), #[]⟩
noncomputable def o100 (P : Params) : Obj := ⟨(.type "dict"), none, (.dict #[⟨PyData.keyHash P (Str.ofString "__module__"), (.str (Str.ofString "__module__") 300), (.str (Str.ofString "cpy313.ftplib") 271)⟩, ⟨PyData.keyHash P (Str.ofString "__qualname__"), (.str (Str.ofString "__qualname__") 302), (.str (Str.ofString "error_reply") 301)⟩, ⟨PyData.keyHash P (Str.ofString "__firstlineno__"), (.str (Str.ofString "__firstlineno__") 304), (.int 38 303)⟩, ⟨PyData.keyHash P (Str.ofString "__static_attributes__"), (.str (Str.ofString "__static_attributes__") 305), (.ref 105)⟩] 4), #[]⟩
noncomputable def o101 (P : Params) : Obj := ⟨(.type "tuple"), none, (.seq #[] 0), #[]⟩
noncomputable def o102 (P : Params) : Obj := ⟨.none, none, (.fields #[]), #[]⟩
noncomputable def o103 (P : Params) : Obj := ⟨(.type "code"), none, (.fields #[(.str (Str.ofString "error_reply") 295), (.str (Str.ofString "error_reply") 296), (.str (Str.ofString "/claim/cut.py") 297), (.int 38 0), (.int 0 0), (.int 0 0), (.int 0 0), (.int 0 0), (.ref 101), (.bool false), (.int 181 0), (.ref 102), .none, .none, .none, .none, (.int 298 0), (.int 38 0), (.str (Str.ofString "/claim/cut.py") 299)]), #[]⟩
noncomputable def o104 (P : Params) : Obj := ⟨(.type "frame"), none, .plain, #[some (.ref 103), some (.ref 3), some (.ref 100), none, some (.str (Str.ofString "cpy313.ftplib") 271), none, some (.ref 0)]⟩
noncomputable def o105 (P : Params) : Obj := ⟨(.type "tuple"), none, (.seq #[] 0), #[]⟩
noncomputable def o106 (P : Params) : Obj := ⟨(.type "dict"), none, (.dict #[⟨PyData.keyHash P (Str.ofString "__module__"), (.str (Str.ofString "__module__") 300), (.str (Str.ofString "cpy313.ftplib") 271)⟩, ⟨PyData.keyHash P (Str.ofString "__firstlineno__"), (.str (Str.ofString "__firstlineno__") 304), (.int 38 303)⟩, ⟨PyData.keyHash P (Str.ofString "__static_attributes__"), (.str (Str.ofString "__static_attributes__") 305), (.ref 105)⟩, ⟨PyData.keyHash P (Str.ofString "__doc__"), (.str (Str.ofString "__doc__") 306), .none⟩] 2), #[]⟩
noncomputable def o107 (P : Params) : Obj := ⟨(.type "type"), none, (.cls ⟨(Str.ofString "error_reply"), [(.ref 94)], [(.ref 107), (.ref 94), (.type "Exception"), (.type "BaseException"), (.type "object")], 106, (Str.ofString "error_reply"), true, [], [], false, none, false⟩), #[some (.ref 98), none, some (.str (Str.ofString "error_reply") 293), some (.str (Str.ofString "error_reply") 301), some (.builtin "Exception.__new__"), some (.bool true)]⟩
noncomputable def o108 (P : Params) : Obj := ⟨(.type "super"), none, (.fields #[(.ref 107), (.ref 107), (.ref 107)]), #[]⟩
noncomputable def o109 (P : Params) : Obj := ⟨(.type "builtin_function_or_method"), none, (.fields #[(.builtin "object.__init_subclass__"), (.ref 107)]), #[]⟩
noncomputable def o110 (P : Params) : Obj := ⟨(.type "tuple"), none, (.seq #[] 0), #[]⟩
noncomputable def o111 (P : Params) : Obj := ⟨.none, none, (.fields #[]), #[]⟩
noncomputable def o112 (P : Params) : Obj := ⟨(.type "tuple"), none, (.seq #[(.str (Str.ofString "resp") 312), (.str (Str.ofString "dirname") 313), (.str (Str.ofString "i") 314), (.str (Str.ofString "n") 315), (.str (Str.ofString "c") 316)] 0), #[]⟩
noncomputable def o113 (P : Params) : Obj := ⟨(.type "tuple"), none, (.seq #[] 0), #[]⟩
noncomputable def o114 (P : Params) : Obj := ⟨.none, none, (.func ⟨(Str.ofString "parse257"), (Str.ofString "parse257"), fnArgs (stAt 14), .stmts (fnBody (stAt 14)), fnScope (stAt 14), 0, [], .none, .none, .none, .none, none, .none, .none, 0⟩), #[]⟩
noncomputable def o115 (P : Params) : Obj := ⟨(.type "code"), none, (.fields #[(.str (Str.ofString "parse257") 309), (.str (Str.ofString "parse257") 310), (.str (Str.ofString "/claim/cut.py") 311), (.int 40 0), (.int 1 0), (.int 0 0), (.int 0 0), (.int 3 0), (.ref 110), (.bool true), (.int 181 0), (.ref 111), .none, (.ref 112), (.ref 113), (.ref 114), (.int 317 0), (.int 40 0), (.str (Str.ofString "/claim/cut.py") 318)]), #[]⟩
noncomputable def o116 (P : Params) : Obj := ⟨(.type "function"), none, (.func ⟨(Str.ofString "parse257"), (Str.ofString "parse257"), fnArgs (stAt 14), .stmts (fnBody (stAt 14)), fnScope (stAt 14), 3, [], .none, .none, .none, (.str (Str.ofString "cpy313.ftplib") 271), none, (.ref 115), .none, 0⟩), #[]⟩
noncomputable def o117 (P : Params) : Obj := ⟨(.type "list"), none, (.seq #[(.int 173 322), (.int 847 323), (.int 6150 324), (.int 6155 325), (.int 6156 326), (.int 6157 327), (.int 8203 328), (.int 8204 329), (.int 8205 330), (.int 8288 331), (.int 65279 332)] 0), #[]⟩
noncomputable def o118 (P : Params) : Obj := ⟨(.type "range"), none, (.fields #[(.int 65024 333), (.int 65040 334), (.int 1 335)]), #[]⟩
noncomputable def o119 (P : Params) : Obj := ⟨(.type "list"), none, (.seq #[(.int 65024 338), (.int 65025 339), (.int 65026 340), (.int 65027 341), (.int 65028 342), (.int 65029 343), (.int 65030 344), (.int 65031 345), (.int 65032 346), (.int 65033 347), (.int 65034 348), (.int 65035 349), (.int 65036 350), (.int 65037 351), (.int 65038 352), (.int 65039 353)] 18), #[]⟩
noncomputable def o120 (P : Params) : Obj := ⟨(.type "range_iterator"), none, (.fields #[(.int 65040 0), (.int 0 0), (.int 1 0)]), #[]⟩
noncomputable def o121 (P : Params) : Obj := ⟨(.type "tuple"), none, (.seq #[] 0), #[]⟩
noncomputable def o122 (P : Params) : Obj := ⟨(.type "StopIteration"), none, (.fields #[(.ref 121), .none, .none, .none, (.bool false), .none]), #[]⟩
noncomputable def o123 (P : Params) : Obj := ⟨(.type "list"), none, (.seq #[(.int 173 322), (.int 847 323), (.int 6150 324), (.int 6155 325), (.int 6156 326), (.int 6157 327), (.int 8203 328), (.int 8204 329), (.int 8205 330), (.int 8288 331), (.int 65279 332), (.int 65024 338), (.int 65025 339), (.int 65026 340), (.int 65027 341), (.int 65028 342), (.int 65029 343), (.int 65030 344), (.int 65031 345), (.int 65032 346), (.int 65033 347), (.int 65034 348), (.int 65035 349), (.int 65036 350), (.int 65037 351), (.int 65038 352), (.int 65039 353)] 0), #[]⟩
noncomputable def o124 (P : Params) : Obj := ⟨(.type "set"), none, (.set (ents b1S) 29 ⟨127, #[0, 1, 2, 3, 4, 5, 6, 7, 8, 9, 10, 11, 12, 13, 14, 15, 16, 17, 18, 19, 20, 21, 22, 45, 79, 96, 127], #[], 0, !P.followText "set-order", 2, true⟩), #[]⟩
noncomputable def o125 (P : Params) : Obj := ⟨(.type "list_iterator"), none, (.fields #[.none, (.int 27 0)]), #[]⟩
noncomputable def o126 (P : Params) : Obj := ⟨(.type "tuple"), none, (.seq #[] 0), #[]⟩
noncomputable def o127 (P : Params) : Obj := ⟨(.type "StopIteration"), none, (.fields #[(.ref 126), .none, .none, .none, (.bool false), .none]), #[]⟩
noncomputable def o128 (P : Params) : Obj := ⟨(.type "tuple"), none, (.seq #[] 0), #[]⟩
noncomputable def o129 (P : Params) : Obj := ⟨.none, none, (.fields #[]), #[]⟩
noncomputable def o130 (P : Params) : Obj := ⟨(.type "tuple"), none, (.seq #[(.str (Str.ofString "code") 385)] 0), #[]⟩
noncomputable def o131 (P : Params) : Obj := ⟨(.type "tuple"), none, (.seq #[] 0), #[]⟩
noncomputable def o132 (P : Params) : Obj := ⟨.none, none, (.func ⟨(Str.ofString "in_table_b1"), (Str.ofString "in_table_b1"), fnArgs (stAt 17), .stmts (fnBody (stAt 17)), fnScope (stAt 17), 0, [], .none, .none, .none, .none, none, .none, .none, 0⟩), #[]⟩
noncomputable def o133 (P : Params) : Obj := ⟨(.type "code"), none, (.fields #[(.str (Str.ofString "in_table_b1") 382), (.str (Str.ofString "in_table_b1") 383), (.str (Str.ofString "/claim/cut.py") 384), (.int 59 0), (.int 1 0), (.int 0 0), (.int 0 0), (.int 3 0), (.ref 128), (.bool true), (.int 181 0), (.ref 129), .none, (.ref 130), (.ref 131), (.ref 132), (.int 386 0), (.int 59 0), (.str (Str.ofString "/claim/cut.py") 387)]), #[]⟩
noncomputable def o134 (P : Params) : Obj := ⟨(.type "function"), none, (.func ⟨(Str.ofString "in_table_b1"), (Str.ofString "in_table_b1"), fnArgs (stAt 17), .stmts (fnBody (stAt 17)), fnScope (stAt 17), 3, [], .none, .none, .none, (.str (Str.ofString "cpy313.stringprep") 320), none, (.ref 133), .none, 0⟩), #[]⟩
noncomputable def o135 (P : Params) : Obj := ⟨(.type "tuple"), none, (.seq #[] 0), #[]⟩
noncomputable def o136 (P : Params) : Obj := ⟨.none, none, (.fields #[]), #[]⟩
noncomputable def o137 (P : Params) : Obj := ⟨(.type "tuple"), none, (.seq #[(.str (Str.ofString "code") 392)] 0), #[]⟩
noncomputable def o138 (P : Params) : Obj := ⟨(.type "tuple"), none, (.seq #[] 0), #[]⟩
noncomputable def o139 (P : Params) : Obj := ⟨.none, none, (.func ⟨(Str.ofString "in_table_c11"), (Str.ofString "in_table_c11"), fnArgs (stAt 18), .stmts (fnBody (stAt 18)), fnScope (stAt 18), 0, [], .none, .none, .none, .none, none, .none, .none, 0⟩), #[]⟩
noncomputable def o140 (P : Params) : Obj := ⟨(.type "code"), none, (.fields #[(.str (Str.ofString "in_table_c11") 389), (.str (Str.ofString "in_table_c11") 390), (.str (Str.ofString "/claim/cut.py") 391), (.int 61 0), (.int 1 0), (.int 0 0), (.int 0 0), (.int 3 0), (.ref 135), (.bool true), (.int 181 0), (.ref 136), .none, (.ref 137), (.ref 138), (.ref 139), (.int 393 0), (.int 61 0), (.str (Str.ofString "/claim/cut.py") 394)]), #[]⟩
noncomputable def o141 (P : Params) : Obj := ⟨(.type "function"), none, (.func ⟨(Str.ofString "in_table_c11"), (Str.ofString "in_table_c11"), fnArgs (stAt 18), .stmts (fnBody (stAt 18)), fnScope (stAt 18), 3, [], .none, .none, .none, (.str (Str.ofString "cpy313.stringprep") 320), none, (.ref 140), .none, 0⟩), #[]⟩
noncomputable def o142 (P : Params) : Obj := ⟨(.type "tuple"), none, (.seq #[] 0), #[]⟩
noncomputable def o143 (P : Params) : Obj := ⟨.none, none, (.fields #[]), #[]⟩
noncomputable def o144 (P : Params) : Obj := ⟨(.type "tuple"), none, (.seq #[(.str (Str.ofString "code") 399), (.str (Str.ofString "c") 400)] 0), #[]⟩
noncomputable def o145 (P : Params) : Obj := ⟨(.type "tuple"), none, (.seq #[] 0), #[]⟩
noncomputable def o146 (P : Params) : Obj := ⟨.none, none, (.func ⟨(Str.ofString "in_table_c4"), (Str.ofString "in_table_c4"), fnArgs (stAt 19), .stmts (fnBody (stAt 19)), fnScope (stAt 19), 0, [], .none, .none, .none, .none, none, .none, .none, 0⟩), #[]⟩
noncomputable def o147 (P : Params) : Obj := ⟨(.type "code"), none, (.fields #[(.str (Str.ofString "in_table_c4") 396), (.str (Str.ofString "in_table_c4") 397), (.str (Str.ofString "/claim/cut.py") 398), (.int 63 0), (.int 1 0), (.int 0 0), (.int 0 0), (.int 3 0), (.ref 142), (.bool true), (.int 181 0), (.ref 143), .none, (.ref 144), (.ref 145), (.ref 146), (.int 401 0), (.int 63 0), (.str (Str.ofString "/claim/cut.py") 402)]), #[]⟩
noncomputable def o148 (P : Params) : Obj := ⟨(.type "function"), none, (.func ⟨(Str.ofString "in_table_c4"), (Str.ofString "in_table_c4"), fnArgs (stAt 19), .stmts (fnBody (stAt 19)), fnScope (stAt 19), 3, [], .none, .none, .none, (.str (Str.ofString "cpy313.stringprep") 320), none, (.ref 147), .none, 0⟩), #[]⟩
noncomputable def o149 (P : Params) : Obj := ⟨(.type "range"), none, (.fields #[(.int 65529 404), (.int 65534 405), (.int 1 406)]), #[]⟩
noncomputable def o150 (P : Params) : Obj := ⟨(.type "set"), none, (.set (ents c6S) 6 ⟨31, #[25, 26, 27, 28, 29], #[], 0, !P.followText "set-order", 1, true⟩), #[]⟩
noncomputable def o151 (P : Params) : Obj := ⟨(.type "range_iterator"), none, (.fields #[(.int 65534 0), (.int 0 0), (.int 1 0)]), #[]⟩
noncomputable def o152 (P : Params) : Obj := ⟨(.type "tuple"), none, (.seq #[] 0), #[]⟩
noncomputable def o153 (P : Params) : Obj := ⟨(.type "StopIteration"), none, (.fields #[(.ref 152), .none, .none, .none, (.bool false), .none]), #[]⟩
noncomputable def o154 (P : Params) : Obj := ⟨(.type "tuple"), none, (.seq #[] 0), #[]⟩
noncomputable def o155 (P : Params) : Obj := ⟨.none, none, (.fields #[]), #[]⟩
noncomputable def o156 (P : Params) : Obj := ⟨(.type "tuple"), none, (.seq #[(.str (Str.ofString "code") 421)] 0), #[]⟩
noncomputable def o157 (P : Params) : Obj := ⟨(.type "tuple"), none, (.seq #[] 0), #[]⟩
noncomputable def o158 (P : Params) : Obj := ⟨.none, none, (.func ⟨(Str.ofString "in_table_c6"), (Str.ofString "in_table_c6"), fnArgs (stAt 21), .stmts (fnBody (stAt 21)), fnScope (stAt 21), 0, [], .none, .none, .none, .none, none, .none, .none, 0⟩), #[]⟩
noncomputable def o159 (P : Params) : Obj := ⟨(.type "code"), none, (.fields #[(.str (Str.ofString "in_table_c6") 418), (.str (Str.ofString "in_table_c6") 419), (.str (Str.ofString "/claim/cut.py") 420), (.int 71 0), (.int 1 0), (.int 0 0), (.int 0 0), (.int 3 0), (.ref 154), (.bool true), (.int 181 0), (.ref 155), .none, (.ref 156), (.ref 157), (.ref 158), (.int 422 0), (.int 71 0), (.str (Str.ofString "/claim/cut.py") 423)]), #[]⟩
noncomputable def o160 (P : Params) : Obj := ⟨(.type "function"), none, (.func ⟨(Str.ofString "in_table_c6"), (Str.ofString "in_table_c6"), fnArgs (stAt 21), .stmts (fnBody (stAt 21)), fnScope (stAt 21), 3, [], .none, .none, .none, (.str (Str.ofString "cpy313.stringprep") 320), none, (.ref 159), .none, 0⟩), #[]⟩
noncomputable def o161 (P : Params) : Obj := ⟨(.type "range"), none, (.fields #[(.int 12272 425), (.int 12284 426), (.int 1 427)]), #[]⟩
noncomputable def o162 (P : Params) : Obj := ⟨(.type "set"), none, (.set (ents c7S) 13 ⟨31, #[16, 17, 18, 19, 20, 21, 22, 23, 24, 25, 26, 27], #[], 0, !P.followText "set-order", 1, true⟩), #[]⟩
noncomputable def o163 (P : Params) : Obj := ⟨(.type "range_iterator"), none, (.fields #[(.int 12284 0), (.int 0 0), (.int 1 0)]), #[]⟩
noncomputable def o164 (P : Params) : Obj := ⟨(.type "tuple"), none, (.seq #[] 0), #[]⟩
noncomputable def o165 (P : Params) : Obj := ⟨(.type "StopIteration"), none, (.fields #[(.ref 164), .none, .none, .none, (.bool false), .none]), #[]⟩
noncomputable def o166 (P : Params) : Obj := ⟨(.type "tuple"), none, (.seq #[] 0), #[]⟩
noncomputable def o167 (P : Params) : Obj := ⟨.none, none, (.fields #[]), #[]⟩
noncomputable def o168 (P : Params) : Obj := ⟨(.type "tuple"), none, (.seq #[(.str (Str.ofString "code") 456)] 0), #[]⟩
noncomputable def o169 (P : Params) : Obj := ⟨(.type "tuple"), none, (.seq #[] 0), #[]⟩
noncomputable def o170 (P : Params) : Obj := ⟨.none, none, (.func ⟨(Str.ofString "in_table_c7"), (Str.ofString "in_table_c7"), fnArgs (stAt 23), .stmts (fnBody (stAt 23)), fnScope (stAt 23), 0, [], .none, .none, .none, .none, none, .none, .none, 0⟩), #[]⟩
noncomputable def o171 (P : Params) : Obj := ⟨(.type "code"), none, (.fields #[(.str (Str.ofString "in_table_c7") 453), (.str (Str.ofString "in_table_c7") 454), (.str (Str.ofString "/claim/cut.py") 455), (.int 74 0), (.int 1 0), (.int 0 0), (.int 0 0), (.int 3 0), (.ref 166), (.bool true), (.int 181 0), (.ref 167), .none, (.ref 168), (.ref 169), (.ref 170), (.int 457 0), (.int 74 0), (.str (Str.ofString "/claim/cut.py") 458)]), #[]⟩
noncomputable def o172 (P : Params) : Obj := ⟨(.type "function"), none, (.func ⟨(Str.ofString "in_table_c7"), (Str.ofString "in_table_c7"), fnArgs (stAt 23), .stmts (fnBody (stAt 23)), fnScope (stAt 23), 3, [], .none, .none, .none, (.str (Str.ofString "cpy313.stringprep") 320), none, (.ref 171), .none, 0⟩), #[]⟩
noncomputable def o173 (P : Params) : Obj := ⟨(.type "list"), none, (.seq #[(.int 832 460), (.int 833 461), (.int 8206 462), (.int 8207 463)] 0), #[]⟩
noncomputable def o174 (P : Params) : Obj := ⟨(.type "range"), none, (.fields #[(.int 8234 464), (.int 8239 465), (.int 1 466)]), #[]⟩
noncomputable def o175 (P : Params) : Obj := ⟨(.type "list"), none, (.seq #[(.int 8234 469), (.int 8235 470), (.int 8236 471), (.int 8237 472), (.int 8238 473)] 7), #[]⟩
noncomputable def o176 (P : Params) : Obj := ⟨(.type "range_iterator"), none, (.fields #[(.int 8239 0), (.int 0 0), (.int 1 0)]), #[]⟩
noncomputable def o177 (P : Params) : Obj := ⟨(.type "tuple"), none, (.seq #[] 0), #[]⟩
noncomputable def o178 (P : Params) : Obj := ⟨(.type "StopIteration"), none, (.fields #[(.ref 177), .none, .none, .none, (.bool false), .none]), #[]⟩
noncomputable def o179 (P : Params) : Obj := ⟨(.type "list"), none, (.seq #[(.int 832 460), (.int 833 461), (.int 8206 462), (.int 8207 463), (.int 8234 469), (.int 8235 470), (.int 8236 471), (.int 8237 472), (.int 8238 473)] 0), #[]⟩
noncomputable def o180 (P : Params) : Obj := ⟨(.type "range"), none, (.fields #[(.int 8298 474), (.int 8304 475), (.int 1 476)]), #[]⟩
noncomputable def o181 (P : Params) : Obj := ⟨(.type "list"), none, (.seq #[(.int 8298 479), (.int 8299 480), (.int 8300 481), (.int 8301 482), (.int 8302 483), (.int 8303 484)] 8), #[]⟩
noncomputable def o182 (P : Params) : Obj := ⟨(.type "range_iterator"), none, (.fields #[(.int 8304 0), (.int 0 0), (.int 1 0)]), #[]⟩
noncomputable def o183 (P : Params) : Obj := ⟨(.type "tuple"), none, (.seq #[] 0), #[]⟩
noncomputable def o184 (P : Params) : Obj := ⟨(.type "StopIteration"), none, (.fields #[(.ref 183), .none, .none, .none, (.bool false), .none]), #[]⟩
noncomputable def o185 (P : Params) : Obj := ⟨(.type "list"), none, (.seq #[(.int 832 460), (.int 833 461), (.int 8206 462), (.int 8207 463), (.int 8234 469), (.int 8235 470), (.int 8236 471), (.int 8237 472), (.int 8238 473), (.int 8298 479), (.int 8299 480), (.int 8300 481), (.int 8301 482), (.int 8302 483), (.int 8303 484)] 0), #[]⟩
noncomputable def o186 (P : Params) : Obj := ⟨(.type "set"), none, (.set (ents c8S) 16 ⟨31, #[0, 1, 10, 11, 12, 13, 14, 15, 16, 17, 18, 19, 20, 21, 22], #[], 0, !P.followText "set-order", 1, true⟩), #[]⟩
noncomputable def o187 (P : Params) : Obj := ⟨(.type "list_iterator"), none, (.fields #[.none, (.int 15 0)]), #[]⟩
noncomputable def o188 (P : Params) : Obj := ⟨(.type "tuple"), none, (.seq #[] 0), #[]⟩
noncomputable def o189 (P : Params) : Obj := ⟨(.type "StopIteration"), none, (.fields #[(.ref 188), .none, .none, .none, (.bool false), .none]), #[]⟩
noncomputable def o190 (P : Params) : Obj := ⟨(.type "tuple"), none, (.seq #[] 0), #[]⟩
noncomputable def o191 (P : Params) : Obj := ⟨.none, none, (.fields #[]), #[]⟩
noncomputable def o192 (P : Params) : Obj := ⟨(.type "tuple"), none, (.seq #[(.str (Str.ofString "code") 504)] 0), #[]⟩
noncomputable def o193 (P : Params) : Obj := ⟨(.type "tuple"), none, (.seq #[] 0), #[]⟩
noncomputable def o194 (P : Params) : Obj := ⟨.none, none, (.func ⟨(Str.ofString "in_table_c8"), (Str.ofString "in_table_c8"), fnArgs (stAt 25), .stmts (fnBody (stAt 25)), fnScope (stAt 25), 0, [], .none, .none, .none, .none, none, .none, .none, 0⟩), #[]⟩
noncomputable def o195 (P : Params) : Obj := ⟨(.type "code"), none, (.fields #[(.str (Str.ofString "in_table_c8") 501), (.str (Str.ofString "in_table_c8") 502), (.str (Str.ofString "/claim/cut.py") 503), (.int 77 0), (.int 1 0), (.int 0 0), (.int 0 0), (.int 3 0), (.ref 190), (.bool true), (.int 181 0), (.ref 191), .none, (.ref 192), (.ref 193), (.ref 194), (.int 505 0), (.int 77 0), (.str (Str.ofString "/claim/cut.py") 506)]), #[]⟩
noncomputable def o196 (P : Params) : Obj := ⟨(.type "function"), none, (.func ⟨(Str.ofString "in_table_c8"), (Str.ofString "in_table_c8"), fnArgs (stAt 25), .stmts (fnBody (stAt 25)), fnScope (stAt 25), 3, [], .none, .none, .none, (.str (Str.ofString "cpy313.stringprep") 320), none, (.ref 195), .none, 0⟩), #[]⟩
noncomputable def o197 (P : Params) : Obj := ⟨(.type "list"), none, (.seq #[(.int 917505 508)] 0), #[]⟩
noncomputable def o198 (P : Params) : Obj := ⟨(.type "range"), none, (.fields #[(.int 917536 509), (.int 917632 510), (.int 1 511)]), #[]⟩
noncomputable def o199 (P : Params) : Obj := ⟨(.type "list"), none, (.seq #[(.int 917536 514), (.int 917537 515), (.int 917538 516), (.int 917539 517), (.int 917540 518), (.int 917541 519), (.int 917542 520), (.int 917543 521), (.int 917544 522), (.int 917545 523), (.int 917546 524), (.int 917547 525), (.int 917548 526), (.int 917549 527), (.int 917550 528), (.int 917551 529), (.int 917552 530), (.int 917553 531), (.int 917554 532), (.int 917555 533), (.int 917556 534), (.int 917557 535), (.int 917558 536), (.int 917559 537), (.int 917560 538), (.int 917561 539), (.int 917562 540), (.int 917563 541), (.int 917564 542), (.int 917565 543), (.int 917566 544), (.int 917567 545), (.int 917568 546), (.int 917569 547), (.int 917570 548), (.int 917571 549), (.int 917572 550), (.int 917573 551), (.int 917574 552), (.int 917575 553), (.int 917576 554), (.int 917577 555), (.int 917578 556), (.int 917579 557), (.int 917580 558), (.int 917581 559), (.int 917582 560), (.int 917583 561), (.int 917584 562), (.int 917585 563), (.int 917586 564), (.int 917587 565), (.int 917588 566), (.int 917589 567), (.int 917590 568), (.int 917591 569), (.int 917592 570), (.int 917593 571), (.int 917594 572), (.int 917595 573), (.int 917596 574), (.int 917597 575), (.int 917598 576), (.int 917599 577), (.int 917600 578), (.int 917601 579), (.int 917602 580), (.int 917603 581), (.int 917604 582), (.int 917605 583), (.int 917606 584), (.int 917607 585), (.int 917608 586), (.int 917609 587), (.int 917610 588), (.int 917611 589), (.int 917612 590), (.int 917613 591), (.int 917614 592), (.int 917615 593), (.int 917616 594), (.int 917617 595), (.int 917618 596), (.int 917619 597), (.int 917620 598), (.int 917621 599), (.int 917622 600), (.int 917623 601), (.int 917624 602), (.int 917625 603), (.int 917626 604), (.int 917627 605), (.int 917628 606), (.int 917629 607), (.int 917630 608), (.int 917631 609)] 98), #[]⟩
noncomputable def o200 (P : Params) : Obj := ⟨(.type "range_iterator"), none, (.fields #[(.int 917632 0), (.int 0 0), (.int 1 0)]), #[]⟩
noncomputable def o201 (P : Params) : Obj := ⟨(.type "tuple"), none, (.seq #[] 0), #[]⟩
noncomputable def o202 (P : Params) : Obj := ⟨(.type "StopIteration"), none, (.fields #[(.ref 201), .none, .none, .none, (.bool false), .none]), #[]⟩
noncomputable def o203 (P : Params) : Obj := ⟨(.type "list"), none, (.seq #[(.int 917505 508), (.int 917536 514), (.int 917537 515), (.int 917538 516), (.int 917539 517), (.int 917540 518), (.int 917541 519), (.int 917542 520), (.int 917543 521), (.int 917544 522), (.int 917545 523), (.int 917546 524), (.int 917547 525), (.int 917548 526), (.int 917549 527), (.int 917550 528), (.int 917551 529), (.int 917552 530), (.int 917553 531), (.int 917554 532), (.int 917555 533), (.int 917556 534), (.int 917557 535), (.int 917558 536), (.int 917559 537), (.int 917560 538), (.int 917561 539), (.int 917562 540), (.int 917563 541), (.int 917564 542), (.int 917565 543), (.int 917566 544), (.int 917567 545), (.int 917568 546), (.int 917569 547), (.int 917570 548), (.int 917571 549), (.int 917572 550), (.int 917573 551), (.int 917574 552), (.int 917575 553), (.int 917576 554), (.int 917577 555), (.int 917578 556), (.int 917579 557), (.int 917580 558), (.int 917581 559), (.int 917582 560), (.int 917583 561), (.int 917584 562), (.int 917585 563), (.int 917586 564), (.int 917587 565), (.int 917588 566), (.int 917589 567), (.int 917590 568), (.int 917591 569), (.int 917592 570), (.int 917593 571), (.int 917594 572), (.int 917595 573), (.int 917596 574), (.int 917597 575), (.int 917598 576), (.int 917599 577), (.int 917600 578), (.int 917601 579), (.int 917602 580), (.int 917603 581), (.int 917604 582), (.int 917605 583), (.int 917606 584), (.int 917607 585), (.int 917608 586), (.int 917609 587), (.int 917610 588), (.int 917611 589), (.int 917612 590), (.int 917613 591), (.int 917614 592), (.int 917615 593), (.int 917616 594), (.int 917617 595), (.int 917618 596), (.int 917619 597), (.int 917620 598), (.int 917621 599), (.int 917622 600), (.int 917623 601), (.int 917624 602), (.int 917625 603), (.int 917626 604), (.int 917627 605), (.int 917628 606), (.int 917629 607), (.int 917630 608), (.int 917631 609)] 0), #[]⟩
noncomputable def o204 (P : Params) : Obj := ⟨(.type "set"), none, (.set (ents c9S) 100 ⟨511, #[1, 32, 33, 34, 35, 36, 37, 38, 39, 40, 41, 42, 43, 44, 45, 46, 47, 48, 49, 50, 51, 52, 53, 54, 55, 56, 57, 58, 59, 60, 61, 62, 63, 64, 65, 66, 67, 68, 69, 70, 71, 72, 73, 74, 75, 76, 77, 78, 79, 80, 81, 82, 83, 84, 85, 86, 87, 88, 89, 90, 91, 92, 93, 94, 95, 96, 97, 98, 99, 100, 101, 102, 103, 104, 105, 106, 107, 108, 109, 110, 111, 112, 113, 114, 115, 116, 117, 118, 119, 120, 121, 122, 123, 124, 125, 126, 127], #[], 0, !P.followText "set-order", 3, true⟩), #[]⟩
noncomputable def o205 (P : Params) : Obj := ⟨(.type "list_iterator"), none, (.fields #[.none, (.int 97 0)]), #[]⟩
noncomputable def o206 (P : Params) : Obj := ⟨(.type "tuple"), none, (.seq #[] 0), #[]⟩
noncomputable def o207 (P : Params) : Obj := ⟨(.type "StopIteration"), none, (.fields #[(.ref 206), .none, .none, .none, (.bool false), .none]), #[]⟩
noncomputable def o208 (P : Params) : Obj := ⟨(.type "tuple"), none, (.seq #[] 0), #[]⟩
noncomputable def o209 (P : Params) : Obj := ⟨.none, none, (.fields #[]), #[]⟩
noncomputable def o210 (P : Params) : Obj := ⟨(.type "tuple"), none, (.seq #[(.str (Str.ofString "code") 711)] 0), #[]⟩
noncomputable def o211 (P : Params) : Obj := ⟨(.type "tuple"), none, (.seq #[] 0), #[]⟩
noncomputable def o212 (P : Params) : Obj := ⟨.none, none, (.func ⟨(Str.ofString "in_table_c9"), (Str.ofString "in_table_c9"), fnArgs (stAt 27), .stmts (fnBody (stAt 27)), fnScope (stAt 27), 0, [], .none, .none, .none, .none, none, .none, .none, 0⟩), #[]⟩
noncomputable def o213 (P : Params) : Obj := ⟨(.type "code"), none, (.fields #[(.str (Str.ofString "in_table_c9") 708), (.str (Str.ofString "in_table_c9") 709), (.str (Str.ofString "/claim/cut.py") 710), (.int 80 0), (.int 1 0), (.int 0 0), (.int 0 0), (.int 3 0), (.ref 208), (.bool true), (.int 181 0), (.ref 209), .none, (.ref 210), (.ref 211), (.ref 212), (.int 712 0), (.int 80 0), (.str (Str.ofString "/claim/cut.py") 713)]), #[]⟩
noncomputable def o214 (P : Params) : Obj := ⟨(.type "function"), none, (.func ⟨(Str.ofString "in_table_c9"), (Str.ofString "in_table_c9"), fnArgs (stAt 27), .stmts (fnBody (stAt 27)), fnScope (stAt 27), 3, [], .none, .none, .none, (.str (Str.ofString "cpy313.stringprep") 320), none, (.ref 213), .none, 0⟩), #[]⟩
noncomputable def o215 (P : Params) : Obj := ⟨(.type "tuple"), none, (.seq #[] 0), #[]⟩
noncomputable def o216 (P : Params) : Obj := ⟨.none, none, (.fields #[]), #[]⟩
noncomputable def o217 (P : Params) : Obj := ⟨(.type "tuple"), none, (.seq #[(.str (Str.ofString "script") 720), (.str (Str.ofString "cells") 721), (.str (Str.ofString "k") 722)] 0), #[]⟩
noncomputable def o218 (P : Params) : Obj := ⟨(.type "tuple"), none, (.seq #[] 0), #[]⟩
noncomputable def o219 (P : Params) : Obj := ⟨.none, none, (.func ⟨(Str.ofString "_law_cells"), (Str.ofString "_law_cells"), fnArgs (stAt 29), .stmts (fnBody (stAt 29)), fnScope (stAt 29), 0, [], .none, .none, .none, .none, none, .none, .none, 0⟩), #[]⟩
noncomputable def o220 (P : Params) : Obj := ⟨(.type "code"), none, (.fields #[(.str (Str.ofString "_law_cells") 717), (.str (Str.ofString "_law_cells") 718), (.str (Str.ofString "/claim/cut.py") 719), (.int 83 0), (.int 1 0), (.int 0 0), (.int 0 0), (.int 3 0), (.ref 215), (.bool true), (.int 181 0), (.ref 216), .none, (.ref 217), (.ref 218), (.ref 219), (.int 723 0), (.int 83 0), (.str (Str.ofString "/claim/cut.py") 724)]), #[]⟩
noncomputable def o221 (P : Params) : Obj := ⟨(.type "function"), none, (.func ⟨(Str.ofString "_law_cells"), (Str.ofString "_law_cells"), fnArgs (stAt 29), .stmts (fnBody (stAt 29)), fnScope (stAt 29), 3, [], .none, .none, .none, (.str (Str.ofString "law_yf0010_01") 715), none, (.ref 220), .none, 0⟩), #[]⟩
noncomputable def o222 (P : Params) : Obj := ⟨(.type "tuple"), none, (.seq #[] 0), #[]⟩
noncomputable def o223 (P : Params) : Obj := ⟨.none, none, (.fields #[]), #[]⟩
noncomputable def o224 (P : Params) : Obj := ⟨.none, none, (.func ⟨(Str.ofString "_law_runs"), (Str.ofString "_law_runs"), fnArgs (stAt 30), .stmts (fnBody (stAt 30)), fnScope (stAt 30), 0, [], .none, .none, .none, .none, none, .none, .none, 0⟩), #[]⟩
noncomputable def o225 (P : Params) : Obj := ⟨(.type "code"), none, (.fields #[(.str (Str.ofString "_law_runs") 726), (.str (Str.ofString "_law_runs") 727), (.str (Str.ofString "/claim/cut.py") 728), (.int 88 0), (.int 0 0), (.int 0 0), (.int 0 0), (.int 3 0), (.ref 222), (.bool true), (.int 181 0), (.ref 223), .none, .none, .none, (.ref 224), (.int 729 0), (.int 88 0), (.str (Str.ofString "/claim/cut.py") 730)]), #[]⟩
noncomputable def o226 (P : Params) : Obj := ⟨(.type "function"), none, (.func ⟨(Str.ofString "_law_runs"), (Str.ofString "_law_runs"), fnArgs (stAt 30), .stmts (fnBody (stAt 30)), fnScope (stAt 30), 3, [], .none, .none, .none, (.str (Str.ofString "law_yf0010_01") 715), none, (.ref 225), .none, 0⟩), #[]⟩
noncomputable def o227 (P : Params) : Obj := ⟨(.type "tuple"), none, (.seq #[] 0), #[]⟩
noncomputable def o228 (P : Params) : Obj := ⟨.none, none, (.fields #[]), #[]⟩
noncomputable def o229 (P : Params) : Obj := ⟨.none, none, (.func ⟨(Str.ofString "_law_sign"), (Str.ofString "_law_sign"), fnArgs (stAt 31), .stmts (fnBody (stAt 31)), fnScope (stAt 31), 0, [], .none, .none, .none, .none, none, .none, .none, 0⟩), #[]⟩
noncomputable def o230 (P : Params) : Obj := ⟨(.type "code"), none, (.fields #[(.str (Str.ofString "_law_sign") 732), (.str (Str.ofString "_law_sign") 733), (.str (Str.ofString "/claim/cut.py") 734), (.int 90 0), (.int 1 0), (.int 0 0), (.int 0 0), (.int 3 0), (.ref 227), (.bool true), (.int 181 0), (.ref 228), .none, .none, .none, (.ref 229), (.int 735 0), (.int 90 0), (.str (Str.ofString "/claim/cut.py") 736)]), #[]⟩
noncomputable def o231 (P : Params) : Obj := ⟨(.type "function"), none, (.func ⟨(Str.ofString "_law_sign"), (Str.ofString "_law_sign"), fnArgs (stAt 31), .stmts (fnBody (stAt 31)), fnScope (stAt 31), 3, [], .none, .none, .none, (.str (Str.ofString "law_yf0010_01") 715), none, (.ref 230), .none, 0⟩), #[]⟩
noncomputable def o232 (P : Params) : Obj := ⟨(.type "tuple"), none, (.seq #[] 0), #[]⟩
noncomputable def o233 (P : Params) : Obj := ⟨.none, none, (.fields #[]), #[]⟩
noncomputable def o234 (P : Params) : Obj := ⟨(.type "tuple"), none, (.seq #[(.str (Str.ofString "first") 741), (.str (Str.ofString "second") 742)] 0), #[]⟩
noncomputable def o235 (P : Params) : Obj := ⟨(.type "tuple"), none, (.seq #[] 0), #[]⟩
noncomputable def o236 (P : Params) : Obj := ⟨.none, none, (.func ⟨(Str.ofString "_law_pair"), (Str.ofString "_law_pair"), fnArgs (stAt 32), .stmts (fnBody (stAt 32)), fnScope (stAt 32), 0, [], .none, .none, .none, .none, none, .none, .none, 0⟩), #[]⟩
noncomputable def o237 (P : Params) : Obj := ⟨(.type "code"), none, (.fields #[(.str (Str.ofString "_law_pair") 738), (.str (Str.ofString "_law_pair") 739), (.str (Str.ofString "/claim/cut.py") 740), (.int 100 0), (.int 2 0), (.int 0 0), (.int 0 0), (.int 3 0), (.ref 232), (.bool true), (.int 181 0), (.ref 233), .none, (.ref 234), (.ref 235), (.ref 236), (.int 743 0), (.int 100 0), (.str (Str.ofString "/claim/cut.py") 744)]), #[]⟩
noncomputable def o238 (P : Params) : Obj := ⟨(.type "function"), none, (.func ⟨(Str.ofString "_law_pair"), (Str.ofString "_law_pair"), fnArgs (stAt 32), .stmts (fnBody (stAt 32)), fnScope (stAt 32), 3, [], .none, .none, .none, (.str (Str.ofString "law_yf0010_01") 715), none, (.ref 237), .none, 0⟩), #[]⟩
noncomputable def o239 (P : Params) : Obj := ⟨(.type "tuple"), none, (.seq #[] 0), #[]⟩
noncomputable def o240 (P : Params) : Obj := ⟨.none, none, (.fields #[]), #[]⟩
noncomputable def o241 (P : Params) : Obj := ⟨(.type "tuple"), none, (.seq #[(.str (Str.ofString "a") 749), (.str (Str.ofString "b") 750), (.str (Str.ofString "c") 751), (.str (Str.ofString "d") 752)] 0), #[]⟩
noncomputable def o242 (P : Params) : Obj := ⟨(.type "tuple"), none, (.seq #[] 0), #[]⟩
noncomputable def o243 (P : Params) : Obj := ⟨.none, none, (.func ⟨(Str.ofString "_law_five"), (Str.ofString "_law_five"), fnArgs (stAt 33), .stmts (fnBody (stAt 33)), fnScope (stAt 33), 0, [], .none, .none, .none, .none, none, .none, .none, 0⟩), #[]⟩
noncomputable def o244 (P : Params) : Obj := ⟨(.type "code"), none, (.fields #[(.str (Str.ofString "_law_five") 746), (.str (Str.ofString "_law_five") 747), (.str (Str.ofString "/claim/cut.py") 748), (.int 102 0), (.int 4 0), (.int 0 0), (.int 0 0), (.int 3 0), (.ref 239), (.bool true), (.int 181 0), (.ref 240), .none, (.ref 241), (.ref 242), (.ref 243), (.int 753 0), (.int 102 0), (.str (Str.ofString "/claim/cut.py") 754)]), #[]⟩
noncomputable def o245 (P : Params) : Obj := ⟨(.type "function"), none, (.func ⟨(Str.ofString "_law_five"), (Str.ofString "_law_five"), fnArgs (stAt 33), .stmts (fnBody (stAt 33)), fnScope (stAt 33), 3, [], .none, .none, .none, (.str (Str.ofString "law_yf0010_01") 715), none, (.ref 244), .none, 0⟩), #[]⟩
noncomputable def o246 (P : Params) : Obj := ⟨(.type "tuple"), none, (.seq #[] 0), #[]⟩
noncomputable def o247 (P : Params) : Obj := ⟨.none, none, (.fields #[]), #[]⟩
noncomputable def o248 (P : Params) : Obj := ⟨(.type "tuple"), none, (.seq #[(.str (Str.ofString "sign") 759)] 0), #[]⟩
noncomputable def o249 (P : Params) : Obj := ⟨(.type "tuple"), none, (.seq #[] 0), #[]⟩
noncomputable def o250 (P : Params) : Obj := ⟨.none, none, (.func ⟨(Str.ofString "_law_answers"), (Str.ofString "_law_answers"), fnArgs (stAt 34), .stmts (fnBody (stAt 34)), fnScope (stAt 34), 0, [], .none, .none, .none, .none, none, .none, .none, 0⟩), #[]⟩
noncomputable def o251 (P : Params) : Obj := ⟨(.type "code"), none, (.fields #[(.str (Str.ofString "_law_answers") 756), (.str (Str.ofString "_law_answers") 757), (.str (Str.ofString "/claim/cut.py") 758), (.int 104 0), (.int 1 0), (.int 0 0), (.int 0 0), (.int 3 0), (.ref 246), (.bool true), (.int 181 0), (.ref 247), .none, (.ref 248), (.ref 249), (.ref 250), (.int 760 0), (.int 104 0), (.str (Str.ofString "/claim/cut.py") 761)]), #[]⟩
noncomputable def o252 (P : Params) : Obj := ⟨(.type "function"), none, (.func ⟨(Str.ofString "_law_answers"), (Str.ofString "_law_answers"), fnArgs (stAt 34), .stmts (fnBody (stAt 34)), fnScope (stAt 34), 3, [], .none, .none, .none, (.str (Str.ofString "law_yf0010_01") 715), none, (.ref 251), .none, 0⟩), #[]⟩
noncomputable def o253 (P : Params) : Obj := ⟨(.type "tuple"), none, (.seq #[] 0), #[]⟩
noncomputable def o254 (P : Params) : Obj := ⟨.none, none, (.fields #[]), #[]⟩
noncomputable def o255 (P : Params) : Obj := ⟨(.type "tuple"), none, (.seq #[(.str (Str.ofString "sign") 766), (.str (Str.ofString "told") 767)] 0), #[]⟩
noncomputable def o256 (P : Params) : Obj := ⟨(.type "tuple"), none, (.seq #[] 0), #[]⟩
noncomputable def o257 (P : Params) : Obj := ⟨.none, none, (.func ⟨(Str.ofString "_law_unit"), (Str.ofString "_law_unit"), fnArgs (stAt 35), .stmts (fnBody (stAt 35)), fnScope (stAt 35), 0, [], .none, .none, .none, .none, none, .none, .none, 0⟩), #[]⟩
noncomputable def o258 (P : Params) : Obj := ⟨(.type "code"), none, (.fields #[(.str (Str.ofString "_law_unit") 763), (.str (Str.ofString "_law_unit") 764), (.str (Str.ofString "/claim/cut.py") 765), (.int 106 0), (.int 1 0), (.int 0 0), (.int 0 0), (.int 3 0), (.ref 253), (.bool true), (.int 181 0), (.ref 254), .none, (.ref 255), (.ref 256), (.ref 257), (.int 768 0), (.int 106 0), (.str (Str.ofString "/claim/cut.py") 769)]), #[]⟩
noncomputable def o259 (P : Params) : Obj := ⟨(.type "function"), none, (.func ⟨(Str.ofString "_law_unit"), (Str.ofString "_law_unit"), fnArgs (stAt 35), .stmts (fnBody (stAt 35)), fnScope (stAt 35), 3, [], .none, .none, .none, (.str (Str.ofString "law_yf0010_01") 715), none, (.ref 258), .none, 0⟩), #[]⟩
noncomputable def o260 (P : Params) : Obj := ⟨(.type "tuple"), none, (.seq #[] 0), #[]⟩
noncomputable def o261 (P : Params) : Obj := ⟨.none, none, (.fields #[]), #[]⟩
noncomputable def o262 (P : Params) : Obj := ⟨(.type "tuple"), none, (.seq #[(.str (Str.ofString "first") 774), (.str (Str.ofString "second") 775), (.str (Str.ofString "powers") 776), (.str (Str.ofString "sign") 777), (.str (Str.ofString "step") 778), (.str (Str.ofString "still") 779), (.str (Str.ofString "turned") 780), (.str (Str.ofString "unit") 781)] 0), #[]⟩
noncomputable def o263 (P : Params) : Obj := ⟨(.type "tuple"), none, (.seq #[] 0), #[]⟩
noncomputable def o264 (P : Params) : Obj := ⟨.none, none, (.func ⟨(Str.ofString "_law_times"), (Str.ofString "_law_times"), fnArgs (stAt 36), .stmts (fnBody (stAt 36)), fnScope (stAt 36), 0, [], .none, .none, .none, .none, none, .none, .none, 0⟩), #[]⟩
noncomputable def o265 (P : Params) : Obj := ⟨(.type "code"), none, (.fields #[(.str (Str.ofString "_law_times") 771), (.str (Str.ofString "_law_times") 772), (.str (Str.ofString "/claim/cut.py") 773), (.int 112 0), (.int 3 0), (.int 0 0), (.int 0 0), (.int 3 0), (.ref 260), (.bool true), (.int 181 0), (.ref 261), .none, (.ref 262), (.ref 263), (.ref 264), (.int 782 0), (.int 112 0), (.str (Str.ofString "/claim/cut.py") 783)]), #[]⟩
noncomputable def o266 (P : Params) : Obj := ⟨(.type "function"), none, (.func ⟨(Str.ofString "_law_times"), (Str.ofString "_law_times"), fnArgs (stAt 36), .stmts (fnBody (stAt 36)), fnScope (stAt 36), 3, [], .none, .none, .none, (.str (Str.ofString "law_yf0010_01") 715), none, (.ref 265), .none, 0⟩), #[]⟩
noncomputable def o267 (P : Params) : Obj := ⟨(.type "tuple"), none, (.seq #[] 0), #[]⟩
noncomputable def o268 (P : Params) : Obj := ⟨.none, none, (.fields #[]), #[]⟩
noncomputable def o269 (P : Params) : Obj := ⟨(.type "tuple"), none, (.seq #[(.str (Str.ofString "text") 788), (.str (Str.ofString "powers") 789), (.str (Str.ofString "first") 790), (.str (Str.ofString "problem") 791), (.str (Str.ofString "second") 792)] 0), #[]⟩
noncomputable def o270 (P : Params) : Obj := ⟨(.type "tuple"), none, (.seq #[] 0), #[]⟩
noncomputable def o271 (P : Params) : Obj := ⟨.none, none, (.func ⟨(Str.ofString "_law_value"), (Str.ofString "_law_value"), fnArgs (stAt 37), .stmts (fnBody (stAt 37)), fnScope (stAt 37), 0, [], .none, .none, .none, .none, none, .none, .none, 0⟩), #[]⟩
noncomputable def o272 (P : Params) : Obj := ⟨(.type "code"), none, (.fields #[(.str (Str.ofString "_law_value") 785), (.str (Str.ofString "_law_value") 786), (.str (Str.ofString "/claim/cut.py") 787), (.int 125 0), (.int 2 0), (.int 0 0), (.int 0 0), (.int 3 0), (.ref 267), (.bool true), (.int 181 0), (.ref 268), .none, (.ref 269), (.ref 270), (.ref 271), (.int 793 0), (.int 125 0), (.str (Str.ofString "/claim/cut.py") 794)]), #[]⟩
noncomputable def o273 (P : Params) : Obj := ⟨(.type "function"), none, (.func ⟨(Str.ofString "_law_value"), (Str.ofString "_law_value"), fnArgs (stAt 37), .stmts (fnBody (stAt 37)), fnScope (stAt 37), 3, [], .none, .none, .none, (.str (Str.ofString "law_yf0010_01") 715), none, (.ref 272), .none, 0⟩), #[]⟩
noncomputable def o274 (P : Params) : Obj := ⟨(.type "tuple"), none, (.seq #[] 0), #[]⟩
noncomputable def o275 (P : Params) : Obj := ⟨.none, none, (.fields #[]), #[]⟩
noncomputable def o276 (P : Params) : Obj := ⟨(.type "tuple"), none, (.seq #[(.str (Str.ofString "reply") 799), (.str (Str.ofString "problem") 800)] 0), #[]⟩
noncomputable def o277 (P : Params) : Obj := ⟨(.type "tuple"), none, (.seq #[] 0), #[]⟩
noncomputable def o278 (P : Params) : Obj := ⟨.none, none, (.func ⟨(Str.ofString "_law_read"), (Str.ofString "_law_read"), fnArgs (stAt 38), .stmts (fnBody (stAt 38)), fnScope (stAt 38), 0, [], .none, .none, .none, .none, none, .none, .none, 0⟩), #[]⟩
noncomputable def o279 (P : Params) : Obj := ⟨(.type "code"), none, (.fields #[(.str (Str.ofString "_law_read") 796), (.str (Str.ofString "_law_read") 797), (.str (Str.ofString "/claim/cut.py") 798), (.int 132 0), (.int 1 0), (.int 0 0), (.int 0 0), (.int 3 0), (.ref 274), (.bool true), (.int 181 0), (.ref 275), .none, (.ref 276), (.ref 277), (.ref 278), (.int 801 0), (.int 132 0), (.str (Str.ofString "/claim/cut.py") 802)]), #[]⟩
noncomputable def o280 (P : Params) : Obj := ⟨(.type "function"), none, (.func ⟨(Str.ofString "_law_read"), (Str.ofString "_law_read"), fnArgs (stAt 38), .stmts (fnBody (stAt 38)), fnScope (stAt 38), 3, [], .none, .none, .none, (.str (Str.ofString "law_yf0010_01") 715), none, (.ref 279), .none, 0⟩), #[]⟩
noncomputable def o281 (P : Params) : Obj := ⟨(.type "tuple"), none, (.seq #[] 0), #[]⟩
noncomputable def o282 (P : Params) : Obj := ⟨.none, none, (.fields #[]), #[]⟩
noncomputable def o283 (P : Params) : Obj := ⟨.none, none, (.func ⟨(Str.ofString "_law_replies"), (Str.ofString "_law_replies"), fnArgs (stAt 39), .stmts (fnBody (stAt 39)), fnScope (stAt 39), 0, [], .none, .none, .none, .none, none, .none, .none, 0⟩), #[]⟩
noncomputable def o284 (P : Params) : Obj := ⟨(.type "code"), none, (.fields #[(.str (Str.ofString "_law_replies") 804), (.str (Str.ofString "_law_replies") 805), (.str (Str.ofString "/claim/cut.py") 806), (.int 137 0), (.int 1 0), (.int 0 0), (.int 0 0), (.int 3 0), (.ref 281), (.bool true), (.int 181 0), (.ref 282), .none, .none, .none, (.ref 283), (.int 807 0), (.int 137 0), (.str (Str.ofString "/claim/cut.py") 808)]), #[]⟩
noncomputable def o285 (P : Params) : Obj := ⟨(.type "function"), none, (.func ⟨(Str.ofString "_law_replies"), (Str.ofString "_law_replies"), fnArgs (stAt 39), .stmts (fnBody (stAt 39)), fnScope (stAt 39), 3, [], .none, .none, .none, (.str (Str.ofString "law_yf0010_01") 715), none, (.ref 284), .none, 0⟩), #[]⟩
noncomputable def o286 (P : Params) : Obj := ⟨(.type "tuple"), none, (.seq #[] 0), #[]⟩
noncomputable def o287 (P : Params) : Obj := ⟨.none, none, (.fields #[]), #[]⟩
noncomputable def o288 (P : Params) : Obj := ⟨(.type "tuple"), none, (.seq #[(.str (Str.ofString "row") 813), (.str (Str.ofString "k") 814)] 0), #[]⟩
noncomputable def o289 (P : Params) : Obj := ⟨(.type "tuple"), none, (.seq #[] 0), #[]⟩
noncomputable def o290 (P : Params) : Obj := ⟨.none, none, (.func ⟨(Str.ofString "_law_numbers"), (Str.ofString "_law_numbers"), fnArgs (stAt 40), .stmts (fnBody (stAt 40)), fnScope (stAt 40), 0, [], .none, .none, .none, .none, none, .none, .none, 0⟩), #[]⟩
noncomputable def o291 (P : Params) : Obj := ⟨(.type "code"), none, (.fields #[(.str (Str.ofString "_law_numbers") 810), (.str (Str.ofString "_law_numbers") 811), (.str (Str.ofString "/claim/cut.py") 812), (.int 142 0), (.int 0 0), (.int 0 0), (.int 0 0), (.int 3 0), (.ref 286), (.bool true), (.int 181 0), (.ref 287), .none, (.ref 288), (.ref 289), (.ref 290), (.int 815 0), (.int 142 0), (.str (Str.ofString "/claim/cut.py") 816)]), #[]⟩
noncomputable def o292 (P : Params) : Obj := ⟨(.type "function"), none, (.func ⟨(Str.ofString "_law_numbers"), (Str.ofString "_law_numbers"), fnArgs (stAt 40), .stmts (fnBody (stAt 40)), fnScope (stAt 40), 3, [], .none, .none, .none, (.str (Str.ofString "law_yf0010_01") 715), none, (.ref 291), .none, 0⟩), #[]⟩
noncomputable def o293 (P : Params) : Obj := ⟨(.type "tuple"), none, (.seq #[] 0), #[]⟩
noncomputable def o294 (P : Params) : Obj := ⟨.none, none, (.fields #[]), #[]⟩
noncomputable def o295 (P : Params) : Obj := ⟨(.type "tuple"), none, (.seq #[(.str (Str.ofString "p") 821), (.str (Str.ofString "q") 822)] 0), #[]⟩
noncomputable def o296 (P : Params) : Obj := ⟨(.type "tuple"), none, (.seq #[] 0), #[]⟩
noncomputable def o297 (P : Params) : Obj := ⟨.none, none, (.func ⟨(Str.ofString "_law_quaternions"), (Str.ofString "_law_quaternions"), fnArgs (stAt 41), .stmts (fnBody (stAt 41)), fnScope (stAt 41), 0, [], .none, .none, .none, .none, none, .none, .none, 0⟩), #[]⟩
noncomputable def o298 (P : Params) : Obj := ⟨(.type "code"), none, (.fields #[(.str (Str.ofString "_law_quaternions") 818), (.str (Str.ofString "_law_quaternions") 819), (.str (Str.ofString "/claim/cut.py") 820), (.int 147 0), (.int 2 0), (.int 0 0), (.int 0 0), (.int 3 0), (.ref 293), (.bool true), (.int 181 0), (.ref 294), .none, (.ref 295), (.ref 296), (.ref 297), (.int 823 0), (.int 147 0), (.str (Str.ofString "/claim/cut.py") 824)]), #[]⟩
noncomputable def o299 (P : Params) : Obj := ⟨(.type "function"), none, (.func ⟨(Str.ofString "_law_quaternions"), (Str.ofString "_law_quaternions"), fnArgs (stAt 41), .stmts (fnBody (stAt 41)), fnScope (stAt 41), 3, [], .none, .none, .none, (.str (Str.ofString "law_yf0010_01") 715), none, (.ref 298), .none, 0⟩), #[]⟩
noncomputable def o300 (P : Params) : Obj := ⟨(.type "tuple"), none, (.seq #[] 0), #[]⟩
noncomputable def o301 (P : Params) : Obj := ⟨.none, none, (.fields #[]), #[]⟩
noncomputable def o302 (P : Params) : Obj := ⟨(.type "tuple"), none, (.seq #[(.str (Str.ofString "x") 829), (.str (Str.ofString "y") 830), (.str (Str.ofString "turned") 831)] 0), #[]⟩
noncomputable def o303 (P : Params) : Obj := ⟨(.type "tuple"), none, (.seq #[] 0), #[]⟩
noncomputable def o304 (P : Params) : Obj := ⟨.none, none, (.func ⟨(Str.ofString "_law_two"), (Str.ofString "_law_two"), fnArgs (stAt 42), .stmts (fnBody (stAt 42)), fnScope (stAt 42), 0, [], .none, .none, .none, .none, none, .none, .none, 0⟩), #[]⟩
noncomputable def o305 (P : Params) : Obj := ⟨(.type "code"), none, (.fields #[(.str (Str.ofString "_law_two") 826), (.str (Str.ofString "_law_two") 827), (.str (Str.ofString "/claim/cut.py") 828), (.int 149 0), (.int 2 0), (.int 0 0), (.int 0 0), (.int 3 0), (.ref 300), (.bool true), (.int 181 0), (.ref 301), .none, (.ref 302), (.ref 303), (.ref 304), (.int 832 0), (.int 149 0), (.str (Str.ofString "/claim/cut.py") 833)]), #[]⟩
noncomputable def o306 (P : Params) : Obj := ⟨(.type "function"), none, (.func ⟨(Str.ofString "_law_two"), (Str.ofString "_law_two"), fnArgs (stAt 42), .stmts (fnBody (stAt 42)), fnScope (stAt 42), 3, [], .none, .none, .none, (.str (Str.ofString "law_yf0010_01") 715), none, (.ref 305), .none, 0⟩), #[]⟩
noncomputable def o307 (P : Params) : Obj := ⟨(.type "tuple"), none, (.seq #[] 0), #[]⟩
noncomputable def o308 (P : Params) : Obj := ⟨.none, none, (.fields #[]), #[]⟩
noncomputable def o309 (P : Params) : Obj := ⟨(.type "tuple"), none, (.seq #[(.str (Str.ofString "x") 838), (.str (Str.ofString "y") 839), (.str (Str.ofString "z") 840)] 0), #[]⟩
noncomputable def o310 (P : Params) : Obj := ⟨(.type "tuple"), none, (.seq #[] 0), #[]⟩
noncomputable def o311 (P : Params) : Obj := ⟨.none, none, (.func ⟨(Str.ofString "_law_turn"), (Str.ofString "_law_turn"), fnArgs (stAt 43), .stmts (fnBody (stAt 43)), fnScope (stAt 43), 0, [], .none, .none, .none, .none, none, .none, .none, 0⟩), #[]⟩
noncomputable def o312 (P : Params) : Obj := ⟨(.type "code"), none, (.fields #[(.str (Str.ofString "_law_turn") 835), (.str (Str.ofString "_law_turn") 836), (.str (Str.ofString "/claim/cut.py") 837), (.int 154 0), (.int 3 0), (.int 0 0), (.int 0 0), (.int 3 0), (.ref 307), (.bool true), (.int 181 0), (.ref 308), .none, (.ref 309), (.ref 310), (.ref 311), (.int 841 0), (.int 154 0), (.str (Str.ofString "/claim/cut.py") 842)]), #[]⟩
noncomputable def o313 (P : Params) : Obj := ⟨(.type "function"), none, (.func ⟨(Str.ofString "_law_turn"), (Str.ofString "_law_turn"), fnArgs (stAt 43), .stmts (fnBody (stAt 43)), fnScope (stAt 43), 3, [], .none, .none, .none, (.str (Str.ofString "law_yf0010_01") 715), none, (.ref 312), .none, 0⟩), #[]⟩
noncomputable def o314 (P : Params) : Obj := ⟨(.type "tuple"), none, (.seq #[] 0), #[]⟩
noncomputable def o315 (P : Params) : Obj := ⟨.none, none, (.fields #[]), #[]⟩
noncomputable def o316 (P : Params) : Obj := ⟨.none, none, (.func ⟨(Str.ofString "_law_due"), (Str.ofString "_law_due"), fnArgs (stAt 44), .stmts (fnBody (stAt 44)), fnScope (stAt 44), 0, [], .none, .none, .none, .none, none, .none, .none, 0⟩), #[]⟩
noncomputable def o317 (P : Params) : Obj := ⟨(.type "code"), none, (.fields #[(.str (Str.ofString "_law_due") 844), (.str (Str.ofString "_law_due") 845), (.str (Str.ofString "/claim/cut.py") 846), (.int 156 0), (.int 4 0), (.int 0 0), (.int 0 0), (.int 3 0), (.ref 314), (.bool true), (.int 181 0), (.ref 315), .none, .none, .none, (.ref 316), (.int 847 0), (.int 156 0), (.str (Str.ofString "/claim/cut.py") 848)]), #[]⟩
noncomputable def o318 (P : Params) : Obj := ⟨(.type "function"), none, (.func ⟨(Str.ofString "_law_due"), (Str.ofString "_law_due"), fnArgs (stAt 44), .stmts (fnBody (stAt 44)), fnScope (stAt 44), 3, [], .none, .none, .none, (.str (Str.ofString "law_yf0010_01") 715), none, (.ref 317), .none, 0⟩), #[]⟩
noncomputable def o319 (P : Params) : Obj := ⟨(.type "tuple"), none, (.seq #[] 0), #[]⟩
noncomputable def o320 (P : Params) : Obj := ⟨.none, none, (.fields #[]), #[]⟩
noncomputable def o321 (P : Params) : Obj := ⟨.none, none, (.func ⟨(Str.ofString "law"), (Str.ofString "law"), fnArgs (stAt 45), .stmts (fnBody (stAt 45)), fnScope (stAt 45), 0, [], .none, .none, .none, .none, none, .none, .none, 0⟩), #[]⟩
noncomputable def o322 (P : Params) : Obj := ⟨(.type "code"), none, (.fields #[(.str (Str.ofString "law") 850), (.str (Str.ofString "law") 851), (.str (Str.ofString "/claim/cut.py") 852), (.int 162 0), (.int 1 0), (.int 0 0), (.int 0 0), (.int 3 0), (.ref 319), (.bool true), (.int 181 0), (.ref 320), .none, .none, .none, (.ref 321), (.int 853 0), (.int 162 0), (.str (Str.ofString "/claim/cut.py") 854)]), #[]⟩
noncomputable def o323 (P : Params) : Obj := ⟨(.type "function"), none, (.func ⟨(Str.ofString "law"), (Str.ofString "law"), fnArgs (stAt 45), .stmts (fnBody (stAt 45)), fnScope (stAt 45), 3, [], .none, .none, .none, (.str (Str.ofString "law_yf0010_01") 715), none, (.ref 322), .none, 0⟩), #[]⟩
noncomputable def o3 (P : Params) : Obj := ⟨(.type "dict"), none, (.dict #[⟨PyData.keyHash P (Str.ofString "__name__"), (.str (Str.ofString "__name__") 165), (.str (Str.ofString "law_yf0010_01") 715)⟩, ⟨PyData.keyHash P (Str.ofString "__doc__"), (.str (Str.ofString "__doc__") 166), .none⟩, ⟨PyData.keyHash P (Str.ofString "__package__"), (.str (Str.ofString "__package__") 167), .none⟩, ⟨PyData.keyHash P (Str.ofString "__loader__"), (.str (Str.ofString "__loader__") 168), (.builtin "__main__.__loader__#opaque")⟩, ⟨PyData.keyHash P (Str.ofString "__spec__"), (.str (Str.ofString "__spec__") 169), .none⟩, ⟨PyData.keyHash P (Str.ofString "__annotations__"), (.str (Str.ofString "__annotations__") 170), (.ref 6)⟩, ⟨PyData.keyHash P (Str.ofString "__builtins__"), (.str (Str.ofString "__builtins__") 171), (.ref 4)⟩, ⟨PyData.keyHash P (Str.ofString "__file__"), (.str (Str.ofString "__file__") 173), (.str (Str.ofString "/claim/cut.py") 172)⟩, ⟨PyData.keyHash P (Str.ofString "__cached__"), (.str (Str.ofString "__cached__") 174), .none⟩, ⟨PyData.keyHash P (Str.ofString "not_"), (.str (Str.ofString "not_") 195), (.ref 21)⟩, ⟨PyData.keyHash P (Str.ofString "is_"), (.str (Str.ofString "is_") 203), (.ref 28)⟩, ⟨PyData.keyHash P (Str.ofString "neg"), (.str (Str.ofString "neg") 210), (.ref 35)⟩, ⟨PyData.keyHash P (Str.ofString "countOf"), (.str (Str.ofString "countOf") 220), (.ref 42)⟩, ⟨PyData.keyHash P (Str.ofString "indexOf"), (.str (Str.ofString "indexOf") 230), (.ref 49)⟩, ⟨PyData.keyHash P (Str.ofString "iadd"), (.str (Str.ofString "iadd") 238), (.ref 56)⟩, ⟨PyData.keyHash P (Str.ofString "imod"), (.str (Str.ofString "imod") 246), (.ref 63)⟩, ⟨PyData.keyHash P (Str.ofString "imul"), (.str (Str.ofString "imul") 254), (.ref 70)⟩, ⟨PyData.keyHash P (Str.ofString "ipow"), (.str (Str.ofString "ipow") 262), (.ref 77)⟩, ⟨PyData.keyHash P (Str.ofString "isub"), (.str (Str.ofString "isub") 270), (.ref 84)⟩, ⟨PyData.keyHash P (Str.ofString "Error"), (.str (Str.ofString "Error") 292), (.ref 94)⟩, ⟨PyData.keyHash P (Str.ofString "error_reply"), (.str (Str.ofString "error_reply") 308), (.ref 107)⟩, ⟨PyData.keyHash P (Str.ofString "parse257"), (.str (Str.ofString "parse257") 319), (.ref 116)⟩, ⟨PyData.keyHash P (Str.ofString "b1_set"), (.str (Str.ofString "b1_set") 381), (.ref 124)⟩, ⟨PyData.keyHash P (Str.ofString "in_table_b1"), (.str (Str.ofString "in_table_b1") 388), (.ref 134)⟩, ⟨PyData.keyHash P (Str.ofString "in_table_c11"), (.str (Str.ofString "in_table_c11") 395), (.ref 141)⟩, ⟨PyData.keyHash P (Str.ofString "in_table_c4"), (.str (Str.ofString "in_table_c4") 403), (.ref 148)⟩, ⟨PyData.keyHash P (Str.ofString "c6_set"), (.str (Str.ofString "c6_set") 417), (.ref 150)⟩, ⟨PyData.keyHash P (Str.ofString "in_table_c6"), (.str (Str.ofString "in_table_c6") 424), (.ref 160)⟩, ⟨PyData.keyHash P (Str.ofString "c7_set"), (.str (Str.ofString "c7_set") 452), (.ref 162)⟩, ⟨PyData.keyHash P (Str.ofString "in_table_c7"), (.str (Str.ofString "in_table_c7") 459), (.ref 172)⟩, ⟨PyData.keyHash P (Str.ofString "c8_set"), (.str (Str.ofString "c8_set") 500), (.ref 186)⟩, ⟨PyData.keyHash P (Str.ofString "in_table_c8"), (.str (Str.ofString "in_table_c8") 507), (.ref 196)⟩, ⟨PyData.keyHash P (Str.ofString "c9_set"), (.str (Str.ofString "c9_set") 707), (.ref 204)⟩, ⟨PyData.keyHash P (Str.ofString "in_table_c9"), (.str (Str.ofString "in_table_c9") 714), (.ref 214)⟩, ⟨PyData.keyHash P (Str.ofString "_law_cells"), (.str (Str.ofString "_law_cells") 725), (.ref 221)⟩, ⟨PyData.keyHash P (Str.ofString "_law_runs"), (.str (Str.ofString "_law_runs") 731), (.ref 226)⟩, ⟨PyData.keyHash P (Str.ofString "_law_sign"), (.str (Str.ofString "_law_sign") 737), (.ref 231)⟩, ⟨PyData.keyHash P (Str.ofString "_law_pair"), (.str (Str.ofString "_law_pair") 745), (.ref 238)⟩, ⟨PyData.keyHash P (Str.ofString "_law_five"), (.str (Str.ofString "_law_five") 755), (.ref 245)⟩, ⟨PyData.keyHash P (Str.ofString "_law_answers"), (.str (Str.ofString "_law_answers") 762), (.ref 252)⟩, ⟨PyData.keyHash P (Str.ofString "_law_unit"), (.str (Str.ofString "_law_unit") 770), (.ref 259)⟩, ⟨PyData.keyHash P (Str.ofString "_law_times"), (.str (Str.ofString "_law_times") 784), (.ref 266)⟩, ⟨PyData.keyHash P (Str.ofString "_law_value"), (.str (Str.ofString "_law_value") 795), (.ref 273)⟩, ⟨PyData.keyHash P (Str.ofString "_law_read"), (.str (Str.ofString "_law_read") 803), (.ref 280)⟩, ⟨PyData.keyHash P (Str.ofString "_law_replies"), (.str (Str.ofString "_law_replies") 809), (.ref 285)⟩, ⟨PyData.keyHash P (Str.ofString "_law_numbers"), (.str (Str.ofString "_law_numbers") 817), (.ref 292)⟩, ⟨PyData.keyHash P (Str.ofString "_law_quaternions"), (.str (Str.ofString "_law_quaternions") 825), (.ref 299)⟩, ⟨PyData.keyHash P (Str.ofString "_law_two"), (.str (Str.ofString "_law_two") 834), (.ref 306)⟩, ⟨PyData.keyHash P (Str.ofString "_law_turn"), (.str (Str.ofString "_law_turn") 843), (.ref 313)⟩, ⟨PyData.keyHash P (Str.ofString "_law_due"), (.str (Str.ofString "_law_due") 849), (.ref 318)⟩, ⟨PyData.keyHash P (Str.ofString "law"), (.str (Str.ofString "law") 855), (.ref 323)⟩] 51), #[]⟩
noncomputable def o2 (P : Params) : Obj := ⟨.none, none, (.dict #[⟨PyData.keyHash P (Str.ofString "type.__subclasses__.Exception.0"), (.str (Str.ofString "type.__subclasses__.Exception.0") 289), (.int 94 0)⟩, ⟨PyData.keyHash P (Str.ofString "type.__subclasses__.Exception.n"), (.str (Str.ofString "type.__subclasses__.Exception.n") 290), (.int 1 0)⟩] 2), #[]⟩
noncomputable def K (P : Params) : Frag := (nat_lit 2, o2 P) :: (nat_lit 3, o3 P) :: (nat_lit 15, o15 P) :: (nat_lit 17, o17 P) :: (nat_lit 18, o18 P) :: (nat_lit 20, o20 P) :: (nat_lit 21, o21 P) :: (nat_lit 22, o22 P) :: (nat_lit 24, o24 P) :: (nat_lit 25, o25 P) :: (nat_lit 27, o27 P) :: (nat_lit 28, o28 P) :: (nat_lit 29, o29 P) :: (nat_lit 31, o31 P) :: (nat_lit 32, o32 P) :: (nat_lit 34, o34 P) :: (nat_lit 35, o35 P) :: (nat_lit 36, o36 P) :: (nat_lit 38, o38 P) :: (nat_lit 39, o39 P) :: (nat_lit 41, o41 P) :: (nat_lit 42, o42 P) :: (nat_lit 43, o43 P) :: (nat_lit 45, o45 P) :: (nat_lit 46, o46 P) :: (nat_lit 48, o48 P) :: (nat_lit 49, o49 P) :: (nat_lit 50, o50 P) :: (nat_lit 52, o52 P) :: (nat_lit 53, o53 P) :: (nat_lit 55, o55 P) :: (nat_lit 56, o56 P) :: (nat_lit 57, o57 P) :: (nat_lit 59, o59 P) :: (nat_lit 60, o60 P) :: (nat_lit 62, o62 P) :: (nat_lit 63, o63 P) :: (nat_lit 64, o64 P) :: (nat_lit 66, o66 P) :: (nat_lit 67, o67 P) :: (nat_lit 69, o69 P) :: (nat_lit 70, o70 P) :: (nat_lit 71, o71 P) :: (nat_lit 73, o73 P) :: (nat_lit 74, o74 P) :: (nat_lit 76, o76 P) :: (nat_lit 77, o77 P) :: (nat_lit 78, o78 P) :: (nat_lit 80, o80 P) :: (nat_lit 81, o81 P) :: (nat_lit 83, o83 P) :: (nat_lit 84, o84 P) :: (nat_lit 85, o85 P) :: (nat_lit 92, o92 P) :: (nat_lit 93, o93 P) :: (nat_lit 94, o94 P) :: (nat_lit 95, o95 P) :: (nat_lit 98, o98 P) :: (nat_lit 105, o105 P) :: (nat_lit 106, o106 P) :: (nat_lit 107, o107 P) :: (nat_lit 110, o110 P) :: (nat_lit 112, o112 P) :: (nat_lit 113, o113 P) :: (nat_lit 115, o115 P) :: (nat_lit 116, o116 P) :: (nat_lit 124, o124 P) :: (nat_lit 128, o128 P) :: (nat_lit 130, o130 P) :: (nat_lit 131, o131 P) :: (nat_lit 133, o133 P) :: (nat_lit 134, o134 P) :: (nat_lit 135, o135 P) :: (nat_lit 137, o137 P) :: (nat_lit 138, o138 P) :: (nat_lit 140, o140 P) :: (nat_lit 141, o141 P) :: (nat_lit 142, o142 P) :: (nat_lit 144, o144 P) :: (nat_lit 145, o145 P) :: (nat_lit 147, o147 P) :: (nat_lit 148, o148 P) :: (nat_lit 150, o150 P) :: (nat_lit 154, o154 P) :: (nat_lit 156, o156 P) :: (nat_lit 157, o157 P) :: (nat_lit 159, o159 P) :: (nat_lit 160, o160 P) :: (nat_lit 162, o162 P) :: (nat_lit 166, o166 P) :: (nat_lit 168, o168 P) :: (nat_lit 169, o169 P) :: (nat_lit 171, o171 P) :: (nat_lit 172, o172 P) :: (nat_lit 186, o186 P) :: (nat_lit 190, o190 P) :: (nat_lit 192, o192 P) :: (nat_lit 193, o193 P) :: (nat_lit 195, o195 P) :: (nat_lit 196, o196 P) :: (nat_lit 204, o204 P) :: (nat_lit 208, o208 P) :: (nat_lit 210, o210 P) :: (nat_lit 211, o211 P) :: (nat_lit 213, o213 P) :: (nat_lit 214, o214 P) :: (nat_lit 215, o215 P) :: (nat_lit 217, o217 P) :: (nat_lit 218, o218 P) :: (nat_lit 220, o220 P) :: (nat_lit 221, o221 P) :: (nat_lit 222, o222 P) :: (nat_lit 225, o225 P) :: (nat_lit 226, o226 P) :: (nat_lit 227, o227 P) :: (nat_lit 230, o230 P) :: (nat_lit 231, o231 P) :: (nat_lit 232, o232 P) :: (nat_lit 234, o234 P) :: (nat_lit 235, o235 P) :: (nat_lit 237, o237 P) :: (nat_lit 238, o238 P) :: (nat_lit 239, o239 P) :: (nat_lit 241, o241 P) :: (nat_lit 242, o242 P) :: (nat_lit 244, o244 P) :: (nat_lit 245, o245 P) :: (nat_lit 246, o246 P) :: (nat_lit 248, o248 P) :: (nat_lit 249, o249 P) :: (nat_lit 251, o251 P) :: (nat_lit 252, o252 P) :: (nat_lit 253, o253 P) :: (nat_lit 255, o255 P) :: (nat_lit 256, o256 P) :: (nat_lit 258, o258 P) :: (nat_lit 259, o259 P) :: (nat_lit 260, o260 P) :: (nat_lit 262, o262 P) :: (nat_lit 263, o263 P) :: (nat_lit 265, o265 P) :: (nat_lit 266, o266 P) :: (nat_lit 267, o267 P) :: (nat_lit 269, o269 P) :: (nat_lit 270, o270 P) :: (nat_lit 272, o272 P) :: (nat_lit 273, o273 P) :: (nat_lit 274, o274 P) :: (nat_lit 276, o276 P) :: (nat_lit 277, o277 P) :: (nat_lit 279, o279 P) :: (nat_lit 280, o280 P) :: (nat_lit 281, o281 P) :: (nat_lit 284, o284 P) :: (nat_lit 285, o285 P) :: (nat_lit 286, o286 P) :: (nat_lit 288, o288 P) :: (nat_lit 289, o289 P) :: (nat_lit 291, o291 P) :: (nat_lit 292, o292 P) :: (nat_lit 293, o293 P) :: (nat_lit 295, o295 P) :: (nat_lit 296, o296 P) :: (nat_lit 298, o298 P) :: (nat_lit 299, o299 P) :: (nat_lit 300, o300 P) :: (nat_lit 302, o302 P) :: (nat_lit 303, o303 P) :: (nat_lit 305, o305 P) :: (nat_lit 306, o306 P) :: (nat_lit 307, o307 P) :: (nat_lit 309, o309 P) :: (nat_lit 310, o310 P) :: (nat_lit 312, o312 P) :: (nat_lit 313, o313 P) :: (nat_lit 314, o314 P) :: (nat_lit 317, o317 P) :: (nat_lit 318, o318 P) :: (nat_lit 319, o319 P) :: (nat_lit 322, o322 P) :: (nat_lit 323, o323 P) :: []

noncomputable def loose : List Str := [Str.ofString "b1_set", Str.ofString "c6_set", Str.ofString "c7_set", Str.ofString "c8_set", Str.ofString "c9_set"]
noncomputable def keep : List Nat := [1, 2, 3, 4, 5, 6, 7, 8, 9, 10, 12, 13, 14, 16, 17, 18, 19, 20, 21, 22, 23, 24, 25, 26, 27, 29, 30, 31, 32, 33, 34, 35, 36, 37, 38, 39, 40, 41, 42, 43, 44, 45]
noncomputable def qv : Program := view PySem.Challenge.pw_yf0010_01 keep
end
section
open PySem PySem.W PySem.Calls PyProof.Rows
noncomputable section
noncomputable def x12_0 (P : Params) : Obj := ⟨.none, none, (.fields #[]), #[]⟩
noncomputable def x3_1 (P : Params) : Obj := ⟨(.type "dict"), none, (.dict #[⟨PyData.keyHash P (Str.ofString "__name__"), (.str (Str.ofString "__name__") 165), (.str (Str.ofString "cpy313.ftplib") 271)⟩, ⟨PyData.keyHash P (Str.ofString "__doc__"), (.str (Str.ofString "__doc__") 166), .none⟩, ⟨PyData.keyHash P (Str.ofString "__package__"), (.str (Str.ofString "__package__") 167), .none⟩, ⟨PyData.keyHash P (Str.ofString "__loader__"), (.str (Str.ofString "__loader__") 168), (.builtin "__main__.__loader__#opaque")⟩, ⟨PyData.keyHash P (Str.ofString "__spec__"), (.str (Str.ofString "__spec__") 169), .none⟩, ⟨PyData.keyHash P (Str.ofString "__annotations__"), (.str (Str.ofString "__annotations__") 170), (.ref 6)⟩, ⟨PyData.keyHash P (Str.ofString "__builtins__"), (.str (Str.ofString "__builtins__") 171), (.ref 4)⟩, ⟨PyData.keyHash P (Str.ofString "__file__"), (.str (Str.ofString "__file__") 173), (.str (Str.ofString "/claim/cut.py") 172)⟩, ⟨PyData.keyHash P (Str.ofString "__cached__"), (.str (Str.ofString "__cached__") 174), .none⟩, ⟨PyData.keyHash P (Str.ofString "not_"), (.str (Str.ofString "not_") 195), (.ref 21)⟩, ⟨PyData.keyHash P (Str.ofString "is_"), (.str (Str.ofString "is_") 203), (.ref 28)⟩, ⟨PyData.keyHash P (Str.ofString "neg"), (.str (Str.ofString "neg") 210), (.ref 35)⟩, ⟨PyData.keyHash P (Str.ofString "countOf"), (.str (Str.ofString "countOf") 220), (.ref 42)⟩, ⟨PyData.keyHash P (Str.ofString "indexOf"), (.str (Str.ofString "indexOf") 230), (.ref 49)⟩, ⟨PyData.keyHash P (Str.ofString "iadd"), (.str (Str.ofString "iadd") 238), (.ref 56)⟩, ⟨PyData.keyHash P (Str.ofString "imod"), (.str (Str.ofString "imod") 246), (.ref 63)⟩, ⟨PyData.keyHash P (Str.ofString "imul"), (.str (Str.ofString "imul") 254), (.ref 70)⟩, ⟨PyData.keyHash P (Str.ofString "ipow"), (.str (Str.ofString "ipow") 262), (.ref 77)⟩, ⟨PyData.keyHash P (Str.ofString "isub"), (.str (Str.ofString "isub") 270), (.ref 84)⟩] 19), #[]⟩
noncomputable def x12_2 (P : Params) : Obj := ⟨.none, none, (.fields #[(.int 2 0), (.int 0 0), (.ref 20), (.int 4 0), (.int 0 0), (.ref 27), (.int 6 0), (.int 0 0), (.ref 34), (.int 8 0), (.int 0 0), (.ref 41), (.int 14 0), (.int 0 0), (.ref 48), (.int 20 0), (.int 0 0), (.ref 55), (.int 23 0), (.int 0 0), (.ref 62), (.int 26 0), (.int 0 0), (.ref 69), (.int 29 0), (.int 0 0), (.ref 76), (.int 32 0), (.int 0 0), (.ref 83)]), #[]⟩
noncomputable def x3_3 (P : Params) : Obj := ⟨(.type "dict"), none, (.dict #[⟨PyData.keyHash P (Str.ofString "__name__"), (.str (Str.ofString "__name__") 165), (.str (Str.ofString "cpy313.ftplib") 271)⟩, ⟨PyData.keyHash P (Str.ofString "__doc__"), (.str (Str.ofString "__doc__") 166), .none⟩, ⟨PyData.keyHash P (Str.ofString "__package__"), (.str (Str.ofString "__package__") 167), .none⟩, ⟨PyData.keyHash P (Str.ofString "__loader__"), (.str (Str.ofString "__loader__") 168), (.builtin "__main__.__loader__#opaque")⟩, ⟨PyData.keyHash P (Str.ofString "__spec__"), (.str (Str.ofString "__spec__") 169), .none⟩, ⟨PyData.keyHash P (Str.ofString "__annotations__"), (.str (Str.ofString "__annotations__") 170), (.ref 6)⟩, ⟨PyData.keyHash P (Str.ofString "__builtins__"), (.str (Str.ofString "__builtins__") 171), (.ref 4)⟩, ⟨PyData.keyHash P (Str.ofString "__file__"), (.str (Str.ofString "__file__") 173), (.str (Str.ofString "/claim/cut.py") 172)⟩, ⟨PyData.keyHash P (Str.ofString "__cached__"), (.str (Str.ofString "__cached__") 174), .none⟩, ⟨PyData.keyHash P (Str.ofString "not_"), (.str (Str.ofString "not_") 195), (.ref 21)⟩, ⟨PyData.keyHash P (Str.ofString "is_"), (.str (Str.ofString "is_") 203), (.ref 28)⟩, ⟨PyData.keyHash P (Str.ofString "neg"), (.str (Str.ofString "neg") 210), (.ref 35)⟩, ⟨PyData.keyHash P (Str.ofString "countOf"), (.str (Str.ofString "countOf") 220), (.ref 42)⟩, ⟨PyData.keyHash P (Str.ofString "indexOf"), (.str (Str.ofString "indexOf") 230), (.ref 49)⟩, ⟨PyData.keyHash P (Str.ofString "iadd"), (.str (Str.ofString "iadd") 238), (.ref 56)⟩, ⟨PyData.keyHash P (Str.ofString "imod"), (.str (Str.ofString "imod") 246), (.ref 63)⟩, ⟨PyData.keyHash P (Str.ofString "imul"), (.str (Str.ofString "imul") 254), (.ref 70)⟩, ⟨PyData.keyHash P (Str.ofString "ipow"), (.str (Str.ofString "ipow") 262), (.ref 77)⟩, ⟨PyData.keyHash P (Str.ofString "isub"), (.str (Str.ofString "isub") 270), (.ref 84)⟩, ⟨PyData.keyHash P (Str.ofString "Error"), (.str (Str.ofString "Error") 292), (.ref 94)⟩, ⟨PyData.keyHash P (Str.ofString "error_reply"), (.str (Str.ofString "error_reply") 308), (.ref 107)⟩] 21), #[]⟩
noncomputable def x12_4 (P : Params) : Obj := ⟨.none, none, (.fields #[(.int 2 0), (.int 0 0), (.ref 20), (.int 4 0), (.int 0 0), (.ref 27), (.int 6 0), (.int 0 0), (.ref 34), (.int 8 0), (.int 0 0), (.ref 41), (.int 14 0), (.int 0 0), (.ref 48), (.int 20 0), (.int 0 0), (.ref 55), (.int 23 0), (.int 0 0), (.ref 62), (.int 26 0), (.int 0 0), (.ref 69), (.int 29 0), (.int 0 0), (.ref 76), (.int 32 0), (.int 0 0), (.ref 83), (.int 36 0), (.int 0 0), (.ref 90), (.int 38 0), (.int 0 0), (.ref 103)]), #[]⟩
noncomputable def x3_5 (P : Params) : Obj := ⟨(.type "dict"), none, (.dict #[⟨PyData.keyHash P (Str.ofString "__name__"), (.str (Str.ofString "__name__") 165), (.str (Str.ofString "cpy313.stringprep") 320)⟩, ⟨PyData.keyHash P (Str.ofString "__doc__"), (.str (Str.ofString "__doc__") 166), .none⟩, ⟨PyData.keyHash P (Str.ofString "__package__"), (.str (Str.ofString "__package__") 167), .none⟩, ⟨PyData.keyHash P (Str.ofString "__loader__"), (.str (Str.ofString "__loader__") 168), (.builtin "__main__.__loader__#opaque")⟩, ⟨PyData.keyHash P (Str.ofString "__spec__"), (.str (Str.ofString "__spec__") 169), .none⟩, ⟨PyData.keyHash P (Str.ofString "__annotations__"), (.str (Str.ofString "__annotations__") 170), (.ref 6)⟩, ⟨PyData.keyHash P (Str.ofString "__builtins__"), (.str (Str.ofString "__builtins__") 171), (.ref 4)⟩, ⟨PyData.keyHash P (Str.ofString "__file__"), (.str (Str.ofString "__file__") 173), (.str (Str.ofString "/claim/cut.py") 172)⟩, ⟨PyData.keyHash P (Str.ofString "__cached__"), (.str (Str.ofString "__cached__") 174), .none⟩, ⟨PyData.keyHash P (Str.ofString "not_"), (.str (Str.ofString "not_") 195), (.ref 21)⟩, ⟨PyData.keyHash P (Str.ofString "is_"), (.str (Str.ofString "is_") 203), (.ref 28)⟩, ⟨PyData.keyHash P (Str.ofString "neg"), (.str (Str.ofString "neg") 210), (.ref 35)⟩, ⟨PyData.keyHash P (Str.ofString "countOf"), (.str (Str.ofString "countOf") 220), (.ref 42)⟩, ⟨PyData.keyHash P (Str.ofString "indexOf"), (.str (Str.ofString "indexOf") 230), (.ref 49)⟩, ⟨PyData.keyHash P (Str.ofString "iadd"), (.str (Str.ofString "iadd") 238), (.ref 56)⟩, ⟨PyData.keyHash P (Str.ofString "imod"), (.str (Str.ofString "imod") 246), (.ref 63)⟩, ⟨PyData.keyHash P (Str.ofString "imul"), (.str (Str.ofString "imul") 254), (.ref 70)⟩, ⟨PyData.keyHash P (Str.ofString "ipow"), (.str (Str.ofString "ipow") 262), (.ref 77)⟩, ⟨PyData.keyHash P (Str.ofString "isub"), (.str (Str.ofString "isub") 270), (.ref 84)⟩, ⟨PyData.keyHash P (Str.ofString "Error"), (.str (Str.ofString "Error") 292), (.ref 94)⟩, ⟨PyData.keyHash P (Str.ofString "error_reply"), (.str (Str.ofString "error_reply") 308), (.ref 107)⟩, ⟨PyData.keyHash P (Str.ofString "parse257"), (.str (Str.ofString "parse257") 319), (.ref 116)⟩] 22), #[]⟩
noncomputable def x12_6 (P : Params) : Obj := ⟨.none, none, (.fields #[(.int 2 0), (.int 0 0), (.ref 20), (.int 4 0), (.int 0 0), (.ref 27), (.int 6 0), (.int 0 0), (.ref 34), (.int 8 0), (.int 0 0), (.ref 41), (.int 14 0), (.int 0 0), (.ref 48), (.int 20 0), (.int 0 0), (.ref 55), (.int 23 0), (.int 0 0), (.ref 62), (.int 26 0), (.int 0 0), (.ref 69), (.int 29 0), (.int 0 0), (.ref 76), (.int 32 0), (.int 0 0), (.ref 83), (.int 36 0), (.int 0 0), (.ref 90), (.int 38 0), (.int 0 0), (.ref 103), (.int 40 0), (.int 0 0), (.ref 115)]), #[]⟩
noncomputable def x3_7 (P : Params) : Obj := ⟨(.type "dict"), none, (.dict #[⟨PyData.keyHash P (Str.ofString "__name__"), (.str (Str.ofString "__name__") 165), (.str (Str.ofString "cpy313.stringprep") 320)⟩, ⟨PyData.keyHash P (Str.ofString "__doc__"), (.str (Str.ofString "__doc__") 166), .none⟩, ⟨PyData.keyHash P (Str.ofString "__package__"), (.str (Str.ofString "__package__") 167), .none⟩, ⟨PyData.keyHash P (Str.ofString "__loader__"), (.str (Str.ofString "__loader__") 168), (.builtin "__main__.__loader__#opaque")⟩, ⟨PyData.keyHash P (Str.ofString "__spec__"), (.str (Str.ofString "__spec__") 169), .none⟩, ⟨PyData.keyHash P (Str.ofString "__annotations__"), (.str (Str.ofString "__annotations__") 170), (.ref 6)⟩, ⟨PyData.keyHash P (Str.ofString "__builtins__"), (.str (Str.ofString "__builtins__") 171), (.ref 4)⟩, ⟨PyData.keyHash P (Str.ofString "__file__"), (.str (Str.ofString "__file__") 173), (.str (Str.ofString "/claim/cut.py") 172)⟩, ⟨PyData.keyHash P (Str.ofString "__cached__"), (.str (Str.ofString "__cached__") 174), .none⟩, ⟨PyData.keyHash P (Str.ofString "not_"), (.str (Str.ofString "not_") 195), (.ref 21)⟩, ⟨PyData.keyHash P (Str.ofString "is_"), (.str (Str.ofString "is_") 203), (.ref 28)⟩, ⟨PyData.keyHash P (Str.ofString "neg"), (.str (Str.ofString "neg") 210), (.ref 35)⟩, ⟨PyData.keyHash P (Str.ofString "countOf"), (.str (Str.ofString "countOf") 220), (.ref 42)⟩, ⟨PyData.keyHash P (Str.ofString "indexOf"), (.str (Str.ofString "indexOf") 230), (.ref 49)⟩, ⟨PyData.keyHash P (Str.ofString "iadd"), (.str (Str.ofString "iadd") 238), (.ref 56)⟩, ⟨PyData.keyHash P (Str.ofString "imod"), (.str (Str.ofString "imod") 246), (.ref 63)⟩, ⟨PyData.keyHash P (Str.ofString "imul"), (.str (Str.ofString "imul") 254), (.ref 70)⟩, ⟨PyData.keyHash P (Str.ofString "ipow"), (.str (Str.ofString "ipow") 262), (.ref 77)⟩, ⟨PyData.keyHash P (Str.ofString "isub"), (.str (Str.ofString "isub") 270), (.ref 84)⟩, ⟨PyData.keyHash P (Str.ofString "Error"), (.str (Str.ofString "Error") 292), (.ref 94)⟩, ⟨PyData.keyHash P (Str.ofString "error_reply"), (.str (Str.ofString "error_reply") 308), (.ref 107)⟩, ⟨PyData.keyHash P (Str.ofString "parse257"), (.str (Str.ofString "parse257") 319), (.ref 116)⟩, ⟨PyData.keyHash P (Str.ofString "b1_set"), (.str (Str.ofString "b1_set") 381), (.ref 124)⟩] 23), #[]⟩
noncomputable def x3_8 (P : Params) : Obj := ⟨(.type "dict"), none, (.dict #[⟨PyData.keyHash P (Str.ofString "__name__"), (.str (Str.ofString "__name__") 165), (.str (Str.ofString "cpy313.stringprep") 320)⟩, ⟨PyData.keyHash P (Str.ofString "__doc__"), (.str (Str.ofString "__doc__") 166), .none⟩, ⟨PyData.keyHash P (Str.ofString "__package__"), (.str (Str.ofString "__package__") 167), .none⟩, ⟨PyData.keyHash P (Str.ofString "__loader__"), (.str (Str.ofString "__loader__") 168), (.builtin "__main__.__loader__#opaque")⟩, ⟨PyData.keyHash P (Str.ofString "__spec__"), (.str (Str.ofString "__spec__") 169), .none⟩, ⟨PyData.keyHash P (Str.ofString "__annotations__"), (.str (Str.ofString "__annotations__") 170), (.ref 6)⟩, ⟨PyData.keyHash P (Str.ofString "__builtins__"), (.str (Str.ofString "__builtins__") 171), (.ref 4)⟩, ⟨PyData.keyHash P (Str.ofString "__file__"), (.str (Str.ofString "__file__") 173), (.str (Str.ofString "/claim/cut.py") 172)⟩, ⟨PyData.keyHash P (Str.ofString "__cached__"), (.str (Str.ofString "__cached__") 174), .none⟩, ⟨PyData.keyHash P (Str.ofString "not_"), (.str (Str.ofString "not_") 195), (.ref 21)⟩, ⟨PyData.keyHash P (Str.ofString "is_"), (.str (Str.ofString "is_") 203), (.ref 28)⟩, ⟨PyData.keyHash P (Str.ofString "neg"), (.str (Str.ofString "neg") 210), (.ref 35)⟩, ⟨PyData.keyHash P (Str.ofString "countOf"), (.str (Str.ofString "countOf") 220), (.ref 42)⟩, ⟨PyData.keyHash P (Str.ofString "indexOf"), (.str (Str.ofString "indexOf") 230), (.ref 49)⟩, ⟨PyData.keyHash P (Str.ofString "iadd"), (.str (Str.ofString "iadd") 238), (.ref 56)⟩, ⟨PyData.keyHash P (Str.ofString "imod"), (.str (Str.ofString "imod") 246), (.ref 63)⟩, ⟨PyData.keyHash P (Str.ofString "imul"), (.str (Str.ofString "imul") 254), (.ref 70)⟩, ⟨PyData.keyHash P (Str.ofString "ipow"), (.str (Str.ofString "ipow") 262), (.ref 77)⟩, ⟨PyData.keyHash P (Str.ofString "isub"), (.str (Str.ofString "isub") 270), (.ref 84)⟩, ⟨PyData.keyHash P (Str.ofString "Error"), (.str (Str.ofString "Error") 292), (.ref 94)⟩, ⟨PyData.keyHash P (Str.ofString "error_reply"), (.str (Str.ofString "error_reply") 308), (.ref 107)⟩, ⟨PyData.keyHash P (Str.ofString "parse257"), (.str (Str.ofString "parse257") 319), (.ref 116)⟩, ⟨PyData.keyHash P (Str.ofString "b1_set"), (.str (Str.ofString "b1_set") 381), (.ref 124)⟩, ⟨PyData.keyHash P (Str.ofString "in_table_b1"), (.str (Str.ofString "in_table_b1") 388), (.ref 134)⟩, ⟨PyData.keyHash P (Str.ofString "in_table_c11"), (.str (Str.ofString "in_table_c11") 395), (.ref 141)⟩, ⟨PyData.keyHash P (Str.ofString "in_table_c4"), (.str (Str.ofString "in_table_c4") 403), (.ref 148)⟩] 26), #[]⟩
noncomputable def x12_9 (P : Params) : Obj := ⟨.none, none, (.fields #[(.int 2 0), (.int 0 0), (.ref 20), (.int 4 0), (.int 0 0), (.ref 27), (.int 6 0), (.int 0 0), (.ref 34), (.int 8 0), (.int 0 0), (.ref 41), (.int 14 0), (.int 0 0), (.ref 48), (.int 20 0), (.int 0 0), (.ref 55), (.int 23 0), (.int 0 0), (.ref 62), (.int 26 0), (.int 0 0), (.ref 69), (.int 29 0), (.int 0 0), (.ref 76), (.int 32 0), (.int 0 0), (.ref 83), (.int 36 0), (.int 0 0), (.ref 90), (.int 38 0), (.int 0 0), (.ref 103), (.int 40 0), (.int 0 0), (.ref 115), (.int 59 0), (.int 0 0), (.ref 133), (.int 61 0), (.int 0 0), (.ref 140), (.int 63 0), (.int 0 0), (.ref 147)]), #[]⟩
noncomputable def x3_10 (P : Params) : Obj := ⟨(.type "dict"), none, (.dict #[⟨PyData.keyHash P (Str.ofString "__name__"), (.str (Str.ofString "__name__") 165), (.str (Str.ofString "cpy313.stringprep") 320)⟩, ⟨PyData.keyHash P (Str.ofString "__doc__"), (.str (Str.ofString "__doc__") 166), .none⟩, ⟨PyData.keyHash P (Str.ofString "__package__"), (.str (Str.ofString "__package__") 167), .none⟩, ⟨PyData.keyHash P (Str.ofString "__loader__"), (.str (Str.ofString "__loader__") 168), (.builtin "__main__.__loader__#opaque")⟩, ⟨PyData.keyHash P (Str.ofString "__spec__"), (.str (Str.ofString "__spec__") 169), .none⟩, ⟨PyData.keyHash P (Str.ofString "__annotations__"), (.str (Str.ofString "__annotations__") 170), (.ref 6)⟩, ⟨PyData.keyHash P (Str.ofString "__builtins__"), (.str (Str.ofString "__builtins__") 171), (.ref 4)⟩, ⟨PyData.keyHash P (Str.ofString "__file__"), (.str (Str.ofString "__file__") 173), (.str (Str.ofString "/claim/cut.py") 172)⟩, ⟨PyData.keyHash P (Str.ofString "__cached__"), (.str (Str.ofString "__cached__") 174), .none⟩, ⟨PyData.keyHash P (Str.ofString "not_"), (.str (Str.ofString "not_") 195), (.ref 21)⟩, ⟨PyData.keyHash P (Str.ofString "is_"), (.str (Str.ofString "is_") 203), (.ref 28)⟩, ⟨PyData.keyHash P (Str.ofString "neg"), (.str (Str.ofString "neg") 210), (.ref 35)⟩, ⟨PyData.keyHash P (Str.ofString "countOf"), (.str (Str.ofString "countOf") 220), (.ref 42)⟩, ⟨PyData.keyHash P (Str.ofString "indexOf"), (.str (Str.ofString "indexOf") 230), (.ref 49)⟩, ⟨PyData.keyHash P (Str.ofString "iadd"), (.str (Str.ofString "iadd") 238), (.ref 56)⟩, ⟨PyData.keyHash P (Str.ofString "imod"), (.str (Str.ofString "imod") 246), (.ref 63)⟩, ⟨PyData.keyHash P (Str.ofString "imul"), (.str (Str.ofString "imul") 254), (.ref 70)⟩, ⟨PyData.keyHash P (Str.ofString "ipow"), (.str (Str.ofString "ipow") 262), (.ref 77)⟩, ⟨PyData.keyHash P (Str.ofString "isub"), (.str (Str.ofString "isub") 270), (.ref 84)⟩, ⟨PyData.keyHash P (Str.ofString "Error"), (.str (Str.ofString "Error") 292), (.ref 94)⟩, ⟨PyData.keyHash P (Str.ofString "error_reply"), (.str (Str.ofString "error_reply") 308), (.ref 107)⟩, ⟨PyData.keyHash P (Str.ofString "parse257"), (.str (Str.ofString "parse257") 319), (.ref 116)⟩, ⟨PyData.keyHash P (Str.ofString "b1_set"), (.str (Str.ofString "b1_set") 381), (.ref 124)⟩, ⟨PyData.keyHash P (Str.ofString "in_table_b1"), (.str (Str.ofString "in_table_b1") 388), (.ref 134)⟩, ⟨PyData.keyHash P (Str.ofString "in_table_c11"), (.str (Str.ofString "in_table_c11") 395), (.ref 141)⟩, ⟨PyData.keyHash P (Str.ofString "in_table_c4"), (.str (Str.ofString "in_table_c4") 403), (.ref 148)⟩, ⟨PyData.keyHash P (Str.ofString "c6_set"), (.str (Str.ofString "c6_set") 417), (.ref 150)⟩] 27), #[]⟩
noncomputable def x3_11 (P : Params) : Obj := ⟨(.type "dict"), none, (.dict #[⟨PyData.keyHash P (Str.ofString "__name__"), (.str (Str.ofString "__name__") 165), (.str (Str.ofString "cpy313.stringprep") 320)⟩, ⟨PyData.keyHash P (Str.ofString "__doc__"), (.str (Str.ofString "__doc__") 166), .none⟩, ⟨PyData.keyHash P (Str.ofString "__package__"), (.str (Str.ofString "__package__") 167), .none⟩, ⟨PyData.keyHash P (Str.ofString "__loader__"), (.str (Str.ofString "__loader__") 168), (.builtin "__main__.__loader__#opaque")⟩, ⟨PyData.keyHash P (Str.ofString "__spec__"), (.str (Str.ofString "__spec__") 169), .none⟩, ⟨PyData.keyHash P (Str.ofString "__annotations__"), (.str (Str.ofString "__annotations__") 170), (.ref 6)⟩, ⟨PyData.keyHash P (Str.ofString "__builtins__"), (.str (Str.ofString "__builtins__") 171), (.ref 4)⟩, ⟨PyData.keyHash P (Str.ofString "__file__"), (.str (Str.ofString "__file__") 173), (.str (Str.ofString "/claim/cut.py") 172)⟩, ⟨PyData.keyHash P (Str.ofString "__cached__"), (.str (Str.ofString "__cached__") 174), .none⟩, ⟨PyData.keyHash P (Str.ofString "not_"), (.str (Str.ofString "not_") 195), (.ref 21)⟩, ⟨PyData.keyHash P (Str.ofString "is_"), (.str (Str.ofString "is_") 203), (.ref 28)⟩, ⟨PyData.keyHash P (Str.ofString "neg"), (.str (Str.ofString "neg") 210), (.ref 35)⟩, ⟨PyData.keyHash P (Str.ofString "countOf"), (.str (Str.ofString "countOf") 220), (.ref 42)⟩, ⟨PyData.keyHash P (Str.ofString "indexOf"), (.str (Str.ofString "indexOf") 230), (.ref 49)⟩, ⟨PyData.keyHash P (Str.ofString "iadd"), (.str (Str.ofString "iadd") 238), (.ref 56)⟩, ⟨PyData.keyHash P (Str.ofString "imod"), (.str (Str.ofString "imod") 246), (.ref 63)⟩, ⟨PyData.keyHash P (Str.ofString "imul"), (.str (Str.ofString "imul") 254), (.ref 70)⟩, ⟨PyData.keyHash P (Str.ofString "ipow"), (.str (Str.ofString "ipow") 262), (.ref 77)⟩, ⟨PyData.keyHash P (Str.ofString "isub"), (.str (Str.ofString "isub") 270), (.ref 84)⟩, ⟨PyData.keyHash P (Str.ofString "Error"), (.str (Str.ofString "Error") 292), (.ref 94)⟩, ⟨PyData.keyHash P (Str.ofString "error_reply"), (.str (Str.ofString "error_reply") 308), (.ref 107)⟩, ⟨PyData.keyHash P (Str.ofString "parse257"), (.str (Str.ofString "parse257") 319), (.ref 116)⟩, ⟨PyData.keyHash P (Str.ofString "b1_set"), (.str (Str.ofString "b1_set") 381), (.ref 124)⟩, ⟨PyData.keyHash P (Str.ofString "in_table_b1"), (.str (Str.ofString "in_table_b1") 388), (.ref 134)⟩, ⟨PyData.keyHash P (Str.ofString "in_table_c11"), (.str (Str.ofString "in_table_c11") 395), (.ref 141)⟩, ⟨PyData.keyHash P (Str.ofString "in_table_c4"), (.str (Str.ofString "in_table_c4") 403), (.ref 148)⟩, ⟨PyData.keyHash P (Str.ofString "c6_set"), (.str (Str.ofString "c6_set") 417), (.ref 150)⟩, ⟨PyData.keyHash P (Str.ofString "in_table_c6"), (.str (Str.ofString "in_table_c6") 424), (.ref 160)⟩] 28), #[]⟩
noncomputable def x12_12 (P : Params) : Obj := ⟨.none, none, (.fields #[(.int 2 0), (.int 0 0), (.ref 20), (.int 4 0), (.int 0 0), (.ref 27), (.int 6 0), (.int 0 0), (.ref 34), (.int 8 0), (.int 0 0), (.ref 41), (.int 14 0), (.int 0 0), (.ref 48), (.int 20 0), (.int 0 0), (.ref 55), (.int 23 0), (.int 0 0), (.ref 62), (.int 26 0), (.int 0 0), (.ref 69), (.int 29 0), (.int 0 0), (.ref 76), (.int 32 0), (.int 0 0), (.ref 83), (.int 36 0), (.int 0 0), (.ref 90), (.int 38 0), (.int 0 0), (.ref 103), (.int 40 0), (.int 0 0), (.ref 115), (.int 59 0), (.int 0 0), (.ref 133), (.int 61 0), (.int 0 0), (.ref 140), (.int 63 0), (.int 0 0), (.ref 147), (.int 71 0), (.int 0 0), (.ref 159)]), #[]⟩
noncomputable def x3_13 (P : Params) : Obj := ⟨(.type "dict"), none, (.dict #[⟨PyData.keyHash P (Str.ofString "__name__"), (.str (Str.ofString "__name__") 165), (.str (Str.ofString "cpy313.stringprep") 320)⟩, ⟨PyData.keyHash P (Str.ofString "__doc__"), (.str (Str.ofString "__doc__") 166), .none⟩, ⟨PyData.keyHash P (Str.ofString "__package__"), (.str (Str.ofString "__package__") 167), .none⟩, ⟨PyData.keyHash P (Str.ofString "__loader__"), (.str (Str.ofString "__loader__") 168), (.builtin "__main__.__loader__#opaque")⟩, ⟨PyData.keyHash P (Str.ofString "__spec__"), (.str (Str.ofString "__spec__") 169), .none⟩, ⟨PyData.keyHash P (Str.ofString "__annotations__"), (.str (Str.ofString "__annotations__") 170), (.ref 6)⟩, ⟨PyData.keyHash P (Str.ofString "__builtins__"), (.str (Str.ofString "__builtins__") 171), (.ref 4)⟩, ⟨PyData.keyHash P (Str.ofString "__file__"), (.str (Str.ofString "__file__") 173), (.str (Str.ofString "/claim/cut.py") 172)⟩, ⟨PyData.keyHash P (Str.ofString "__cached__"), (.str (Str.ofString "__cached__") 174), .none⟩, ⟨PyData.keyHash P (Str.ofString "not_"), (.str (Str.ofString "not_") 195), (.ref 21)⟩, ⟨PyData.keyHash P (Str.ofString "is_"), (.str (Str.ofString "is_") 203), (.ref 28)⟩, ⟨PyData.keyHash P (Str.ofString "neg"), (.str (Str.ofString "neg") 210), (.ref 35)⟩, ⟨PyData.keyHash P (Str.ofString "countOf"), (.str (Str.ofString "countOf") 220), (.ref 42)⟩, ⟨PyData.keyHash P (Str.ofString "indexOf"), (.str (Str.ofString "indexOf") 230), (.ref 49)⟩, ⟨PyData.keyHash P (Str.ofString "iadd"), (.str (Str.ofString "iadd") 238), (.ref 56)⟩, ⟨PyData.keyHash P (Str.ofString "imod"), (.str (Str.ofString "imod") 246), (.ref 63)⟩, ⟨PyData.keyHash P (Str.ofString "imul"), (.str (Str.ofString "imul") 254), (.ref 70)⟩, ⟨PyData.keyHash P (Str.ofString "ipow"), (.str (Str.ofString "ipow") 262), (.ref 77)⟩, ⟨PyData.keyHash P (Str.ofString "isub"), (.str (Str.ofString "isub") 270), (.ref 84)⟩, ⟨PyData.keyHash P (Str.ofString "Error"), (.str (Str.ofString "Error") 292), (.ref 94)⟩, ⟨PyData.keyHash P (Str.ofString "error_reply"), (.str (Str.ofString "error_reply") 308), (.ref 107)⟩, ⟨PyData.keyHash P (Str.ofString "parse257"), (.str (Str.ofString "parse257") 319), (.ref 116)⟩, ⟨PyData.keyHash P (Str.ofString "b1_set"), (.str (Str.ofString "b1_set") 381), (.ref 124)⟩, ⟨PyData.keyHash P (Str.ofString "in_table_b1"), (.str (Str.ofString "in_table_b1") 388), (.ref 134)⟩, ⟨PyData.keyHash P (Str.ofString "in_table_c11"), (.str (Str.ofString "in_table_c11") 395), (.ref 141)⟩, ⟨PyData.keyHash P (Str.ofString "in_table_c4"), (.str (Str.ofString "in_table_c4") 403), (.ref 148)⟩, ⟨PyData.keyHash P (Str.ofString "c6_set"), (.str (Str.ofString "c6_set") 417), (.ref 150)⟩, ⟨PyData.keyHash P (Str.ofString "in_table_c6"), (.str (Str.ofString "in_table_c6") 424), (.ref 160)⟩, ⟨PyData.keyHash P (Str.ofString "c7_set"), (.str (Str.ofString "c7_set") 452), (.ref 162)⟩] 29), #[]⟩
noncomputable def x3_14 (P : Params) : Obj := ⟨(.type "dict"), none, (.dict #[⟨PyData.keyHash P (Str.ofString "__name__"), (.str (Str.ofString "__name__") 165), (.str (Str.ofString "cpy313.stringprep") 320)⟩, ⟨PyData.keyHash P (Str.ofString "__doc__"), (.str (Str.ofString "__doc__") 166), .none⟩, ⟨PyData.keyHash P (Str.ofString "__package__"), (.str (Str.ofString "__package__") 167), .none⟩, ⟨PyData.keyHash P (Str.ofString "__loader__"), (.str (Str.ofString "__loader__") 168), (.builtin "__main__.__loader__#opaque")⟩, ⟨PyData.keyHash P (Str.ofString "__spec__"), (.str (Str.ofString "__spec__") 169), .none⟩, ⟨PyData.keyHash P (Str.ofString "__annotations__"), (.str (Str.ofString "__annotations__") 170), (.ref 6)⟩, ⟨PyData.keyHash P (Str.ofString "__builtins__"), (.str (Str.ofString "__builtins__") 171), (.ref 4)⟩, ⟨PyData.keyHash P (Str.ofString "__file__"), (.str (Str.ofString "__file__") 173), (.str (Str.ofString "/claim/cut.py") 172)⟩, ⟨PyData.keyHash P (Str.ofString "__cached__"), (.str (Str.ofString "__cached__") 174), .none⟩, ⟨PyData.keyHash P (Str.ofString "not_"), (.str (Str.ofString "not_") 195), (.ref 21)⟩, ⟨PyData.keyHash P (Str.ofString "is_"), (.str (Str.ofString "is_") 203), (.ref 28)⟩, ⟨PyData.keyHash P (Str.ofString "neg"), (.str (Str.ofString "neg") 210), (.ref 35)⟩, ⟨PyData.keyHash P (Str.ofString "countOf"), (.str (Str.ofString "countOf") 220), (.ref 42)⟩, ⟨PyData.keyHash P (Str.ofString "indexOf"), (.str (Str.ofString "indexOf") 230), (.ref 49)⟩, ⟨PyData.keyHash P (Str.ofString "iadd"), (.str (Str.ofString "iadd") 238), (.ref 56)⟩, ⟨PyData.keyHash P (Str.ofString "imod"), (.str (Str.ofString "imod") 246), (.ref 63)⟩, ⟨PyData.keyHash P (Str.ofString "imul"), (.str (Str.ofString "imul") 254), (.ref 70)⟩, ⟨PyData.keyHash P (Str.ofString "ipow"), (.str (Str.ofString "ipow") 262), (.ref 77)⟩, ⟨PyData.keyHash P (Str.ofString "isub"), (.str (Str.ofString "isub") 270), (.ref 84)⟩, ⟨PyData.keyHash P (Str.ofString "Error"), (.str (Str.ofString "Error") 292), (.ref 94)⟩, ⟨PyData.keyHash P (Str.ofString "error_reply"), (.str (Str.ofString "error_reply") 308), (.ref 107)⟩, ⟨PyData.keyHash P (Str.ofString "parse257"), (.str (Str.ofString "parse257") 319), (.ref 116)⟩, ⟨PyData.keyHash P (Str.ofString "b1_set"), (.str (Str.ofString "b1_set") 381), (.ref 124)⟩, ⟨PyData.keyHash P (Str.ofString "in_table_b1"), (.str (Str.ofString "in_table_b1") 388), (.ref 134)⟩, ⟨PyData.keyHash P (Str.ofString "in_table_c11"), (.str (Str.ofString "in_table_c11") 395), (.ref 141)⟩, ⟨PyData.keyHash P (Str.ofString "in_table_c4"), (.str (Str.ofString "in_table_c4") 403), (.ref 148)⟩, ⟨PyData.keyHash P (Str.ofString "c6_set"), (.str (Str.ofString "c6_set") 417), (.ref 150)⟩, ⟨PyData.keyHash P (Str.ofString "in_table_c6"), (.str (Str.ofString "in_table_c6") 424), (.ref 160)⟩, ⟨PyData.keyHash P (Str.ofString "c7_set"), (.str (Str.ofString "c7_set") 452), (.ref 162)⟩, ⟨PyData.keyHash P (Str.ofString "in_table_c7"), (.str (Str.ofString "in_table_c7") 459), (.ref 172)⟩] 30), #[]⟩
noncomputable def x12_15 (P : Params) : Obj := ⟨.none, none, (.fields #[(.int 2 0), (.int 0 0), (.ref 20), (.int 4 0), (.int 0 0), (.ref 27), (.int 6 0), (.int 0 0), (.ref 34), (.int 8 0), (.int 0 0), (.ref 41), (.int 14 0), (.int 0 0), (.ref 48), (.int 20 0), (.int 0 0), (.ref 55), (.int 23 0), (.int 0 0), (.ref 62), (.int 26 0), (.int 0 0), (.ref 69), (.int 29 0), (.int 0 0), (.ref 76), (.int 32 0), (.int 0 0), (.ref 83), (.int 36 0), (.int 0 0), (.ref 90), (.int 38 0), (.int 0 0), (.ref 103), (.int 40 0), (.int 0 0), (.ref 115), (.int 59 0), (.int 0 0), (.ref 133), (.int 61 0), (.int 0 0), (.ref 140), (.int 63 0), (.int 0 0), (.ref 147), (.int 71 0), (.int 0 0), (.ref 159), (.int 74 0), (.int 0 0), (.ref 171)]), #[]⟩
noncomputable def x3_16 (P : Params) : Obj := ⟨(.type "dict"), none, (.dict #[⟨PyData.keyHash P (Str.ofString "__name__"), (.str (Str.ofString "__name__") 165), (.str (Str.ofString "cpy313.stringprep") 320)⟩, ⟨PyData.keyHash P (Str.ofString "__doc__"), (.str (Str.ofString "__doc__") 166), .none⟩, ⟨PyData.keyHash P (Str.ofString "__package__"), (.str (Str.ofString "__package__") 167), .none⟩, ⟨PyData.keyHash P (Str.ofString "__loader__"), (.str (Str.ofString "__loader__") 168), (.builtin "__main__.__loader__#opaque")⟩, ⟨PyData.keyHash P (Str.ofString "__spec__"), (.str (Str.ofString "__spec__") 169), .none⟩, ⟨PyData.keyHash P (Str.ofString "__annotations__"), (.str (Str.ofString "__annotations__") 170), (.ref 6)⟩, ⟨PyData.keyHash P (Str.ofString "__builtins__"), (.str (Str.ofString "__builtins__") 171), (.ref 4)⟩, ⟨PyData.keyHash P (Str.ofString "__file__"), (.str (Str.ofString "__file__") 173), (.str (Str.ofString "/claim/cut.py") 172)⟩, ⟨PyData.keyHash P (Str.ofString "__cached__"), (.str (Str.ofString "__cached__") 174), .none⟩, ⟨PyData.keyHash P (Str.ofString "not_"), (.str (Str.ofString "not_") 195), (.ref 21)⟩, ⟨PyData.keyHash P (Str.ofString "is_"), (.str (Str.ofString "is_") 203), (.ref 28)⟩, ⟨PyData.keyHash P (Str.ofString "neg"), (.str (Str.ofString "neg") 210), (.ref 35)⟩, ⟨PyData.keyHash P (Str.ofString "countOf"), (.str (Str.ofString "countOf") 220), (.ref 42)⟩, ⟨PyData.keyHash P (Str.ofString "indexOf"), (.str (Str.ofString "indexOf") 230), (.ref 49)⟩, ⟨PyData.keyHash P (Str.ofString "iadd"), (.str (Str.ofString "iadd") 238), (.ref 56)⟩, ⟨PyData.keyHash P (Str.ofString "imod"), (.str (Str.ofString "imod") 246), (.ref 63)⟩, ⟨PyData.keyHash P (Str.ofString "imul"), (.str (Str.ofString "imul") 254), (.ref 70)⟩, ⟨PyData.keyHash P (Str.ofString "ipow"), (.str (Str.ofString "ipow") 262), (.ref 77)⟩, ⟨PyData.keyHash P (Str.ofString "isub"), (.str (Str.ofString "isub") 270), (.ref 84)⟩, ⟨PyData.keyHash P (Str.ofString "Error"), (.str (Str.ofString "Error") 292), (.ref 94)⟩, ⟨PyData.keyHash P (Str.ofString "error_reply"), (.str (Str.ofString "error_reply") 308), (.ref 107)⟩, ⟨PyData.keyHash P (Str.ofString "parse257"), (.str (Str.ofString "parse257") 319), (.ref 116)⟩, ⟨PyData.keyHash P (Str.ofString "b1_set"), (.str (Str.ofString "b1_set") 381), (.ref 124)⟩, ⟨PyData.keyHash P (Str.ofString "in_table_b1"), (.str (Str.ofString "in_table_b1") 388), (.ref 134)⟩, ⟨PyData.keyHash P (Str.ofString "in_table_c11"), (.str (Str.ofString "in_table_c11") 395), (.ref 141)⟩, ⟨PyData.keyHash P (Str.ofString "in_table_c4"), (.str (Str.ofString "in_table_c4") 403), (.ref 148)⟩, ⟨PyData.keyHash P (Str.ofString "c6_set"), (.str (Str.ofString "c6_set") 417), (.ref 150)⟩, ⟨PyData.keyHash P (Str.ofString "in_table_c6"), (.str (Str.ofString "in_table_c6") 424), (.ref 160)⟩, ⟨PyData.keyHash P (Str.ofString "c7_set"), (.str (Str.ofString "c7_set") 452), (.ref 162)⟩, ⟨PyData.keyHash P (Str.ofString "in_table_c7"), (.str (Str.ofString "in_table_c7") 459), (.ref 172)⟩, ⟨PyData.keyHash P (Str.ofString "c8_set"), (.str (Str.ofString "c8_set") 500), (.ref 186)⟩] 31), #[]⟩
noncomputable def x3_17 (P : Params) : Obj := ⟨(.type "dict"), none, (.dict #[⟨PyData.keyHash P (Str.ofString "__name__"), (.str (Str.ofString "__name__") 165), (.str (Str.ofString "cpy313.stringprep") 320)⟩, ⟨PyData.keyHash P (Str.ofString "__doc__"), (.str (Str.ofString "__doc__") 166), .none⟩, ⟨PyData.keyHash P (Str.ofString "__package__"), (.str (Str.ofString "__package__") 167), .none⟩, ⟨PyData.keyHash P (Str.ofString "__loader__"), (.str (Str.ofString "__loader__") 168), (.builtin "__main__.__loader__#opaque")⟩, ⟨PyData.keyHash P (Str.ofString "__spec__"), (.str (Str.ofString "__spec__") 169), .none⟩, ⟨PyData.keyHash P (Str.ofString "__annotations__"), (.str (Str.ofString "__annotations__") 170), (.ref 6)⟩, ⟨PyData.keyHash P (Str.ofString "__builtins__"), (.str (Str.ofString "__builtins__") 171), (.ref 4)⟩, ⟨PyData.keyHash P (Str.ofString "__file__"), (.str (Str.ofString "__file__") 173), (.str (Str.ofString "/claim/cut.py") 172)⟩, ⟨PyData.keyHash P (Str.ofString "__cached__"), (.str (Str.ofString "__cached__") 174), .none⟩, ⟨PyData.keyHash P (Str.ofString "not_"), (.str (Str.ofString "not_") 195), (.ref 21)⟩, ⟨PyData.keyHash P (Str.ofString "is_"), (.str (Str.ofString "is_") 203), (.ref 28)⟩, ⟨PyData.keyHash P (Str.ofString "neg"), (.str (Str.ofString "neg") 210), (.ref 35)⟩, ⟨PyData.keyHash P (Str.ofString "countOf"), (.str (Str.ofString "countOf") 220), (.ref 42)⟩, ⟨PyData.keyHash P (Str.ofString "indexOf"), (.str (Str.ofString "indexOf") 230), (.ref 49)⟩, ⟨PyData.keyHash P (Str.ofString "iadd"), (.str (Str.ofString "iadd") 238), (.ref 56)⟩, ⟨PyData.keyHash P (Str.ofString "imod"), (.str (Str.ofString "imod") 246), (.ref 63)⟩, ⟨PyData.keyHash P (Str.ofString "imul"), (.str (Str.ofString "imul") 254), (.ref 70)⟩, ⟨PyData.keyHash P (Str.ofString "ipow"), (.str (Str.ofString "ipow") 262), (.ref 77)⟩, ⟨PyData.keyHash P (Str.ofString "isub"), (.str (Str.ofString "isub") 270), (.ref 84)⟩, ⟨PyData.keyHash P (Str.ofString "Error"), (.str (Str.ofString "Error") 292), (.ref 94)⟩, ⟨PyData.keyHash P (Str.ofString "error_reply"), (.str (Str.ofString "error_reply") 308), (.ref 107)⟩, ⟨PyData.keyHash P (Str.ofString "parse257"), (.str (Str.ofString "parse257") 319), (.ref 116)⟩, ⟨PyData.keyHash P (Str.ofString "b1_set"), (.str (Str.ofString "b1_set") 381), (.ref 124)⟩, ⟨PyData.keyHash P (Str.ofString "in_table_b1"), (.str (Str.ofString "in_table_b1") 388), (.ref 134)⟩, ⟨PyData.keyHash P (Str.ofString "in_table_c11"), (.str (Str.ofString "in_table_c11") 395), (.ref 141)⟩, ⟨PyData.keyHash P (Str.ofString "in_table_c4"), (.str (Str.ofString "in_table_c4") 403), (.ref 148)⟩, ⟨PyData.keyHash P (Str.ofString "c6_set"), (.str (Str.ofString "c6_set") 417), (.ref 150)⟩, ⟨PyData.keyHash P (Str.ofString "in_table_c6"), (.str (Str.ofString "in_table_c6") 424), (.ref 160)⟩, ⟨PyData.keyHash P (Str.ofString "c7_set"), (.str (Str.ofString "c7_set") 452), (.ref 162)⟩, ⟨PyData.keyHash P (Str.ofString "in_table_c7"), (.str (Str.ofString "in_table_c7") 459), (.ref 172)⟩, ⟨PyData.keyHash P (Str.ofString "c8_set"), (.str (Str.ofString "c8_set") 500), (.ref 186)⟩, ⟨PyData.keyHash P (Str.ofString "in_table_c8"), (.str (Str.ofString "in_table_c8") 507), (.ref 196)⟩] 32), #[]⟩
noncomputable def x12_18 (P : Params) : Obj := ⟨.none, none, (.fields #[(.int 2 0), (.int 0 0), (.ref 20), (.int 4 0), (.int 0 0), (.ref 27), (.int 6 0), (.int 0 0), (.ref 34), (.int 8 0), (.int 0 0), (.ref 41), (.int 14 0), (.int 0 0), (.ref 48), (.int 20 0), (.int 0 0), (.ref 55), (.int 23 0), (.int 0 0), (.ref 62), (.int 26 0), (.int 0 0), (.ref 69), (.int 29 0), (.int 0 0), (.ref 76), (.int 32 0), (.int 0 0), (.ref 83), (.int 36 0), (.int 0 0), (.ref 90), (.int 38 0), (.int 0 0), (.ref 103), (.int 40 0), (.int 0 0), (.ref 115), (.int 59 0), (.int 0 0), (.ref 133), (.int 61 0), (.int 0 0), (.ref 140), (.int 63 0), (.int 0 0), (.ref 147), (.int 71 0), (.int 0 0), (.ref 159), (.int 74 0), (.int 0 0), (.ref 171), (.int 77 0), (.int 0 0), (.ref 195)]), #[]⟩
noncomputable def x3_19 (P : Params) : Obj := ⟨(.type "dict"), none, (.dict #[⟨PyData.keyHash P (Str.ofString "__name__"), (.str (Str.ofString "__name__") 165), (.str (Str.ofString "cpy313.stringprep") 320)⟩, ⟨PyData.keyHash P (Str.ofString "__doc__"), (.str (Str.ofString "__doc__") 166), .none⟩, ⟨PyData.keyHash P (Str.ofString "__package__"), (.str (Str.ofString "__package__") 167), .none⟩, ⟨PyData.keyHash P (Str.ofString "__loader__"), (.str (Str.ofString "__loader__") 168), (.builtin "__main__.__loader__#opaque")⟩, ⟨PyData.keyHash P (Str.ofString "__spec__"), (.str (Str.ofString "__spec__") 169), .none⟩, ⟨PyData.keyHash P (Str.ofString "__annotations__"), (.str (Str.ofString "__annotations__") 170), (.ref 6)⟩, ⟨PyData.keyHash P (Str.ofString "__builtins__"), (.str (Str.ofString "__builtins__") 171), (.ref 4)⟩, ⟨PyData.keyHash P (Str.ofString "__file__"), (.str (Str.ofString "__file__") 173), (.str (Str.ofString "/claim/cut.py") 172)⟩, ⟨PyData.keyHash P (Str.ofString "__cached__"), (.str (Str.ofString "__cached__") 174), .none⟩, ⟨PyData.keyHash P (Str.ofString "not_"), (.str (Str.ofString "not_") 195), (.ref 21)⟩, ⟨PyData.keyHash P (Str.ofString "is_"), (.str (Str.ofString "is_") 203), (.ref 28)⟩, ⟨PyData.keyHash P (Str.ofString "neg"), (.str (Str.ofString "neg") 210), (.ref 35)⟩, ⟨PyData.keyHash P (Str.ofString "countOf"), (.str (Str.ofString "countOf") 220), (.ref 42)⟩, ⟨PyData.keyHash P (Str.ofString "indexOf"), (.str (Str.ofString "indexOf") 230), (.ref 49)⟩, ⟨PyData.keyHash P (Str.ofString "iadd"), (.str (Str.ofString "iadd") 238), (.ref 56)⟩, ⟨PyData.keyHash P (Str.ofString "imod"), (.str (Str.ofString "imod") 246), (.ref 63)⟩, ⟨PyData.keyHash P (Str.ofString "imul"), (.str (Str.ofString "imul") 254), (.ref 70)⟩, ⟨PyData.keyHash P (Str.ofString "ipow"), (.str (Str.ofString "ipow") 262), (.ref 77)⟩, ⟨PyData.keyHash P (Str.ofString "isub"), (.str (Str.ofString "isub") 270), (.ref 84)⟩, ⟨PyData.keyHash P (Str.ofString "Error"), (.str (Str.ofString "Error") 292), (.ref 94)⟩, ⟨PyData.keyHash P (Str.ofString "error_reply"), (.str (Str.ofString "error_reply") 308), (.ref 107)⟩, ⟨PyData.keyHash P (Str.ofString "parse257"), (.str (Str.ofString "parse257") 319), (.ref 116)⟩, ⟨PyData.keyHash P (Str.ofString "b1_set"), (.str (Str.ofString "b1_set") 381), (.ref 124)⟩, ⟨PyData.keyHash P (Str.ofString "in_table_b1"), (.str (Str.ofString "in_table_b1") 388), (.ref 134)⟩, ⟨PyData.keyHash P (Str.ofString "in_table_c11"), (.str (Str.ofString "in_table_c11") 395), (.ref 141)⟩, ⟨PyData.keyHash P (Str.ofString "in_table_c4"), (.str (Str.ofString "in_table_c4") 403), (.ref 148)⟩, ⟨PyData.keyHash P (Str.ofString "c6_set"), (.str (Str.ofString "c6_set") 417), (.ref 150)⟩, ⟨PyData.keyHash P (Str.ofString "in_table_c6"), (.str (Str.ofString "in_table_c6") 424), (.ref 160)⟩, ⟨PyData.keyHash P (Str.ofString "c7_set"), (.str (Str.ofString "c7_set") 452), (.ref 162)⟩, ⟨PyData.keyHash P (Str.ofString "in_table_c7"), (.str (Str.ofString "in_table_c7") 459), (.ref 172)⟩, ⟨PyData.keyHash P (Str.ofString "c8_set"), (.str (Str.ofString "c8_set") 500), (.ref 186)⟩, ⟨PyData.keyHash P (Str.ofString "in_table_c8"), (.str (Str.ofString "in_table_c8") 507), (.ref 196)⟩, ⟨PyData.keyHash P (Str.ofString "c9_set"), (.str (Str.ofString "c9_set") 707), (.ref 204)⟩] 33), #[]⟩
noncomputable def x199_20 (P : Params) : Obj := ⟨(.type "list"), none, (.seq #[] 2), #[]⟩
noncomputable def x200_21 (P : Params) : Obj := ⟨(.type "range_iterator"), none, (.fields #[(.int 917536 0), (.int 96 0), (.int 1 0)]), #[]⟩
noncomputable def x199_22 (P : Params) : Obj := ⟨(.type "list"), none, (.seq #[(.int 917536 514), (.int 917537 515), (.int 917538 516), (.int 917539 517), (.int 917540 518), (.int 917541 519), (.int 917542 520), (.int 917543 521), (.int 917544 522), (.int 917545 523), (.int 917546 524), (.int 917547 525), (.int 917548 526), (.int 917549 527), (.int 917550 528), (.int 917551 529), (.int 917552 530), (.int 917553 531), (.int 917554 532), (.int 917555 533), (.int 917556 534), (.int 917557 535), (.int 917558 536), (.int 917559 537)] 26), #[]⟩
noncomputable def x200_23 (P : Params) : Obj := ⟨(.type "range_iterator"), none, (.fields #[(.int 917560 0), (.int 72 0), (.int 1 0)]), #[]⟩
noncomputable def x199_24 (P : Params) : Obj := ⟨(.type "list"), none, (.seq #[(.int 917536 514), (.int 917537 515), (.int 917538 516), (.int 917539 517), (.int 917540 518), (.int 917541 519), (.int 917542 520), (.int 917543 521), (.int 917544 522), (.int 917545 523), (.int 917546 524), (.int 917547 525), (.int 917548 526), (.int 917549 527), (.int 917550 528), (.int 917551 529), (.int 917552 530), (.int 917553 531), (.int 917554 532), (.int 917555 533), (.int 917556 534), (.int 917557 535), (.int 917558 536), (.int 917559 537), (.int 917560 538), (.int 917561 539), (.int 917562 540), (.int 917563 541), (.int 917564 542), (.int 917565 543), (.int 917566 544), (.int 917567 545), (.int 917568 546), (.int 917569 547), (.int 917570 548), (.int 917571 549), (.int 917572 550), (.int 917573 551), (.int 917574 552), (.int 917575 553), (.int 917576 554), (.int 917577 555), (.int 917578 556), (.int 917579 557), (.int 917580 558), (.int 917581 559), (.int 917582 560), (.int 917583 561)] 50), #[]⟩
noncomputable def x200_25 (P : Params) : Obj := ⟨(.type "range_iterator"), none, (.fields #[(.int 917584 0), (.int 48 0), (.int 1 0)]), #[]⟩
noncomputable def x199_26 (P : Params) : Obj := ⟨(.type "list"), none, (.seq #[(.int 917536 514), (.int 917537 515), (.int 917538 516), (.int 917539 517), (.int 917540 518), (.int 917541 519), (.int 917542 520), (.int 917543 521), (.int 917544 522), (.int 917545 523), (.int 917546 524), (.int 917547 525), (.int 917548 526), (.int 917549 527), (.int 917550 528), (.int 917551 529), (.int 917552 530), (.int 917553 531), (.int 917554 532), (.int 917555 533), (.int 917556 534), (.int 917557 535), (.int 917558 536), (.int 917559 537), (.int 917560 538), (.int 917561 539), (.int 917562 540), (.int 917563 541), (.int 917564 542), (.int 917565 543), (.int 917566 544), (.int 917567 545), (.int 917568 546), (.int 917569 547), (.int 917570 548), (.int 917571 549), (.int 917572 550), (.int 917573 551), (.int 917574 552), (.int 917575 553), (.int 917576 554), (.int 917577 555), (.int 917578 556), (.int 917579 557), (.int 917580 558), (.int 917581 559), (.int 917582 560), (.int 917583 561), (.int 917584 562), (.int 917585 563), (.int 917586 564), (.int 917587 565), (.int 917588 566), (.int 917589 567), (.int 917590 568), (.int 917591 569), (.int 917592 570), (.int 917593 571), (.int 917594 572), (.int 917595 573), (.int 917596 574), (.int 917597 575), (.int 917598 576), (.int 917599 577), (.int 917600 578), (.int 917601 579), (.int 917602 580), (.int 917603 581), (.int 917604 582), (.int 917605 583), (.int 917606 584), (.int 917607 585)] 74), #[]⟩
noncomputable def x200_27 (P : Params) : Obj := ⟨(.type "range_iterator"), none, (.fields #[(.int 917608 0), (.int 24 0), (.int 1 0)]), #[]⟩
noncomputable def x204_28 (P : Params) : Obj := ⟨(.type "set"), none, (.set (ents [(917536, 514), (917505, 508), (917538, 516), (917539, 517), (917537, 515)]) 6 ⟨31, #[0, 1, 2, 3, 4], #[], 0, !P.followText "set-order", 1, true⟩), #[]⟩
noncomputable def x205_29 (P : Params) : Obj := ⟨(.type "list_iterator"), none, (.fields #[(.ref 203), (.int 5 0)]), #[]⟩
noncomputable def x204_36 (P : Params) : Obj := ⟨(.type "set"), none, (.set (ents [(917505, 508), (917536, 514), (917537, 515), (917538, 516), (917539, 517), (917540, 518), (917541, 519), (917542, 520), (917543, 521), (917544, 522), (917545, 523), (917546, 524), (917547, 525), (917548, 526), (917549, 527), (917550, 528), (917551, 529), (917552, 530), (917553, 531), (917554, 532), (917555, 533)]) 23 ⟨127, #[1, 32, 33, 34, 35, 36, 37, 38, 39, 40, 41, 42, 43, 44, 45, 46, 47, 48, 49, 50, 51], #[], 0, !P.followText "set-order", 2, true⟩), #[]⟩
noncomputable def x205_37 (P : Params) : Obj := ⟨(.type "list_iterator"), none, (.fields #[(.ref 203), (.int 21 0)]), #[]⟩
noncomputable def x204_38 (P : Params) : Obj := ⟨(.type "set"), none, (.set (ents [(917505, 508), (917536, 514), (917537, 515), (917538, 516), (917539, 517), (917540, 518), (917541, 519), (917542, 520), (917543, 521), (917544, 522), (917545, 523), (917546, 524), (917547, 525), (917548, 526), (917549, 527), (917550, 528), (917551, 529), (917552, 530), (917553, 531), (917554, 532), (917555, 533), (917556, 534), (917557, 535), (917558, 536), (917559, 537)]) 27 ⟨127, #[1, 32, 33, 34, 35, 36, 37, 38, 39, 40, 41, 42, 43, 44, 45, 46, 47, 48, 49, 50, 51, 52, 53, 54, 55], #[], 0, !P.followText "set-order", 2, true⟩), #[]⟩
noncomputable def x205_39 (P : Params) : Obj := ⟨(.type "list_iterator"), none, (.fields #[(.ref 203), (.int 25 0)]), #[]⟩
noncomputable def x204_40 (P : Params) : Obj := ⟨(.type "set"), none, (.set (ents [(917505, 508), (917536, 514), (917537, 515), (917538, 516), (917539, 517), (917540, 518), (917541, 519), (917542, 520), (917543, 521), (917544, 522), (917545, 523), (917546, 524), (917547, 525), (917548, 526), (917549, 527), (917550, 528), (917551, 529), (917552, 530), (917553, 531), (917554, 532), (917555, 533), (917556, 534), (917557, 535), (917558, 536), (917559, 537), (917560, 538), (917561, 539), (917562, 540), (917563, 541)]) 31 ⟨127, #[1, 32, 33, 34, 35, 36, 37, 38, 39, 40, 41, 42, 43, 44, 45, 46, 47, 48, 49, 50, 51, 52, 53, 54, 55, 56, 57, 58, 59], #[], 0, !P.followText "set-order", 2, true⟩), #[]⟩
noncomputable def x205_41 (P : Params) : Obj := ⟨(.type "list_iterator"), none, (.fields #[(.ref 203), (.int 29 0)]), #[]⟩
noncomputable def x204_42 (P : Params) : Obj := ⟨(.type "set"), none, (.set (ents [(917505, 508), (917536, 514), (917537, 515), (917538, 516), (917539, 517), (917540, 518), (917541, 519), (917542, 520), (917543, 521), (917544, 522), (917545, 523), (917546, 524), (917547, 525), (917548, 526), (917549, 527), (917550, 528), (917551, 529), (917552, 530), (917553, 531), (917554, 532), (917555, 533), (917556, 534), (917557, 535), (917558, 536), (917559, 537), (917560, 538), (917561, 539), (917562, 540), (917563, 541), (917564, 542), (917565, 543), (917566, 544), (917567, 545)]) 35 ⟨127, #[1, 32, 33, 34, 35, 36, 37, 38, 39, 40, 41, 42, 43, 44, 45, 46, 47, 48, 49, 50, 51, 52, 53, 54, 55, 56, 57, 58, 59, 60, 61, 62, 63], #[], 0, !P.followText "set-order", 2, true⟩), #[]⟩
noncomputable def x205_43 (P : Params) : Obj := ⟨(.type "list_iterator"), none, (.fields #[(.ref 203), (.int 33 0)]), #[]⟩
noncomputable def x204_44 (P : Params) : Obj := ⟨(.type "set"), none, (.set (ents [(917505, 508), (917536, 514), (917537, 515), (917538, 516), (917539, 517), (917540, 518), (917541, 519), (917542, 520), (917543, 521), (917544, 522), (917545, 523), (917546, 524), (917547, 525), (917548, 526), (917549, 527), (917550, 528), (917551, 529), (917552, 530), (917553, 531), (917554, 532), (917555, 533), (917556, 534), (917557, 535), (917558, 536), (917559, 537), (917560, 538), (917561, 539), (917562, 540), (917563, 541), (917564, 542), (917565, 543), (917566, 544), (917567, 545), (917568, 546), (917569, 547), (917570, 548), (917571, 549)]) 39 ⟨127, #[1, 32, 33, 34, 35, 36, 37, 38, 39, 40, 41, 42, 43, 44, 45, 46, 47, 48, 49, 50, 51, 52, 53, 54, 55, 56, 57, 58, 59, 60, 61, 62, 63, 64, 65, 66, 67], #[], 0, !P.followText "set-order", 2, true⟩), #[]⟩
noncomputable def x205_45 (P : Params) : Obj := ⟨(.type "list_iterator"), none, (.fields #[(.ref 203), (.int 37 0)]), #[]⟩
noncomputable def x204_46 (P : Params) : Obj := ⟨(.type "set"), none, (.set (ents [(917505, 508), (917536, 514), (917537, 515), (917538, 516), (917539, 517), (917540, 518), (917541, 519), (917542, 520), (917543, 521), (917544, 522), (917545, 523), (917546, 524), (917547, 525), (917548, 526), (917549, 527), (917550, 528), (917551, 529), (917552, 530), (917553, 531), (917554, 532), (917555, 533), (917556, 534), (917557, 535), (917558, 536), (917559, 537), (917560, 538), (917561, 539), (917562, 540), (917563, 541), (917564, 542), (917565, 543), (917566, 544), (917567, 545), (917568, 546), (917569, 547), (917570, 548), (917571, 549), (917572, 550), (917573, 551), (917574, 552), (917575, 553)]) 43 ⟨127, #[1, 32, 33, 34, 35, 36, 37, 38, 39, 40, 41, 42, 43, 44, 45, 46, 47, 48, 49, 50, 51, 52, 53, 54, 55, 56, 57, 58, 59, 60, 61, 62, 63, 64, 65, 66, 67, 68, 69, 70, 71], #[], 0, !P.followText "set-order", 2, true⟩), #[]⟩
noncomputable def x205_47 (P : Params) : Obj := ⟨(.type "list_iterator"), none, (.fields #[(.ref 203), (.int 41 0)]), #[]⟩
noncomputable def x204_48 (P : Params) : Obj := ⟨(.type "set"), none, (.set (ents [(917505, 508), (917536, 514), (917537, 515), (917538, 516), (917539, 517), (917540, 518), (917541, 519), (917542, 520), (917543, 521), (917544, 522), (917545, 523), (917546, 524), (917547, 525), (917548, 526), (917549, 527), (917550, 528), (917551, 529), (917552, 530), (917553, 531), (917554, 532), (917555, 533), (917556, 534), (917557, 535), (917558, 536), (917559, 537), (917560, 538), (917561, 539), (917562, 540), (917563, 541), (917564, 542), (917565, 543), (917566, 544), (917567, 545), (917568, 546), (917569, 547), (917570, 548), (917571, 549), (917572, 550), (917573, 551), (917574, 552), (917575, 553), (917576, 554), (917577, 555), (917578, 556), (917579, 557)]) 47 ⟨127, #[1, 32, 33, 34, 35, 36, 37, 38, 39, 40, 41, 42, 43, 44, 45, 46, 47, 48, 49, 50, 51, 52, 53, 54, 55, 56, 57, 58, 59, 60, 61, 62, 63, 64, 65, 66, 67, 68, 69, 70, 71, 72, 73, 74, 75], #[], 0, !P.followText "set-order", 2, true⟩), #[]⟩
noncomputable def x205_49 (P : Params) : Obj := ⟨(.type "list_iterator"), none, (.fields #[(.ref 203), (.int 45 0)]), #[]⟩
noncomputable def x204_50 (P : Params) : Obj := ⟨(.type "set"), none, (.set (ents [(917505, 508), (917536, 514), (917537, 515), (917538, 516), (917539, 517), (917540, 518), (917541, 519), (917542, 520), (917543, 521), (917544, 522), (917545, 523), (917546, 524), (917547, 525), (917548, 526), (917549, 527), (917550, 528), (917551, 529), (917552, 530), (917553, 531), (917554, 532), (917555, 533), (917556, 534), (917557, 535), (917558, 536), (917559, 537), (917560, 538), (917561, 539), (917562, 540), (917563, 541), (917564, 542), (917565, 543), (917566, 544), (917567, 545), (917568, 546), (917569, 547), (917570, 548), (917571, 549), (917572, 550), (917573, 551), (917574, 552), (917575, 553), (917576, 554), (917577, 555), (917578, 556), (917579, 557), (917580, 558), (917581, 559), (917582, 560), (917583, 561)]) 51 ⟨127, #[1, 32, 33, 34, 35, 36, 37, 38, 39, 40, 41, 42, 43, 44, 45, 46, 47, 48, 49, 50, 51, 52, 53, 54, 55, 56, 57, 58, 59, 60, 61, 62, 63, 64, 65, 66, 67, 68, 69, 70, 71, 72, 73, 74, 75, 76, 77, 78, 79], #[], 0, !P.followText "set-order", 2, true⟩), #[]⟩
noncomputable def x205_51 (P : Params) : Obj := ⟨(.type "list_iterator"), none, (.fields #[(.ref 203), (.int 49 0)]), #[]⟩
noncomputable def x204_52 (P : Params) : Obj := ⟨(.type "set"), none, (.set (ents [(917505, 508), (917536, 514), (917537, 515), (917538, 516), (917539, 517), (917540, 518), (917541, 519), (917542, 520), (917543, 521), (917544, 522), (917545, 523), (917546, 524), (917547, 525), (917548, 526), (917549, 527), (917550, 528), (917551, 529), (917552, 530), (917553, 531), (917554, 532), (917555, 533), (917556, 534), (917557, 535), (917558, 536), (917559, 537), (917560, 538), (917561, 539), (917562, 540), (917563, 541), (917564, 542), (917565, 543), (917566, 544), (917567, 545), (917568, 546), (917569, 547), (917570, 548), (917571, 549), (917572, 550), (917573, 551), (917574, 552), (917575, 553), (917576, 554), (917577, 555), (917578, 556), (917579, 557), (917580, 558), (917581, 559), (917582, 560), (917583, 561), (917584, 562), (917585, 563), (917586, 564), (917587, 565)]) 55 ⟨127, #[1, 32, 33, 34, 35, 36, 37, 38, 39, 40, 41, 42, 43, 44, 45, 46, 47, 48, 49, 50, 51, 52, 53, 54, 55, 56, 57, 58, 59, 60, 61, 62, 63, 64, 65, 66, 67, 68, 69, 70, 71, 72, 73, 74, 75, 76, 77, 78, 79, 80, 81, 82, 83], #[], 0, !P.followText "set-order", 2, true⟩), #[]⟩
noncomputable def x205_53 (P : Params) : Obj := ⟨(.type "list_iterator"), none, (.fields #[(.ref 203), (.int 53 0)]), #[]⟩
noncomputable def x204_54 (P : Params) : Obj := ⟨(.type "set"), none, (.set (ents [(917505, 508), (917536, 514), (917537, 515), (917538, 516), (917539, 517), (917540, 518), (917541, 519), (917542, 520), (917543, 521), (917544, 522), (917545, 523), (917546, 524), (917547, 525), (917548, 526), (917549, 527), (917550, 528), (917551, 529), (917552, 530), (917553, 531), (917554, 532), (917555, 533), (917556, 534), (917557, 535), (917558, 536), (917559, 537), (917560, 538), (917561, 539), (917562, 540), (917563, 541), (917564, 542), (917565, 543), (917566, 544), (917567, 545), (917568, 546), (917569, 547), (917570, 548), (917571, 549), (917572, 550), (917573, 551), (917574, 552), (917575, 553), (917576, 554), (917577, 555), (917578, 556), (917579, 557), (917580, 558), (917581, 559), (917582, 560), (917583, 561), (917584, 562), (917585, 563), (917586, 564), (917587, 565), (917588, 566), (917589, 567), (917590, 568), (917591, 569)]) 59 ⟨127, #[1, 32, 33, 34, 35, 36, 37, 38, 39, 40, 41, 42, 43, 44, 45, 46, 47, 48, 49, 50, 51, 52, 53, 54, 55, 56, 57, 58, 59, 60, 61, 62, 63, 64, 65, 66, 67, 68, 69, 70, 71, 72, 73, 74, 75, 76, 77, 78, 79, 80, 81, 82, 83, 84, 85, 86, 87], #[], 0, !P.followText "set-order", 2, true⟩), #[]⟩
noncomputable def x205_55 (P : Params) : Obj := ⟨(.type "list_iterator"), none, (.fields #[(.ref 203), (.int 57 0)]), #[]⟩
noncomputable def x204_56 (P : Params) : Obj := ⟨(.type "set"), none, (.set (ents [(917505, 508), (917536, 514), (917537, 515), (917538, 516), (917539, 517), (917540, 518), (917541, 519), (917542, 520), (917543, 521), (917544, 522), (917545, 523), (917546, 524), (917547, 525), (917548, 526), (917549, 527), (917550, 528), (917551, 529), (917552, 530), (917553, 531), (917554, 532), (917555, 533), (917556, 534), (917557, 535), (917558, 536), (917559, 537), (917560, 538), (917561, 539), (917562, 540), (917563, 541), (917564, 542), (917565, 543), (917566, 544), (917567, 545), (917568, 546), (917569, 547), (917570, 548), (917571, 549), (917572, 550), (917573, 551), (917574, 552), (917575, 553), (917576, 554), (917577, 555), (917578, 556), (917579, 557), (917580, 558), (917581, 559), (917582, 560), (917583, 561), (917584, 562), (917585, 563), (917586, 564), (917587, 565), (917588, 566), (917589, 567), (917590, 568), (917591, 569), (917592, 570), (917593, 571), (917594, 572), (917595, 573)]) 63 ⟨127, #[1, 32, 33, 34, 35, 36, 37, 38, 39, 40, 41, 42, 43, 44, 45, 46, 47, 48, 49, 50, 51, 52, 53, 54, 55, 56, 57, 58, 59, 60, 61, 62, 63, 64, 65, 66, 67, 68, 69, 70, 71, 72, 73, 74, 75, 76, 77, 78, 79, 80, 81, 82, 83, 84, 85, 86, 87, 88, 89, 90, 91], #[], 0, !P.followText "set-order", 2, true⟩), #[]⟩
noncomputable def x205_57 (P : Params) : Obj := ⟨(.type "list_iterator"), none, (.fields #[(.ref 203), (.int 61 0)]), #[]⟩
noncomputable def x204_58 (P : Params) : Obj := ⟨(.type "set"), none, (.set (ents [(917505, 508), (917536, 514), (917537, 515), (917538, 516), (917539, 517), (917540, 518), (917541, 519), (917542, 520), (917543, 521), (917544, 522), (917545, 523), (917546, 524), (917547, 525), (917548, 526), (917549, 527), (917550, 528), (917551, 529), (917552, 530), (917553, 531), (917554, 532), (917555, 533), (917556, 534), (917557, 535), (917558, 536), (917559, 537), (917560, 538), (917561, 539), (917562, 540), (917563, 541), (917564, 542), (917565, 543), (917566, 544), (917567, 545), (917568, 546), (917569, 547), (917570, 548), (917571, 549), (917572, 550), (917573, 551), (917574, 552), (917575, 553), (917576, 554), (917577, 555), (917578, 556), (917579, 557), (917580, 558), (917581, 559), (917582, 560), (917583, 561), (917584, 562), (917585, 563), (917586, 564), (917587, 565), (917588, 566), (917589, 567), (917590, 568), (917591, 569), (917592, 570), (917593, 571), (917594, 572), (917595, 573), (917596, 574), (917597, 575), (917598, 576), (917599, 577)]) 67 ⟨127, #[1, 32, 33, 34, 35, 36, 37, 38, 39, 40, 41, 42, 43, 44, 45, 46, 47, 48, 49, 50, 51, 52, 53, 54, 55, 56, 57, 58, 59, 60, 61, 62, 63, 64, 65, 66, 67, 68, 69, 70, 71, 72, 73, 74, 75, 76, 77, 78, 79, 80, 81, 82, 83, 84, 85, 86, 87, 88, 89, 90, 91, 92, 93, 94, 95], #[], 0, !P.followText "set-order", 2, true⟩), #[]⟩
noncomputable def x205_59 (P : Params) : Obj := ⟨(.type "list_iterator"), none, (.fields #[(.ref 203), (.int 65 0)]), #[]⟩
noncomputable def x204_60 (P : Params) : Obj := ⟨(.type "set"), none, (.set (ents [(917505, 508), (917536, 514), (917537, 515), (917538, 516), (917539, 517), (917540, 518), (917541, 519), (917542, 520), (917543, 521), (917544, 522), (917545, 523), (917546, 524), (917547, 525), (917548, 526), (917549, 527), (917550, 528), (917551, 529), (917552, 530), (917553, 531), (917554, 532), (917555, 533), (917556, 534), (917557, 535), (917558, 536), (917559, 537), (917560, 538), (917561, 539), (917562, 540), (917563, 541), (917564, 542), (917565, 543), (917566, 544), (917567, 545), (917568, 546), (917569, 547), (917570, 548), (917571, 549), (917572, 550), (917573, 551), (917574, 552), (917575, 553), (917576, 554), (917577, 555), (917578, 556), (917579, 557), (917580, 558), (917581, 559), (917582, 560), (917583, 561), (917584, 562), (917585, 563), (917586, 564), (917587, 565), (917588, 566), (917589, 567), (917590, 568), (917591, 569), (917592, 570), (917593, 571), (917594, 572), (917595, 573), (917596, 574), (917597, 575), (917598, 576), (917599, 577), (917600, 578), (917601, 579), (917602, 580), (917603, 581)]) 71 ⟨127, #[1, 32, 33, 34, 35, 36, 37, 38, 39, 40, 41, 42, 43, 44, 45, 46, 47, 48, 49, 50, 51, 52, 53, 54, 55, 56, 57, 58, 59, 60, 61, 62, 63, 64, 65, 66, 67, 68, 69, 70, 71, 72, 73, 74, 75, 76, 77, 78, 79, 80, 81, 82, 83, 84, 85, 86, 87, 88, 89, 90, 91, 92, 93, 94, 95, 96, 97, 98, 99], #[], 0, !P.followText "set-order", 2, true⟩), #[]⟩
noncomputable def x205_61 (P : Params) : Obj := ⟨(.type "list_iterator"), none, (.fields #[(.ref 203), (.int 69 0)]), #[]⟩
noncomputable def x204_62 (P : Params) : Obj := ⟨(.type "set"), none, (.set (ents [(917505, 508), (917536, 514), (917537, 515), (917538, 516), (917539, 517), (917540, 518), (917541, 519), (917542, 520), (917543, 521), (917544, 522), (917545, 523), (917546, 524), (917547, 525), (917548, 526), (917549, 527), (917550, 528), (917551, 529), (917552, 530), (917553, 531), (917554, 532), (917555, 533), (917556, 534), (917557, 535), (917558, 536), (917559, 537), (917560, 538), (917561, 539), (917562, 540), (917563, 541), (917564, 542), (917565, 543), (917566, 544), (917567, 545), (917568, 546), (917569, 547), (917570, 548), (917571, 549), (917572, 550), (917573, 551), (917574, 552), (917575, 553), (917576, 554), (917577, 555), (917578, 556), (917579, 557), (917580, 558), (917581, 559), (917582, 560), (917583, 561), (917584, 562), (917585, 563), (917586, 564), (917587, 565), (917588, 566), (917589, 567), (917590, 568), (917591, 569), (917592, 570), (917593, 571), (917594, 572), (917595, 573), (917596, 574), (917597, 575), (917598, 576), (917599, 577), (917600, 578), (917601, 579), (917602, 580), (917603, 581), (917604, 582), (917605, 583), (917606, 584), (917607, 585)]) 75 ⟨127, #[1, 32, 33, 34, 35, 36, 37, 38, 39, 40, 41, 42, 43, 44, 45, 46, 47, 48, 49, 50, 51, 52, 53, 54, 55, 56, 57, 58, 59, 60, 61, 62, 63, 64, 65, 66, 67, 68, 69, 70, 71, 72, 73, 74, 75, 76, 77, 78, 79, 80, 81, 82, 83, 84, 85, 86, 87, 88, 89, 90, 91, 92, 93, 94, 95, 96, 97, 98, 99, 100, 101, 102, 103], #[], 0, !P.followText "set-order", 2, true⟩), #[]⟩
noncomputable def x205_63 (P : Params) : Obj := ⟨(.type "list_iterator"), none, (.fields #[(.ref 203), (.int 73 0)]), #[]⟩
noncomputable def x204_64 (P : Params) : Obj := ⟨(.type "set"), none, (.set (ents [(917505, 508), (917536, 514), (917537, 515), (917538, 516), (917539, 517), (917540, 518), (917541, 519), (917542, 520), (917543, 521), (917544, 522), (917545, 523), (917546, 524), (917547, 525), (917548, 526), (917549, 527), (917550, 528), (917551, 529), (917552, 530), (917553, 531), (917554, 532), (917555, 533), (917556, 534), (917557, 535), (917558, 536), (917559, 537), (917560, 538), (917561, 539), (917562, 540), (917563, 541), (917564, 542), (917565, 543), (917566, 544), (917567, 545), (917568, 546), (917569, 547), (917570, 548), (917571, 549), (917572, 550), (917573, 551), (917574, 552), (917575, 553), (917576, 554), (917577, 555), (917578, 556), (917579, 557), (917580, 558), (917581, 559), (917582, 560), (917583, 561), (917584, 562), (917585, 563), (917586, 564), (917587, 565), (917588, 566), (917589, 567), (917590, 568), (917591, 569), (917592, 570), (917593, 571), (917594, 572), (917595, 573), (917596, 574), (917597, 575), (917598, 576), (917599, 577), (917600, 578), (917601, 579), (917602, 580), (917603, 581), (917604, 582), (917605, 583), (917606, 584), (917607, 585), (917608, 586), (917609, 587), (917610, 588), (917611, 589)]) 80 ⟨511, #[1, 32, 33, 34, 35, 36, 37, 38, 39, 40, 41, 42, 43, 44, 45, 46, 47, 48, 49, 50, 51, 52, 53, 54, 55, 56, 57, 58, 59, 60, 61, 62, 63, 64, 65, 66, 67, 68, 69, 70, 71, 72, 73, 74, 75, 76, 77, 78, 79, 80, 81, 82, 83, 84, 85, 86, 87, 88, 89, 90, 91, 92, 93, 94, 95, 96, 97, 98, 99, 100, 101, 102, 103, 104, 105, 106, 107], #[], 0, !P.followText "set-order", 3, true⟩), #[]⟩
noncomputable def x205_65 (P : Params) : Obj := ⟨(.type "list_iterator"), none, (.fields #[(.ref 203), (.int 77 0)]), #[]⟩
noncomputable def x204_66 (P : Params) : Obj := ⟨(.type "set"), none, (.set (ents [(917505, 508), (917536, 514), (917537, 515), (917538, 516), (917539, 517), (917540, 518), (917541, 519), (917542, 520), (917543, 521), (917544, 522), (917545, 523), (917546, 524), (917547, 525), (917548, 526), (917549, 527), (917550, 528), (917551, 529), (917552, 530), (917553, 531), (917554, 532), (917555, 533), (917556, 534), (917557, 535), (917558, 536), (917559, 537), (917560, 538), (917561, 539), (917562, 540), (917563, 541), (917564, 542), (917565, 543), (917566, 544), (917567, 545), (917568, 546), (917569, 547), (917570, 548), (917571, 549), (917572, 550), (917573, 551), (917574, 552), (917575, 553), (917576, 554), (917577, 555), (917578, 556), (917579, 557), (917580, 558), (917581, 559), (917582, 560), (917583, 561), (917584, 562), (917585, 563), (917586, 564), (917587, 565), (917588, 566), (917589, 567), (917590, 568), (917591, 569), (917592, 570), (917593, 571), (917594, 572), (917595, 573), (917596, 574), (917597, 575), (917598, 576), (917599, 577), (917600, 578), (917601, 579), (917602, 580), (917603, 581), (917604, 582), (917605, 583), (917606, 584), (917607, 585), (917608, 586), (917609, 587), (917610, 588), (917611, 589), (917612, 590), (917613, 591), (917614, 592), (917615, 593)]) 84 ⟨511, #[1, 32, 33, 34, 35, 36, 37, 38, 39, 40, 41, 42, 43, 44, 45, 46, 47, 48, 49, 50, 51, 52, 53, 54, 55, 56, 57, 58, 59, 60, 61, 62, 63, 64, 65, 66, 67, 68, 69, 70, 71, 72, 73, 74, 75, 76, 77, 78, 79, 80, 81, 82, 83, 84, 85, 86, 87, 88, 89, 90, 91, 92, 93, 94, 95, 96, 97, 98, 99, 100, 101, 102, 103, 104, 105, 106, 107, 108, 109, 110, 111], #[], 0, !P.followText "set-order", 3, true⟩), #[]⟩
noncomputable def x205_67 (P : Params) : Obj := ⟨(.type "list_iterator"), none, (.fields #[(.ref 203), (.int 81 0)]), #[]⟩
noncomputable def x204_68 (P : Params) : Obj := ⟨(.type "set"), none, (.set (ents [(917505, 508), (917536, 514), (917537, 515), (917538, 516), (917539, 517), (917540, 518), (917541, 519), (917542, 520), (917543, 521), (917544, 522), (917545, 523), (917546, 524), (917547, 525), (917548, 526), (917549, 527), (917550, 528), (917551, 529), (917552, 530), (917553, 531), (917554, 532), (917555, 533), (917556, 534), (917557, 535), (917558, 536), (917559, 537), (917560, 538), (917561, 539), (917562, 540), (917563, 541), (917564, 542), (917565, 543), (917566, 544), (917567, 545), (917568, 546), (917569, 547), (917570, 548), (917571, 549), (917572, 550), (917573, 551), (917574, 552), (917575, 553), (917576, 554), (917577, 555), (917578, 556), (917579, 557), (917580, 558), (917581, 559), (917582, 560), (917583, 561), (917584, 562), (917585, 563), (917586, 564), (917587, 565), (917588, 566), (917589, 567), (917590, 568), (917591, 569), (917592, 570), (917593, 571), (917594, 572), (917595, 573), (917596, 574), (917597, 575), (917598, 576), (917599, 577), (917600, 578), (917601, 579), (917602, 580), (917603, 581), (917604, 582), (917605, 583), (917606, 584), (917607, 585), (917608, 586), (917609, 587), (917610, 588), (917611, 589), (917612, 590), (917613, 591), (917614, 592), (917615, 593), (917616, 594), (917617, 595), (917618, 596), (917619, 597)]) 88 ⟨511, #[1, 32, 33, 34, 35, 36, 37, 38, 39, 40, 41, 42, 43, 44, 45, 46, 47, 48, 49, 50, 51, 52, 53, 54, 55, 56, 57, 58, 59, 60, 61, 62, 63, 64, 65, 66, 67, 68, 69, 70, 71, 72, 73, 74, 75, 76, 77, 78, 79, 80, 81, 82, 83, 84, 85, 86, 87, 88, 89, 90, 91, 92, 93, 94, 95, 96, 97, 98, 99, 100, 101, 102, 103, 104, 105, 106, 107, 108, 109, 110, 111, 112, 113, 114, 115], #[], 0, !P.followText "set-order", 3, true⟩), #[]⟩
noncomputable def x205_69 (P : Params) : Obj := ⟨(.type "list_iterator"), none, (.fields #[(.ref 203), (.int 85 0)]), #[]⟩
noncomputable def x204_70 (P : Params) : Obj := ⟨(.type "set"), none, (.set (ents [(917505, 508), (917536, 514), (917537, 515), (917538, 516), (917539, 517), (917540, 518), (917541, 519), (917542, 520), (917543, 521), (917544, 522), (917545, 523), (917546, 524), (917547, 525), (917548, 526), (917549, 527), (917550, 528), (917551, 529), (917552, 530), (917553, 531), (917554, 532), (917555, 533), (917556, 534), (917557, 535), (917558, 536), (917559, 537), (917560, 538), (917561, 539), (917562, 540), (917563, 541), (917564, 542), (917565, 543), (917566, 544), (917567, 545), (917568, 546), (917569, 547), (917570, 548), (917571, 549), (917572, 550), (917573, 551), (917574, 552), (917575, 553), (917576, 554), (917577, 555), (917578, 556), (917579, 557), (917580, 558), (917581, 559), (917582, 560), (917583, 561), (917584, 562), (917585, 563), (917586, 564), (917587, 565), (917588, 566), (917589, 567), (917590, 568), (917591, 569), (917592, 570), (917593, 571), (917594, 572), (917595, 573), (917596, 574), (917597, 575), (917598, 576), (917599, 577), (917600, 578), (917601, 579), (917602, 580), (917603, 581), (917604, 582), (917605, 583), (917606, 584), (917607, 585), (917608, 586), (917609, 587), (917610, 588), (917611, 589), (917612, 590), (917613, 591), (917614, 592), (917615, 593), (917616, 594), (917617, 595), (917618, 596), (917619, 597), (917620, 598), (917621, 599), (917622, 600), (917623, 601)]) 92 ⟨511, #[1, 32, 33, 34, 35, 36, 37, 38, 39, 40, 41, 42, 43, 44, 45, 46, 47, 48, 49, 50, 51, 52, 53, 54, 55, 56, 57, 58, 59, 60, 61, 62, 63, 64, 65, 66, 67, 68, 69, 70, 71, 72, 73, 74, 75, 76, 77, 78, 79, 80, 81, 82, 83, 84, 85, 86, 87, 88, 89, 90, 91, 92, 93, 94, 95, 96, 97, 98, 99, 100, 101, 102, 103, 104, 105, 106, 107, 108, 109, 110, 111, 112, 113, 114, 115, 116, 117, 118, 119], #[], 0, !P.followText "set-order", 3, true⟩), #[]⟩
noncomputable def x205_71 (P : Params) : Obj := ⟨(.type "list_iterator"), none, (.fields #[(.ref 203), (.int 89 0)]), #[]⟩
noncomputable def x204_72 (P : Params) : Obj := ⟨(.type "set"), none, (.set (ents [(917505, 508), (917536, 514), (917537, 515), (917538, 516), (917539, 517), (917540, 518), (917541, 519), (917542, 520), (917543, 521), (917544, 522), (917545, 523), (917546, 524), (917547, 525), (917548, 526), (917549, 527), (917550, 528), (917551, 529), (917552, 530), (917553, 531), (917554, 532), (917555, 533), (917556, 534), (917557, 535), (917558, 536), (917559, 537), (917560, 538), (917561, 539), (917562, 540), (917563, 541), (917564, 542), (917565, 543), (917566, 544), (917567, 545), (917568, 546), (917569, 547), (917570, 548), (917571, 549), (917572, 550), (917573, 551), (917574, 552), (917575, 553), (917576, 554), (917577, 555), (917578, 556), (917579, 557), (917580, 558), (917581, 559), (917582, 560), (917583, 561), (917584, 562), (917585, 563), (917586, 564), (917587, 565), (917588, 566), (917589, 567), (917590, 568), (917591, 569), (917592, 570), (917593, 571), (917594, 572), (917595, 573), (917596, 574), (917597, 575), (917598, 576), (917599, 577), (917600, 578), (917601, 579), (917602, 580), (917603, 581), (917604, 582), (917605, 583), (917606, 584), (917607, 585), (917608, 586), (917609, 587), (917610, 588), (917611, 589), (917612, 590), (917613, 591), (917614, 592), (917615, 593), (917616, 594), (917617, 595), (917618, 596), (917619, 597), (917620, 598), (917621, 599), (917622, 600), (917623, 601), (917624, 602), (917625, 603), (917626, 604), (917627, 605)]) 96 ⟨511, #[1, 32, 33, 34, 35, 36, 37, 38, 39, 40, 41, 42, 43, 44, 45, 46, 47, 48, 49, 50, 51, 52, 53, 54, 55, 56, 57, 58, 59, 60, 61, 62, 63, 64, 65, 66, 67, 68, 69, 70, 71, 72, 73, 74, 75, 76, 77, 78, 79, 80, 81, 82, 83, 84, 85, 86, 87, 88, 89, 90, 91, 92, 93, 94, 95, 96, 97, 98, 99, 100, 101, 102, 103, 104, 105, 106, 107, 108, 109, 110, 111, 112, 113, 114, 115, 116, 117, 118, 119, 120, 121, 122, 123], #[], 0, !P.followText "set-order", 3, true⟩), #[]⟩
noncomputable def x205_73 (P : Params) : Obj := ⟨(.type "list_iterator"), none, (.fields #[(.ref 203), (.int 93 0)]), #[]⟩
noncomputable def x205_74 (P : Params) : Obj := ⟨(.type "list_iterator"), none, (.fields #[(.ref 203), (.int 97 0)]), #[]⟩
/-- the heap's tree at the end -/
noncomputable def finT (P : Params) : BT := (.node (boot_o_0 P) (.node (boot_o_1 P) (.node (o3 P) (.node (boot_o_7 P) (.node (o15 P) (.node (o31 P) (.node (o63 P) (.node (o127 P) (.node (o255 P) .nil .nil) .nil) (.node (o191 P) (.node (o319 P) .nil .nil) .nil)) (.node (o95 P) (.node (o159 P) (.node (o287 P) .nil .nil) .nil) (.node (o223 P) .nil .nil))) (.node (o47 P) (.node (o79 P) (.node (o143 P) (.node (o271 P) .nil .nil) .nil) (.node (o207 P) .nil .nil)) (.node (o111 P) (.node (o175 P) (.node (o303 P) .nil .nil) .nil) (.node (o239 P) .nil .nil)))) (.node (o23 P) (.node (o39 P) (.node (o71 P) (.node (o135 P) (.node (o263 P) .nil .nil) .nil) (.node (o199 P) .nil .nil)) (.node (o103 P) (.node (o167 P) (.node (o295 P) .nil .nil) .nil) (.node (o231 P) .nil .nil))) (.node (o55 P) (.node (o87 P) (.node (o151 P) (.node (o279 P) .nil .nil) .nil) (.node (o215 P) .nil .nil)) (.node (o119 P) (.node (o183 P) (.node (o311 P) .nil .nil) .nil) (.node (o247 P) .nil .nil))))) (.node (o11 P) (.node (o19 P) (.node (o35 P) (.node (o67 P) (.node (o131 P) (.node (o259 P) .nil .nil) .nil) (.node (o195 P) (.node (o323 P) .nil .nil) .nil)) (.node (o99 P) (.node (o163 P) (.node (o291 P) .nil .nil) .nil) (.node (o227 P) .nil .nil))) (.node (o51 P) (.node (o83 P) (.node (o147 P) (.node (o275 P) .nil .nil) .nil) (.node (o211 P) .nil .nil)) (.node (o115 P) (.node (o179 P) (.node (o307 P) .nil .nil) .nil) (.node (o243 P) .nil .nil)))) (.node (o27 P) (.node (o43 P) (.node (o75 P) (.node (o139 P) (.node (o267 P) .nil .nil) .nil) (.node (o203 P) .nil .nil)) (.node (o107 P) (.node (o171 P) (.node (o299 P) .nil .nil) .nil) (.node (o235 P) .nil .nil))) (.node (o59 P) (.node (o91 P) (.node (o155 P) (.node (o283 P) .nil .nil) .nil) (.node (o219 P) .nil .nil)) (.node (o123 P) (.node (o187 P) (.node (o315 P) .nil .nil) .nil) (.node (o251 P) .nil .nil)))))) (.node (boot_o_5 P) (.node (boot_o_9 P) (.node (o17 P) (.node (o33 P) (.node (o65 P) (.node (o129 P) (.node (o257 P) .nil .nil) .nil) (.node (o193 P) (.node (o321 P) .nil .nil) .nil)) (.node (o97 P) (.node (o161 P) (.node (o289 P) .nil .nil) .nil) (.node (o225 P) .nil .nil))) (.node (o49 P) (.node (o81 P) (.node (o145 P) (.node (o273 P) .nil .nil) .nil) (.node (o209 P) .nil .nil)) (.node (o113 P) (.node (o177 P) (.node (o305 P) .nil .nil) .nil) (.node (o241 P) .nil .nil)))) (.node (o25 P) (.node (o41 P) (.node (o73 P) (.node (o137 P) (.node (o265 P) .nil .nil) .nil) (.node (o201 P) .nil .nil)) (.node (o105 P) (.node (o169 P) (.node (o297 P) .nil .nil) .nil) (.node (o233 P) .nil .nil))) (.node (o57 P) (.node (o89 P) (.node (o153 P) (.node (o281 P) .nil .nil) .nil) (.node (o217 P) .nil .nil)) (.node (o121 P) (.node (o185 P) (.node (o313 P) .nil .nil) .nil) (.node (o249 P) .nil .nil))))) (.node (o13 P) (.node (o21 P) (.node (o37 P) (.node (o69 P) (.node (o133 P) (.node (o261 P) .nil .nil) .nil) (.node (o197 P) .nil .nil)) (.node (o101 P) (.node (o165 P) (.node (o293 P) .nil .nil) .nil) (.node (o229 P) .nil .nil))) (.node (o53 P) (.node (o85 P) (.node (o149 P) (.node (o277 P) .nil .nil) .nil) (.node (o213 P) .nil .nil)) (.node (o117 P) (.node (o181 P) (.node (o309 P) .nil .nil) .nil) (.node (o245 P) .nil .nil)))) (.node (o29 P) (.node (o45 P) (.node (o77 P) (.node (o141 P) (.node (o269 P) .nil .nil) .nil) (.node (o205 P) .nil .nil)) (.node (o109 P) (.node (o173 P) (.node (o301 P) .nil .nil) .nil) (.node (o237 P) .nil .nil))) (.node (o61 P) (.node (o93 P) (.node (o157 P) (.node (o285 P) .nil .nil) .nil) (.node (o221 P) .nil .nil)) (.node (o125 P) (.node (o189 P) (.node (o317 P) .nil .nil) .nil) (.node (o253 P) .nil .nil))))))) (.node (o2 P) (.node (boot_o_4 P) (.node (boot_o_8 P) (.node (o16 P) (.node (o32 P) (.node (o64 P) (.node (o128 P) (.node (o256 P) .nil .nil) .nil) (.node (o192 P) (.node (o320 P) .nil .nil) .nil)) (.node (o96 P) (.node (o160 P) (.node (o288 P) .nil .nil) .nil) (.node (o224 P) .nil .nil))) (.node (o48 P) (.node (o80 P) (.node (o144 P) (.node (o272 P) .nil .nil) .nil) (.node (o208 P) .nil .nil)) (.node (o112 P) (.node (o176 P) (.node (o304 P) .nil .nil) .nil) (.node (o240 P) .nil .nil)))) (.node (o24 P) (.node (o40 P) (.node (o72 P) (.node (o136 P) (.node (o264 P) .nil .nil) .nil) (.node (o200 P) .nil .nil)) (.node (o104 P) (.node (o168 P) (.node (o296 P) .nil .nil) .nil) (.node (o232 P) .nil .nil))) (.node (o56 P) (.node (o88 P) (.node (o152 P) (.node (o280 P) .nil .nil) .nil) (.node (o216 P) .nil .nil)) (.node (o120 P) (.node (o184 P) (.node (o312 P) .nil .nil) .nil) (.node (o248 P) .nil .nil))))) (.node (o12 P) (.node (o20 P) (.node (o36 P) (.node (o68 P) (.node (o132 P) (.node (o260 P) .nil .nil) .nil) (.node (o196 P) .nil .nil)) (.node (o100 P) (.node (o164 P) (.node (o292 P) .nil .nil) .nil) (.node (o228 P) .nil .nil))) (.node (o52 P) (.node (o84 P) (.node (o148 P) (.node (o276 P) .nil .nil) .nil) (.node (o212 P) .nil .nil)) (.node (o116 P) (.node (o180 P) (.node (o308 P) .nil .nil) .nil) (.node (o244 P) .nil .nil)))) (.node (o28 P) (.node (o44 P) (.node (o76 P) (.node (o140 P) (.node (o268 P) .nil .nil) .nil) (.node (o204 P) .nil .nil)) (.node (o108 P) (.node (o172 P) (.node (o300 P) .nil .nil) .nil) (.node (o236 P) .nil .nil))) (.node (o60 P) (.node (o92 P) (.node (o156 P) (.node (o284 P) .nil .nil) .nil) (.node (o220 P) .nil .nil)) (.node (o124 P) (.node (o188 P) (.node (o316 P) .nil .nil) .nil) (.node (o252 P) .nil .nil)))))) (.node (boot_o_6 P) (.node (boot_o_10 P) (.node (o18 P) (.node (o34 P) (.node (o66 P) (.node (o130 P) (.node (o258 P) .nil .nil) .nil) (.node (o194 P) (.node (o322 P) .nil .nil) .nil)) (.node (o98 P) (.node (o162 P) (.node (o290 P) .nil .nil) .nil) (.node (o226 P) .nil .nil))) (.node (o50 P) (.node (o82 P) (.node (o146 P) (.node (o274 P) .nil .nil) .nil) (.node (o210 P) .nil .nil)) (.node (o114 P) (.node (o178 P) (.node (o306 P) .nil .nil) .nil) (.node (o242 P) .nil .nil)))) (.node (o26 P) (.node (o42 P) (.node (o74 P) (.node (o138 P) (.node (o266 P) .nil .nil) .nil) (.node (o202 P) .nil .nil)) (.node (o106 P) (.node (o170 P) (.node (o298 P) .nil .nil) .nil) (.node (o234 P) .nil .nil))) (.node (o58 P) (.node (o90 P) (.node (o154 P) (.node (o282 P) .nil .nil) .nil) (.node (o218 P) .nil .nil)) (.node (o122 P) (.node (o186 P) (.node (o314 P) .nil .nil) .nil) (.node (o250 P) .nil .nil))))) (.node (o14 P) (.node (o22 P) (.node (o38 P) (.node (o70 P) (.node (o134 P) (.node (o262 P) .nil .nil) .nil) (.node (o198 P) .nil .nil)) (.node (o102 P) (.node (o166 P) (.node (o294 P) .nil .nil) .nil) (.node (o230 P) .nil .nil))) (.node (o54 P) (.node (o86 P) (.node (o150 P) (.node (o278 P) .nil .nil) .nil) (.node (o214 P) .nil .nil)) (.node (o118 P) (.node (o182 P) (.node (o310 P) .nil .nil) .nil) (.node (o246 P) .nil .nil)))) (.node (o30 P) (.node (o46 P) (.node (o78 P) (.node (o142 P) (.node (o270 P) .nil .nil) .nil) (.node (o206 P) .nil .nil)) (.node (o110 P) (.node (o174 P) (.node (o302 P) .nil .nil) .nil) (.node (o238 P) .nil .nil))) (.node (o62 P) (.node (o94 P) (.node (o158 P) (.node (o286 P) .nil .nil) .nil) (.node (o222 P) .nil .nil)) (.node (o126 P) (.node (o190 P) (.node (o318 P) .nil .nil) .nil) (.node (o254 P) .nil .nil))))))))
noncomputable def trunc (n : Nat) : BT → Nat → Nat → BT
  | .nil, _, _ => .nil
  | .node v l r, a, b => match Nat.blt b n with
    | true => .node v (trunc n l (2 * a) (a + b)) (trunc n r (2 * a) (2 * a + b))
    | false => .nil
noncomputable def env0 : Env := { scope := pw.main.scope, locals := mainNs, globals := mainNs, cells := [], code := .ref 13, frame := some 14 }
noncomputable def cE : Code := .body (behindTheImports pw) env0
noncomputable def sT (T : BT) (n toks : Nat) (os : OsState) : SharedT := ⟨T, n, {}, #[], {}, toks, os⟩
noncomputable abbrev topF : List Frame := [topFrame ⟨0, 0, 0, 0⟩]
noncomputable def T_block (P : Params) : BT := ((((trunc 15 (finT P) 1 0).set 2 fun _ => boot_o_2 P).set 3 fun _ => boot_o_3 P).set 12 fun _ => x12_0 P)
noncomputable def T_p11 (P : Params) : BT := ((((trunc 85 (finT P) 1 0).set 2 fun _ => boot_o_2 P).set 3 fun _ => x3_1 P).set 12 fun _ => x12_2 P)
noncomputable def T_p13 (P : Params) : BT := (((trunc 110 (finT P) 1 0).set 3 fun _ => x3_3 P).set 12 fun _ => x12_4 P)
noncomputable def T_p15 (P : Params) : BT := (((trunc 117 (finT P) 1 0).set 3 fun _ => x3_5 P).set 12 fun _ => x12_6 P)
noncomputable def T_p16 (P : Params) : BT := (((trunc 128 (finT P) 1 0).set 3 fun _ => x3_7 P).set 12 fun _ => x12_6 P)
noncomputable def T_p19 (P : Params) : BT := (((trunc 149 (finT P) 1 0).set 3 fun _ => x3_8 P).set 12 fun _ => x12_9 P)
noncomputable def T_p20 (P : Params) : BT := (((trunc 154 (finT P) 1 0).set 3 fun _ => x3_10 P).set 12 fun _ => x12_9 P)
noncomputable def T_p21 (P : Params) : BT := (((trunc 161 (finT P) 1 0).set 3 fun _ => x3_11 P).set 12 fun _ => x12_12 P)
noncomputable def T_p22 (P : Params) : BT := (((trunc 166 (finT P) 1 0).set 3 fun _ => x3_13 P).set 12 fun _ => x12_12 P)
noncomputable def T_p23 (P : Params) : BT := (((trunc 173 (finT P) 1 0).set 3 fun _ => x3_14 P).set 12 fun _ => x12_15 P)
noncomputable def T_p24 (P : Params) : BT := (((trunc 190 (finT P) 1 0).set 3 fun _ => x3_16 P).set 12 fun _ => x12_15 P)
noncomputable def T_p25 (P : Params) : BT := (((trunc 197 (finT P) 1 0).set 3 fun _ => x3_17 P).set 12 fun _ => x12_18 P)
noncomputable def T_p26 (P : Params) : BT := (((trunc 208 (finT P) 1 0).set 3 fun _ => x3_19 P).set 12 fun _ => x12_18 P)
noncomputable def T_c26_1719 (P : Params) : BT := (((trunc 201 (finT P) 1 0).set 3 fun _ => x3_17 P).set 12 fun _ => x12_18 P)
noncomputable def T_c26_87 (P : Params) : BT := (((((trunc 201 (finT P) 1 0).set 3 fun _ => x3_17 P).set 12 fun _ => x12_18 P).set 199 fun _ => x199_20 P).set 200 fun _ => x200_21 P)
noncomputable def T_c26_495 (P : Params) : BT := (((((trunc 201 (finT P) 1 0).set 3 fun _ => x3_17 P).set 12 fun _ => x12_18 P).set 199 fun _ => x199_22 P).set 200 fun _ => x200_23 P)
noncomputable def T_c26_903 (P : Params) : BT := (((((trunc 201 (finT P) 1 0).set 3 fun _ => x3_17 P).set 12 fun _ => x12_18 P).set 199 fun _ => x199_24 P).set 200 fun _ => x200_25 P)
noncomputable def T_c26_1311 (P : Params) : BT := (((((trunc 201 (finT P) 1 0).set 3 fun _ => x3_17 P).set 12 fun _ => x12_18 P).set 199 fun _ => x199_26 P).set 200 fun _ => x200_27 P)
noncomputable def T_c26_1880 (P : Params) : BT := (((((trunc 206 (finT P) 1 0).set 3 fun _ => x3_17 P).set 12 fun _ => x12_18 P).set 204 fun _ => x204_28 P).set 205 fun _ => x205_29 P)
noncomputable def T_c26_2202 (P : Params) : BT := (((((trunc 206 (finT P) 1 0).set 3 fun _ => x3_17 P).set 12 fun _ => x12_18 P).set 204 fun _ => x204_36 P).set 205 fun _ => x205_37 P)
noncomputable def T_c26_2282 (P : Params) : BT := (((((trunc 206 (finT P) 1 0).set 3 fun _ => x3_17 P).set 12 fun _ => x12_18 P).set 204 fun _ => x204_38 P).set 205 fun _ => x205_39 P)
noncomputable def T_c26_2362 (P : Params) : BT := (((((trunc 206 (finT P) 1 0).set 3 fun _ => x3_17 P).set 12 fun _ => x12_18 P).set 204 fun _ => x204_40 P).set 205 fun _ => x205_41 P)
noncomputable def T_c26_2442 (P : Params) : BT := (((((trunc 206 (finT P) 1 0).set 3 fun _ => x3_17 P).set 12 fun _ => x12_18 P).set 204 fun _ => x204_42 P).set 205 fun _ => x205_43 P)
noncomputable def T_c26_2522 (P : Params) : BT := (((((trunc 206 (finT P) 1 0).set 3 fun _ => x3_17 P).set 12 fun _ => x12_18 P).set 204 fun _ => x204_44 P).set 205 fun _ => x205_45 P)
noncomputable def T_c26_2602 (P : Params) : BT := (((((trunc 206 (finT P) 1 0).set 3 fun _ => x3_17 P).set 12 fun _ => x12_18 P).set 204 fun _ => x204_46 P).set 205 fun _ => x205_47 P)
noncomputable def T_c26_2682 (P : Params) : BT := (((((trunc 206 (finT P) 1 0).set 3 fun _ => x3_17 P).set 12 fun _ => x12_18 P).set 204 fun _ => x204_48 P).set 205 fun _ => x205_49 P)
noncomputable def T_c26_2762 (P : Params) : BT := (((((trunc 206 (finT P) 1 0).set 3 fun _ => x3_17 P).set 12 fun _ => x12_18 P).set 204 fun _ => x204_50 P).set 205 fun _ => x205_51 P)
noncomputable def T_c26_2842 (P : Params) : BT := (((((trunc 206 (finT P) 1 0).set 3 fun _ => x3_17 P).set 12 fun _ => x12_18 P).set 204 fun _ => x204_52 P).set 205 fun _ => x205_53 P)
noncomputable def T_c26_2922 (P : Params) : BT := (((((trunc 206 (finT P) 1 0).set 3 fun _ => x3_17 P).set 12 fun _ => x12_18 P).set 204 fun _ => x204_54 P).set 205 fun _ => x205_55 P)
noncomputable def T_c26_3002 (P : Params) : BT := (((((trunc 206 (finT P) 1 0).set 3 fun _ => x3_17 P).set 12 fun _ => x12_18 P).set 204 fun _ => x204_56 P).set 205 fun _ => x205_57 P)
noncomputable def T_c26_3082 (P : Params) : BT := (((((trunc 206 (finT P) 1 0).set 3 fun _ => x3_17 P).set 12 fun _ => x12_18 P).set 204 fun _ => x204_58 P).set 205 fun _ => x205_59 P)
noncomputable def T_c26_3162 (P : Params) : BT := (((((trunc 206 (finT P) 1 0).set 3 fun _ => x3_17 P).set 12 fun _ => x12_18 P).set 204 fun _ => x204_60 P).set 205 fun _ => x205_61 P)
noncomputable def T_c26_3242 (P : Params) : BT := (((((trunc 206 (finT P) 1 0).set 3 fun _ => x3_17 P).set 12 fun _ => x12_18 P).set 204 fun _ => x204_62 P).set 205 fun _ => x205_63 P)
noncomputable def T_c26_3324 (P : Params) : BT := (((((trunc 206 (finT P) 1 0).set 3 fun _ => x3_17 P).set 12 fun _ => x12_18 P).set 204 fun _ => x204_64 P).set 205 fun _ => x205_65 P)
noncomputable def T_c26_3404 (P : Params) : BT := (((((trunc 206 (finT P) 1 0).set 3 fun _ => x3_17 P).set 12 fun _ => x12_18 P).set 204 fun _ => x204_66 P).set 205 fun _ => x205_67 P)
noncomputable def T_c26_3484 (P : Params) : BT := (((((trunc 206 (finT P) 1 0).set 3 fun _ => x3_17 P).set 12 fun _ => x12_18 P).set 204 fun _ => x204_68 P).set 205 fun _ => x205_69 P)
noncomputable def T_c26_3564 (P : Params) : BT := (((((trunc 206 (finT P) 1 0).set 3 fun _ => x3_17 P).set 12 fun _ => x12_18 P).set 204 fun _ => x204_70 P).set 205 fun _ => x205_71 P)
noncomputable def T_c26_3644 (P : Params) : BT := (((((trunc 206 (finT P) 1 0).set 3 fun _ => x3_17 P).set 12 fun _ => x12_18 P).set 204 fun _ => x204_72 P).set 205 fun _ => x205_73 P)
noncomputable def T_c26_3724 (P : Params) : BT := ((((trunc 206 (finT P) 1 0).set 3 fun _ => x3_17 P).set 12 fun _ => x12_18 P).set 205 fun _ => x205_74 P)
noncomputable def T_p45 (P : Params) : BT := (trunc 324 (finT P) 1 0)
noncomputable def finH (P : Params) : Heap := ⟨#[boot_o_0 P, boot_o_1 P, o2 P, o3 P, boot_o_4 P, boot_o_5 P, boot_o_6 P, boot_o_7 P, boot_o_8 P, boot_o_9 P, boot_o_10 P, o11 P, o12 P, o13 P, o14 P, o15 P, o16 P, o17 P, o18 P, o19 P, o20 P, o21 P, o22 P, o23 P, o24 P, o25 P, o26 P, o27 P, o28 P, o29 P, o30 P, o31 P, o32 P, o33 P, o34 P, o35 P, o36 P, o37 P, o38 P, o39 P, o40 P, o41 P, o42 P, o43 P, o44 P, o45 P, o46 P, o47 P, o48 P, o49 P, o50 P, o51 P, o52 P, o53 P, o54 P, o55 P, o56 P, o57 P, o58 P, o59 P, o60 P, o61 P, o62 P, o63 P, o64 P, o65 P, o66 P, o67 P, o68 P, o69 P, o70 P, o71 P, o72 P, o73 P, o74 P, o75 P, o76 P, o77 P, o78 P, o79 P, o80 P, o81 P, o82 P, o83 P, o84 P, o85 P, o86 P, o87 P, o88 P, o89 P, o90 P, o91 P, o92 P, o93 P, o94 P, o95 P, o96 P, o97 P, o98 P, o99 P, o100 P, o101 P, o102 P, o103 P, o104 P, o105 P, o106 P, o107 P, o108 P, o109 P, o110 P, o111 P, o112 P, o113 P, o114 P, o115 P, o116 P, o117 P, o118 P, o119 P, o120 P, o121 P, o122 P, o123 P, o124 P, o125 P, o126 P, o127 P, o128 P, o129 P, o130 P, o131 P, o132 P, o133 P, o134 P, o135 P, o136 P, o137 P, o138 P, o139 P, o140 P, o141 P, o142 P, o143 P, o144 P, o145 P, o146 P, o147 P, o148 P, o149 P, o150 P, o151 P, o152 P, o153 P, o154 P, o155 P, o156 P, o157 P, o158 P, o159 P, o160 P, o161 P, o162 P, o163 P, o164 P, o165 P, o166 P, o167 P, o168 P, o169 P, o170 P, o171 P, o172 P, o173 P, o174 P, o175 P, o176 P, o177 P, o178 P, o179 P, o180 P, o181 P, o182 P, o183 P, o184 P, o185 P, o186 P, o187 P, o188 P, o189 P, o190 P, o191 P, o192 P, o193 P, o194 P, o195 P, o196 P, o197 P, o198 P, o199 P, o200 P, o201 P, o202 P, o203 P, o204 P, o205 P, o206 P, o207 P, o208 P, o209 P, o210 P, o211 P, o212 P, o213 P, o214 P, o215 P, o216 P, o217 P, o218 P, o219 P, o220 P, o221 P, o222 P, o223 P, o224 P, o225 P, o226 P, o227 P, o228 P, o229 P, o230 P, o231 P, o232 P, o233 P, o234 P, o235 P, o236 P, o237 P, o238 P, o239 P, o240 P, o241 P, o242 P, o243 P, o244 P, o245 P, o246 P, o247 P, o248 P, o249 P, o250 P, o251 P, o252 P, o253 P, o254 P, o255 P, o256 P, o257 P, o258 P, o259 P, o260 P, o261 P, o262 P, o263 P, o264 P, o265 P, o266 P, o267 P, o268 P, o269 P, o270 P, o271 P, o272 P, o273 P, o274 P, o275 P, o276 P, o277 P, o278 P, o279 P, o280 P, o281 P, o282 P, o283 P, o284 P, o285 P, o286 P, o287 P, o288 P, o289 P, o290 P, o291 P, o292 P, o293 P, o294 P, o295 P, o296 P, o297 P, o298 P, o299 P, o300 P, o301 P, o302 P, o303 P, o304 P, o305 P, o306 P, o307 P, o308 P, o309 P, o310 P, o311 P, o312 P, o313 P, o314 P, o315 P, o316 P, o317 P, o318 P, o319 P, o320 P, o321 P, o322 P, o323 P], {}⟩
noncomputable def sts0_11 : List Stmt := [stAt 0, stAt 1, stAt 2, stAt 3, stAt 4, stAt 5, stAt 6, stAt 7, stAt 8, stAt 9, stAt 10, stAt 11]
theorem g0_11 (w : World) (os : OsState) : segRunT treeTable pw w 11 (some (.ref 6)) 1 321 (sT (T_block w.params) 15 187 os) (piecesOf sts0_11 env0 cE ⟨0, 0, 0, 0⟩ topF) = some (.next, (sT (T_p11 w.params) 85 273 os), cE, ⟨35, 0, 35, 8⟩) := by
  rw [PySem.W.Fast.te10110043849684766642, PySem.W.Fast.te14364793385576792824]; kernel_rfl
noncomputable def sts12_13 : List Stmt := [stAt 12, stAt 13]
theorem g12_13 (w : World) (os : OsState) : segRunT treeTable pw w 11 (some (.ref 6)) 1 410 (sT (T_p11 w.params) 85 273 os) (piecesOf sts12_13 env0 cE ⟨35, 0, 35, 8⟩ topF) = some (.next, (sT (T_p13 w.params) 110 309 os), cE, ⟨38, 0, 39, 8⟩) := by
  rw [PySem.W.Fast.te10110043849684766642, PySem.W.Fast.te14364793385576792824]; kernel_rfl
noncomputable def sts14_15 : List Stmt := [stAt 14, stAt 15]
theorem g14_15 (w : World) (os : OsState) : segRunT treeTable pw w 11 (some (.ref 6)) 1 43 (sT (T_p13 w.params) 110 309 os) (piecesOf sts14_15 env0 cE ⟨38, 0, 39, 8⟩ topF) = some (.next, (sT (T_p15 w.params) 117 322 os), cE, ⟨57, 0, 57, 8⟩) := by
  rw [PySem.W.Fast.te10110043849684766642, PySem.W.Fast.te14364793385576792824]; kernel_rfl
noncomputable def sts16_16 : List Stmt := [stAt 16]
noncomputable def G16_16 (w : World) : Prop := ∀ os : OsState, segRunT treeTable pw w 11 (some (.ref 6)) 1 999 (sT (T_p15 w.params) 117 322 os) (piecesOf sts16_16 env0 cE ⟨57, 0, 57, 8⟩ topF) = some (.next, (sT (T_p16 w.params) 128 382 os), cE, ⟨58, 0, 58, 6⟩)
theorem g16_16_false (w : World) : G16_16 (w.withFollow "special-get-raises" false) := by
  intro os
  rw [PySem.W.Fast.te10110043849684766642, PySem.W.Fast.te14364793385576792824]; kernel_rfl
theorem g16_16_true (w : World) : G16_16 (w.withFollow "special-get-raises" true) := by
  intro os
  rw [PySem.W.Fast.te10110043849684766642, PySem.W.Fast.te14364793385576792824]; kernel_rfl
theorem g16_16 (w : World) (os : OsState) : segRunT treeTable pw w 11 (some (.ref 6)) 1 999 (sT (T_p15 w.params) 117 322 os) (piecesOf sts16_16 env0 cE ⟨57, 0, 57, 8⟩ topF) = some (.next, (sT (T_p16 w.params) 128 382 os), cE, ⟨58, 0, 58, 6⟩) := byRow2 "special-get-raises" g16_16_false g16_16_true w os
noncomputable def sts17_19 : List Stmt := [stAt 17, stAt 18, stAt 19]
theorem g17_19 (w : World) (os : OsState) : segRunT treeTable pw w 11 (some (.ref 6)) 1 89 (sT (T_p16 w.params) 128 382 os) (piecesOf sts17_19 env0 cE ⟨58, 0, 58, 6⟩ topF) = some (.next, (sT (T_p19 w.params) 149 404 os), cE, ⟨63, 0, 69, 46⟩) := by
  rw [PySem.W.Fast.te10110043849684766642, PySem.W.Fast.te14364793385576792824]; kernel_rfl
noncomputable def sts20_20 : List Stmt := [stAt 20]
noncomputable def G20_20 (w : World) : Prop := ∀ os : OsState, segRunT treeTable pw w 11 (some (.ref 6)) 1 200 (sT (T_p19 w.params) 149 404 os) (piecesOf sts20_20 env0 cE ⟨63, 0, 69, 46⟩ topF) = some (.next, (sT (T_p20 w.params) 154 418 os), cE, ⟨70, 0, 70, 6⟩)
theorem g20_20_false (w : World) : G20_20 (w.withFollow "special-get-raises" false) := by
  intro os
  rw [PySem.W.Fast.te10110043849684766642, PySem.W.Fast.te14364793385576792824]; kernel_rfl
theorem g20_20_true (w : World) : G20_20 (w.withFollow "special-get-raises" true) := by
  intro os
  rw [PySem.W.Fast.te10110043849684766642, PySem.W.Fast.te14364793385576792824]; kernel_rfl
theorem g20_20 (w : World) (os : OsState) : segRunT treeTable pw w 11 (some (.ref 6)) 1 200 (sT (T_p19 w.params) 149 404 os) (piecesOf sts20_20 env0 cE ⟨63, 0, 69, 46⟩ topF) = some (.next, (sT (T_p20 w.params) 154 418 os), cE, ⟨70, 0, 70, 6⟩) := byRow2 "special-get-raises" g20_20_false g20_20_true w os
noncomputable def sts21_21 : List Stmt := [stAt 21]
theorem g21_21 (w : World) (os : OsState) : segRunT treeTable pw w 11 (some (.ref 6)) 1 30 (sT (T_p20 w.params) 154 418 os) (piecesOf sts21_21 env0 cE ⟨70, 0, 70, 6⟩ topF) = some (.next, (sT (T_p21 w.params) 161 425 os), cE, ⟨71, 0, 72, 30⟩) := by
  rw [PySem.W.Fast.te10110043849684766642, PySem.W.Fast.te14364793385576792824]; kernel_rfl
noncomputable def sts22_22 : List Stmt := [stAt 22]
noncomputable def G22_22 (w : World) : Prop := ∀ os : OsState, segRunT treeTable pw w 11 (some (.ref 6)) 1 361 (sT (T_p21 w.params) 161 425 os) (piecesOf sts22_22 env0 cE ⟨71, 0, 72, 30⟩ topF) = some (.next, (sT (T_p22 w.params) 166 453 os), cE, ⟨73, 0, 73, 6⟩)
theorem g22_22_false (w : World) : G22_22 (w.withFollow "special-get-raises" false) := by
  intro os
  rw [PySem.W.Fast.te10110043849684766642, PySem.W.Fast.te14364793385576792824]; kernel_rfl
theorem g22_22_true (w : World) : G22_22 (w.withFollow "special-get-raises" true) := by
  intro os
  rw [PySem.W.Fast.te10110043849684766642, PySem.W.Fast.te14364793385576792824]; kernel_rfl
theorem g22_22 (w : World) (os : OsState) : segRunT treeTable pw w 11 (some (.ref 6)) 1 361 (sT (T_p21 w.params) 161 425 os) (piecesOf sts22_22 env0 cE ⟨71, 0, 72, 30⟩ topF) = some (.next, (sT (T_p22 w.params) 166 453 os), cE, ⟨73, 0, 73, 6⟩) := byRow2 "special-get-raises" g22_22_false g22_22_true w os
noncomputable def sts23_23 : List Stmt := [stAt 23]
theorem g23_23 (w : World) (os : OsState) : segRunT treeTable pw w 11 (some (.ref 6)) 1 30 (sT (T_p22 w.params) 166 453 os) (piecesOf sts23_23 env0 cE ⟨73, 0, 73, 6⟩ topF) = some (.next, (sT (T_p23 w.params) 173 460 os), cE, ⟨74, 0, 75, 30⟩) := by
  rw [PySem.W.Fast.te10110043849684766642, PySem.W.Fast.te14364793385576792824]; kernel_rfl
noncomputable def sts24_24 : List Stmt := [stAt 24]
noncomputable def G24_24 (w : World) : Prop := ∀ os : OsState, segRunT treeTable pw w 11 (some (.ref 6)) 1 775 (sT (T_p23 w.params) 173 460 os) (piecesOf sts24_24 env0 cE ⟨74, 0, 75, 30⟩ topF) = some (.next, (sT (T_p24 w.params) 190 501 os), cE, ⟨76, 0, 76, 6⟩)
theorem g24_24_false (w : World) : G24_24 (w.withFollow "special-get-raises" false) := by
  intro os
  rw [PySem.W.Fast.te10110043849684766642, PySem.W.Fast.te14364793385576792824]; kernel_rfl
theorem g24_24_true (w : World) : G24_24 (w.withFollow "special-get-raises" true) := by
  intro os
  rw [PySem.W.Fast.te10110043849684766642, PySem.W.Fast.te14364793385576792824]; kernel_rfl
theorem g24_24 (w : World) (os : OsState) : segRunT treeTable pw w 11 (some (.ref 6)) 1 775 (sT (T_p23 w.params) 173 460 os) (piecesOf sts24_24 env0 cE ⟨74, 0, 75, 30⟩ topF) = some (.next, (sT (T_p24 w.params) 190 501 os), cE, ⟨76, 0, 76, 6⟩) := byRow2 "special-get-raises" g24_24_false g24_24_true w os
noncomputable def sts25_25 : List Stmt := [stAt 25]
theorem g25_25 (w : World) (os : OsState) : segRunT treeTable pw w 11 (some (.ref 6)) 1 30 (sT (T_p24 w.params) 190 501 os) (piecesOf sts25_25 env0 cE ⟨76, 0, 76, 6⟩ topF) = some (.next, (sT (T_p25 w.params) 197 508 os), cE, ⟨77, 0, 78, 30⟩) := by
  rw [PySem.W.Fast.te10110043849684766642, PySem.W.Fast.te14364793385576792824]; kernel_rfl
noncomputable def sts27_45 : List Stmt := [stAt 27, stAt 28, stAt 29, stAt 30, stAt 31, stAt 32, stAt 33, stAt 34, stAt 35, stAt 36, stAt 37, stAt 38, stAt 39, stAt 40, stAt 41, stAt 42, stAt 43, stAt 44, stAt 45]
theorem g27_45 (w : World) (os : OsState) : segRunT treeTable pw w 11 (some (.ref 6)) 1 542 (sT (T_p26 w.params) 208 708 os) (piecesOf sts27_45 env0 cE ⟨79, 0, 79, 6⟩ topF) = some (.next, (sT (T_p45 w.params) 324 856 os), cE, ⟨162, 0, 181, 87⟩) := by
  rw [PySem.W.Fast.te10110043849684766642, PySem.W.Fast.te14364793385576792824]; kernel_rfl
end
end
section
open PySem PySem.W PySem.Calls PyProof.Rows
noncomputable section
noncomputable def sts26_26 : List Stmt := [stAt 26]
noncomputable def thrOf : Option (SharedT × Thread) → Thread
  | some (_, t) => t
  | none => ⟨.unsupported "", .builtin "" {}, ⟨0, 0, 0, 0⟩, []⟩
noncomputable def stOf : Option (SharedT × Thread) → Option SharedT
  | some (s, _) => some s
  | none => none
noncomputable def twoUp (t : Thread) : Bool := match t.stack with
  | .ret .. :: _ :: _ => true
  | _ => false
theorem goes_of {x : Option (SharedT × Thread)} {s : SharedT} (h : stOf x = some s) : x = some (s, thrOf x) := by
  cases x with
  | none => cases h
  | some p => obtain ⟨a, b⟩ := p; cases h; rfl
noncomputable def CC : Code := (Code.builtin PySem.W.SL.s10534883147002075979x15 ⟨[.ref 204, .ref 205], []⟩)
noncomputable def thr1 (w : World) (os : OsState) : Thread := thrOf (segGoT treeTable pw w 11 (some (.ref 6)) 1 87 (sT (T_p25 w.params) 197 508 os) (piecesOf sts26_26 env0 cE ⟨77, 0, 78, 30⟩ topF))
theorem thr1_eq : thr1 = fun w os => thrOf (PySem.W.Fast.tw10295753902157049106 PySem.W.Fast.tw14364793385576792824 pw w 11 (some (.ref 6)) 1 87 (sT (T_p25 w.params) 197 508 os) (piecesOf sts26_26 env0 cE ⟨77, 0, 78, 30⟩ topF)) := by
  funext w os
  unfold thr1
  rw [PySem.W.Fast.te10295753902157049106, PySem.W.Fast.te14364793385576792824]
noncomputable def thr2 (w : World) (os : OsState) : Thread := thrOf (segGoT treeTable pw w 11 (some (.ref 6)) 1 161 (sT (T_c26_1719 w.params) 201 610 os) (thr1 w os))
theorem thr2_eq : thr2 = fun w os => thrOf (PySem.W.Fast.tw10295753902157049106 PySem.W.Fast.tw14364793385576792824 pw w 11 (some (.ref 6)) 1 161 (sT (T_c26_1719 w.params) 201 610 os) (thr1 w os)) := by
  funext w os
  unfold thr2
  rw [PySem.W.Fast.te10295753902157049106, PySem.W.Fast.te14364793385576792824]
theorem c9_false_0 (w : World) (os : OsState) : segGoT treeTable pw (w.withFollow "special-get-raises" false) 11 (some (.ref 6)) 1 87 (sT (T_p25 (w.withFollow "special-get-raises" false).params) 197 508 os) (piecesOf sts26_26 env0 cE ⟨77, 0, 78, 30⟩ topF) = some ((sT (T_c26_87 (w.withFollow "special-get-raises" false).params) 201 514 os), (thr1 (w.withFollow "special-get-raises" false) os)) := by
  refine goes_of (s := (sT (T_c26_87 (w.withFollow "special-get-raises" false).params) 201 514 os)) ?_
  rw [PySem.W.Fast.te10295753902157049106, PySem.W.Fast.te14364793385576792824]; kernel_rfl
theorem c9_false_1 (w : World) (os : OsState) : segGoT treeTable pw (w.withFollow "special-get-raises" false) 11 (some (.ref 6)) 1 408 (sT (T_c26_87 (w.withFollow "special-get-raises" false).params) 201 514 os) (thr1 (w.withFollow "special-get-raises" false) os) = some ((sT (T_c26_495 (w.withFollow "special-get-raises" false).params) 201 538 os), (thr1 (w.withFollow "special-get-raises" false) os)) := by
  rw [thr1_eq]; rw [PySem.W.Fast.te10295753902157049106, PySem.W.Fast.te14364793385576792824]; kernel_rfl
theorem c9_false_2 (w : World) (os : OsState) : segGoT treeTable pw (w.withFollow "special-get-raises" false) 11 (some (.ref 6)) 1 408 (sT (T_c26_495 (w.withFollow "special-get-raises" false).params) 201 538 os) (thr1 (w.withFollow "special-get-raises" false) os) = some ((sT (T_c26_903 (w.withFollow "special-get-raises" false).params) 201 562 os), (thr1 (w.withFollow "special-get-raises" false) os)) := by
  rw [thr1_eq]; rw [PySem.W.Fast.te10295753902157049106, PySem.W.Fast.te14364793385576792824]; kernel_rfl
theorem c9_false_3 (w : World) (os : OsState) : segGoT treeTable pw (w.withFollow "special-get-raises" false) 11 (some (.ref 6)) 1 408 (sT (T_c26_903 (w.withFollow "special-get-raises" false).params) 201 562 os) (thr1 (w.withFollow "special-get-raises" false) os) = some ((sT (T_c26_1311 (w.withFollow "special-get-raises" false).params) 201 586 os), (thr1 (w.withFollow "special-get-raises" false) os)) := by
  rw [thr1_eq]; rw [PySem.W.Fast.te10295753902157049106, PySem.W.Fast.te14364793385576792824]; kernel_rfl
theorem c9_false_4 (w : World) (os : OsState) : segGoT treeTable pw (w.withFollow "special-get-raises" false) 11 (some (.ref 6)) 1 408 (sT (T_c26_1311 (w.withFollow "special-get-raises" false).params) 201 586 os) (thr1 (w.withFollow "special-get-raises" false) os) = some ((sT (T_c26_1719 (w.withFollow "special-get-raises" false).params) 201 610 os), (thr1 (w.withFollow "special-get-raises" false) os)) := by
  rw [thr1_eq]; rw [PySem.W.Fast.te10295753902157049106, PySem.W.Fast.te14364793385576792824]; kernel_rfl
theorem c9_false_5 (w : World) (os : OsState) : segGoT treeTable pw (w.withFollow "special-get-raises" false) 11 (some (.ref 6)) 1 161 (sT (T_c26_1719 (w.withFollow "special-get-raises" false).params) 201 610 os) (thr1 (w.withFollow "special-get-raises" false) os) = some ((sT (T_c26_1880 (w.withFollow "special-get-raises" false).params) 206 615 os), (thr2 (w.withFollow "special-get-raises" false) os)) := by
  refine goes_of (s := (sT (T_c26_1880 (w.withFollow "special-get-raises" false).params) 206 615 os)) ?_
  rw [thr1_eq]; rw [PySem.W.Fast.te10295753902157049106, PySem.W.Fast.te14364793385576792824]; kernel_rfl
theorem c9_false_6 (w : World) (os : OsState) (k : Result → Sem Fin) (h : Option Value) (g : Bool) (l : List Value) (cd : Code) (p : Pos) (kept : List Value) (f : Frame) (r : List Frame) : segGoT treeTable pw (w.withFollow "special-get-raises" false) 11 (some (.ref 6)) 1 322 (sT (T_c26_1880 (w.withFollow "special-get-raises" false).params) 206 615 os) ⟨denote treeTable CC, CC, ⟨79, 9, 79, 52⟩, .ret k h g l cd p kept :: f :: r⟩ = some ((sT (T_c26_2202 (w.withFollow "special-get-raises" false).params) 206 631 os), ⟨denote treeTable CC, CC, ⟨79, 9, 79, 52⟩, .ret k h g l cd p kept :: f :: r⟩) := by
  rw [PySem.W.Fast.te10295753902157049106, PySem.W.Fast.te11892475500146522536, PySem.W.Fast.te14364793385576792824]; kernel_rfl
theorem c9_false_10 (w : World) (os : OsState) (k : Result → Sem Fin) (h : Option Value) (g : Bool) (l : List Value) (cd : Code) (p : Pos) (kept : List Value) (f : Frame) (r : List Frame) : segGoT treeTable pw (w.withFollow "special-get-raises" false) 11 (some (.ref 6)) 1 80 (sT (T_c26_2202 (w.withFollow "special-get-raises" false).params) 206 631 os) ⟨denote treeTable CC, CC, ⟨79, 9, 79, 52⟩, .ret k h g l cd p kept :: f :: r⟩ = some ((sT (T_c26_2282 (w.withFollow "special-get-raises" false).params) 206 635 os), ⟨denote treeTable CC, CC, ⟨79, 9, 79, 52⟩, .ret k h g l cd p kept :: f :: r⟩) := by
  rw [PySem.W.Fast.te10295753902157049106, PySem.W.Fast.te11892475500146522536, PySem.W.Fast.te14364793385576792824]; kernel_rfl
theorem c9_false_11 (w : World) (os : OsState) (k : Result → Sem Fin) (h : Option Value) (g : Bool) (l : List Value) (cd : Code) (p : Pos) (kept : List Value) (f : Frame) (r : List Frame) : segGoT treeTable pw (w.withFollow "special-get-raises" false) 11 (some (.ref 6)) 1 80 (sT (T_c26_2282 (w.withFollow "special-get-raises" false).params) 206 635 os) ⟨denote treeTable CC, CC, ⟨79, 9, 79, 52⟩, .ret k h g l cd p kept :: f :: r⟩ = some ((sT (T_c26_2362 (w.withFollow "special-get-raises" false).params) 206 639 os), ⟨denote treeTable CC, CC, ⟨79, 9, 79, 52⟩, .ret k h g l cd p kept :: f :: r⟩) := by
  rw [PySem.W.Fast.te10295753902157049106, PySem.W.Fast.te11892475500146522536, PySem.W.Fast.te14364793385576792824]; kernel_rfl
theorem c9_false_12 (w : World) (os : OsState) (k : Result → Sem Fin) (h : Option Value) (g : Bool) (l : List Value) (cd : Code) (p : Pos) (kept : List Value) (f : Frame) (r : List Frame) : segGoT treeTable pw (w.withFollow "special-get-raises" false) 11 (some (.ref 6)) 1 80 (sT (T_c26_2362 (w.withFollow "special-get-raises" false).params) 206 639 os) ⟨denote treeTable CC, CC, ⟨79, 9, 79, 52⟩, .ret k h g l cd p kept :: f :: r⟩ = some ((sT (T_c26_2442 (w.withFollow "special-get-raises" false).params) 206 643 os), ⟨denote treeTable CC, CC, ⟨79, 9, 79, 52⟩, .ret k h g l cd p kept :: f :: r⟩) := by
  rw [PySem.W.Fast.te10295753902157049106, PySem.W.Fast.te11892475500146522536, PySem.W.Fast.te14364793385576792824]; kernel_rfl
theorem c9_false_13 (w : World) (os : OsState) (k : Result → Sem Fin) (h : Option Value) (g : Bool) (l : List Value) (cd : Code) (p : Pos) (kept : List Value) (f : Frame) (r : List Frame) : segGoT treeTable pw (w.withFollow "special-get-raises" false) 11 (some (.ref 6)) 1 80 (sT (T_c26_2442 (w.withFollow "special-get-raises" false).params) 206 643 os) ⟨denote treeTable CC, CC, ⟨79, 9, 79, 52⟩, .ret k h g l cd p kept :: f :: r⟩ = some ((sT (T_c26_2522 (w.withFollow "special-get-raises" false).params) 206 647 os), ⟨denote treeTable CC, CC, ⟨79, 9, 79, 52⟩, .ret k h g l cd p kept :: f :: r⟩) := by
  rw [PySem.W.Fast.te10295753902157049106, PySem.W.Fast.te11892475500146522536, PySem.W.Fast.te14364793385576792824]; kernel_rfl
theorem c9_false_14 (w : World) (os : OsState) (k : Result → Sem Fin) (h : Option Value) (g : Bool) (l : List Value) (cd : Code) (p : Pos) (kept : List Value) (f : Frame) (r : List Frame) : segGoT treeTable pw (w.withFollow "special-get-raises" false) 11 (some (.ref 6)) 1 80 (sT (T_c26_2522 (w.withFollow "special-get-raises" false).params) 206 647 os) ⟨denote treeTable CC, CC, ⟨79, 9, 79, 52⟩, .ret k h g l cd p kept :: f :: r⟩ = some ((sT (T_c26_2602 (w.withFollow "special-get-raises" false).params) 206 651 os), ⟨denote treeTable CC, CC, ⟨79, 9, 79, 52⟩, .ret k h g l cd p kept :: f :: r⟩) := by
  rw [PySem.W.Fast.te10295753902157049106, PySem.W.Fast.te11892475500146522536, PySem.W.Fast.te14364793385576792824]; kernel_rfl
theorem c9_false_15 (w : World) (os : OsState) (k : Result → Sem Fin) (h : Option Value) (g : Bool) (l : List Value) (cd : Code) (p : Pos) (kept : List Value) (f : Frame) (r : List Frame) : segGoT treeTable pw (w.withFollow "special-get-raises" false) 11 (some (.ref 6)) 1 80 (sT (T_c26_2602 (w.withFollow "special-get-raises" false).params) 206 651 os) ⟨denote treeTable CC, CC, ⟨79, 9, 79, 52⟩, .ret k h g l cd p kept :: f :: r⟩ = some ((sT (T_c26_2682 (w.withFollow "special-get-raises" false).params) 206 655 os), ⟨denote treeTable CC, CC, ⟨79, 9, 79, 52⟩, .ret k h g l cd p kept :: f :: r⟩) := by
  rw [PySem.W.Fast.te10295753902157049106, PySem.W.Fast.te11892475500146522536, PySem.W.Fast.te14364793385576792824]; kernel_rfl
theorem c9_false_16 (w : World) (os : OsState) (k : Result → Sem Fin) (h : Option Value) (g : Bool) (l : List Value) (cd : Code) (p : Pos) (kept : List Value) (f : Frame) (r : List Frame) : segGoT treeTable pw (w.withFollow "special-get-raises" false) 11 (some (.ref 6)) 1 80 (sT (T_c26_2682 (w.withFollow "special-get-raises" false).params) 206 655 os) ⟨denote treeTable CC, CC, ⟨79, 9, 79, 52⟩, .ret k h g l cd p kept :: f :: r⟩ = some ((sT (T_c26_2762 (w.withFollow "special-get-raises" false).params) 206 659 os), ⟨denote treeTable CC, CC, ⟨79, 9, 79, 52⟩, .ret k h g l cd p kept :: f :: r⟩) := by
  rw [PySem.W.Fast.te10295753902157049106, PySem.W.Fast.te11892475500146522536, PySem.W.Fast.te14364793385576792824]; kernel_rfl
theorem c9_false_17 (w : World) (os : OsState) (k : Result → Sem Fin) (h : Option Value) (g : Bool) (l : List Value) (cd : Code) (p : Pos) (kept : List Value) (f : Frame) (r : List Frame) : segGoT treeTable pw (w.withFollow "special-get-raises" false) 11 (some (.ref 6)) 1 80 (sT (T_c26_2762 (w.withFollow "special-get-raises" false).params) 206 659 os) ⟨denote treeTable CC, CC, ⟨79, 9, 79, 52⟩, .ret k h g l cd p kept :: f :: r⟩ = some ((sT (T_c26_2842 (w.withFollow "special-get-raises" false).params) 206 663 os), ⟨denote treeTable CC, CC, ⟨79, 9, 79, 52⟩, .ret k h g l cd p kept :: f :: r⟩) := by
  rw [PySem.W.Fast.te10295753902157049106, PySem.W.Fast.te11892475500146522536, PySem.W.Fast.te14364793385576792824]; kernel_rfl
theorem c9_false_18 (w : World) (os : OsState) (k : Result → Sem Fin) (h : Option Value) (g : Bool) (l : List Value) (cd : Code) (p : Pos) (kept : List Value) (f : Frame) (r : List Frame) : segGoT treeTable pw (w.withFollow "special-get-raises" false) 11 (some (.ref 6)) 1 80 (sT (T_c26_2842 (w.withFollow "special-get-raises" false).params) 206 663 os) ⟨denote treeTable CC, CC, ⟨79, 9, 79, 52⟩, .ret k h g l cd p kept :: f :: r⟩ = some ((sT (T_c26_2922 (w.withFollow "special-get-raises" false).params) 206 667 os), ⟨denote treeTable CC, CC, ⟨79, 9, 79, 52⟩, .ret k h g l cd p kept :: f :: r⟩) := by
  rw [PySem.W.Fast.te10295753902157049106, PySem.W.Fast.te11892475500146522536, PySem.W.Fast.te14364793385576792824]; kernel_rfl
theorem c9_false_19 (w : World) (os : OsState) (k : Result → Sem Fin) (h : Option Value) (g : Bool) (l : List Value) (cd : Code) (p : Pos) (kept : List Value) (f : Frame) (r : List Frame) : segGoT treeTable pw (w.withFollow "special-get-raises" false) 11 (some (.ref 6)) 1 80 (sT (T_c26_2922 (w.withFollow "special-get-raises" false).params) 206 667 os) ⟨denote treeTable CC, CC, ⟨79, 9, 79, 52⟩, .ret k h g l cd p kept :: f :: r⟩ = some ((sT (T_c26_3002 (w.withFollow "special-get-raises" false).params) 206 671 os), ⟨denote treeTable CC, CC, ⟨79, 9, 79, 52⟩, .ret k h g l cd p kept :: f :: r⟩) := by
  rw [PySem.W.Fast.te10295753902157049106, PySem.W.Fast.te11892475500146522536, PySem.W.Fast.te14364793385576792824]; kernel_rfl
theorem c9_false_20 (w : World) (os : OsState) (k : Result → Sem Fin) (h : Option Value) (g : Bool) (l : List Value) (cd : Code) (p : Pos) (kept : List Value) (f : Frame) (r : List Frame) : segGoT treeTable pw (w.withFollow "special-get-raises" false) 11 (some (.ref 6)) 1 80 (sT (T_c26_3002 (w.withFollow "special-get-raises" false).params) 206 671 os) ⟨denote treeTable CC, CC, ⟨79, 9, 79, 52⟩, .ret k h g l cd p kept :: f :: r⟩ = some ((sT (T_c26_3082 (w.withFollow "special-get-raises" false).params) 206 675 os), ⟨denote treeTable CC, CC, ⟨79, 9, 79, 52⟩, .ret k h g l cd p kept :: f :: r⟩) := by
  rw [PySem.W.Fast.te10295753902157049106, PySem.W.Fast.te11892475500146522536, PySem.W.Fast.te14364793385576792824]; kernel_rfl
theorem c9_false_21 (w : World) (os : OsState) (k : Result → Sem Fin) (h : Option Value) (g : Bool) (l : List Value) (cd : Code) (p : Pos) (kept : List Value) (f : Frame) (r : List Frame) : segGoT treeTable pw (w.withFollow "special-get-raises" false) 11 (some (.ref 6)) 1 80 (sT (T_c26_3082 (w.withFollow "special-get-raises" false).params) 206 675 os) ⟨denote treeTable CC, CC, ⟨79, 9, 79, 52⟩, .ret k h g l cd p kept :: f :: r⟩ = some ((sT (T_c26_3162 (w.withFollow "special-get-raises" false).params) 206 679 os), ⟨denote treeTable CC, CC, ⟨79, 9, 79, 52⟩, .ret k h g l cd p kept :: f :: r⟩) := by
  rw [PySem.W.Fast.te10295753902157049106, PySem.W.Fast.te11892475500146522536, PySem.W.Fast.te14364793385576792824]; kernel_rfl
theorem c9_false_22 (w : World) (os : OsState) (k : Result → Sem Fin) (h : Option Value) (g : Bool) (l : List Value) (cd : Code) (p : Pos) (kept : List Value) (f : Frame) (r : List Frame) : segGoT treeTable pw (w.withFollow "special-get-raises" false) 11 (some (.ref 6)) 1 80 (sT (T_c26_3162 (w.withFollow "special-get-raises" false).params) 206 679 os) ⟨denote treeTable CC, CC, ⟨79, 9, 79, 52⟩, .ret k h g l cd p kept :: f :: r⟩ = some ((sT (T_c26_3242 (w.withFollow "special-get-raises" false).params) 206 683 os), ⟨denote treeTable CC, CC, ⟨79, 9, 79, 52⟩, .ret k h g l cd p kept :: f :: r⟩) := by
  rw [PySem.W.Fast.te10295753902157049106, PySem.W.Fast.te11892475500146522536, PySem.W.Fast.te14364793385576792824]; kernel_rfl
theorem c9_false_23 (w : World) (os : OsState) (k : Result → Sem Fin) (h : Option Value) (g : Bool) (l : List Value) (cd : Code) (p : Pos) (kept : List Value) (f : Frame) (r : List Frame) : segGoT treeTable pw (w.withFollow "special-get-raises" false) 11 (some (.ref 6)) 1 82 (sT (T_c26_3242 (w.withFollow "special-get-raises" false).params) 206 683 os) ⟨denote treeTable CC, CC, ⟨79, 9, 79, 52⟩, .ret k h g l cd p kept :: f :: r⟩ = some ((sT (T_c26_3324 (w.withFollow "special-get-raises" false).params) 206 687 os), ⟨denote treeTable CC, CC, ⟨79, 9, 79, 52⟩, .ret k h g l cd p kept :: f :: r⟩) := by
  rw [PySem.W.Fast.te10295753902157049106, PySem.W.Fast.te11892475500146522536, PySem.W.Fast.te14364793385576792824]; kernel_rfl
theorem c9_false_24 (w : World) (os : OsState) (k : Result → Sem Fin) (h : Option Value) (g : Bool) (l : List Value) (cd : Code) (p : Pos) (kept : List Value) (f : Frame) (r : List Frame) : segGoT treeTable pw (w.withFollow "special-get-raises" false) 11 (some (.ref 6)) 1 80 (sT (T_c26_3324 (w.withFollow "special-get-raises" false).params) 206 687 os) ⟨denote treeTable CC, CC, ⟨79, 9, 79, 52⟩, .ret k h g l cd p kept :: f :: r⟩ = some ((sT (T_c26_3404 (w.withFollow "special-get-raises" false).params) 206 691 os), ⟨denote treeTable CC, CC, ⟨79, 9, 79, 52⟩, .ret k h g l cd p kept :: f :: r⟩) := by
  rw [PySem.W.Fast.te10295753902157049106, PySem.W.Fast.te11892475500146522536, PySem.W.Fast.te14364793385576792824]; kernel_rfl
theorem c9_false_25 (w : World) (os : OsState) (k : Result → Sem Fin) (h : Option Value) (g : Bool) (l : List Value) (cd : Code) (p : Pos) (kept : List Value) (f : Frame) (r : List Frame) : segGoT treeTable pw (w.withFollow "special-get-raises" false) 11 (some (.ref 6)) 1 80 (sT (T_c26_3404 (w.withFollow "special-get-raises" false).params) 206 691 os) ⟨denote treeTable CC, CC, ⟨79, 9, 79, 52⟩, .ret k h g l cd p kept :: f :: r⟩ = some ((sT (T_c26_3484 (w.withFollow "special-get-raises" false).params) 206 695 os), ⟨denote treeTable CC, CC, ⟨79, 9, 79, 52⟩, .ret k h g l cd p kept :: f :: r⟩) := by
  rw [PySem.W.Fast.te10295753902157049106, PySem.W.Fast.te11892475500146522536, PySem.W.Fast.te14364793385576792824]; kernel_rfl
theorem c9_false_26 (w : World) (os : OsState) (k : Result → Sem Fin) (h : Option Value) (g : Bool) (l : List Value) (cd : Code) (p : Pos) (kept : List Value) (f : Frame) (r : List Frame) : segGoT treeTable pw (w.withFollow "special-get-raises" false) 11 (some (.ref 6)) 1 80 (sT (T_c26_3484 (w.withFollow "special-get-raises" false).params) 206 695 os) ⟨denote treeTable CC, CC, ⟨79, 9, 79, 52⟩, .ret k h g l cd p kept :: f :: r⟩ = some ((sT (T_c26_3564 (w.withFollow "special-get-raises" false).params) 206 699 os), ⟨denote treeTable CC, CC, ⟨79, 9, 79, 52⟩, .ret k h g l cd p kept :: f :: r⟩) := by
  rw [PySem.W.Fast.te10295753902157049106, PySem.W.Fast.te11892475500146522536, PySem.W.Fast.te14364793385576792824]; kernel_rfl
theorem c9_false_27 (w : World) (os : OsState) (k : Result → Sem Fin) (h : Option Value) (g : Bool) (l : List Value) (cd : Code) (p : Pos) (kept : List Value) (f : Frame) (r : List Frame) : segGoT treeTable pw (w.withFollow "special-get-raises" false) 11 (some (.ref 6)) 1 80 (sT (T_c26_3564 (w.withFollow "special-get-raises" false).params) 206 699 os) ⟨denote treeTable CC, CC, ⟨79, 9, 79, 52⟩, .ret k h g l cd p kept :: f :: r⟩ = some ((sT (T_c26_3644 (w.withFollow "special-get-raises" false).params) 206 703 os), ⟨denote treeTable CC, CC, ⟨79, 9, 79, 52⟩, .ret k h g l cd p kept :: f :: r⟩) := by
  rw [PySem.W.Fast.te10295753902157049106, PySem.W.Fast.te11892475500146522536, PySem.W.Fast.te14364793385576792824]; kernel_rfl
theorem c9_false_28 (w : World) (os : OsState) (k : Result → Sem Fin) (h : Option Value) (g : Bool) (l : List Value) (cd : Code) (p : Pos) (kept : List Value) (f : Frame) (r : List Frame) : segGoT treeTable pw (w.withFollow "special-get-raises" false) 11 (some (.ref 6)) 1 80 (sT (T_c26_3644 (w.withFollow "special-get-raises" false).params) 206 703 os) ⟨denote treeTable CC, CC, ⟨79, 9, 79, 52⟩, .ret k h g l cd p kept :: f :: r⟩ = some ((sT (T_c26_3724 (w.withFollow "special-get-raises" false).params) 206 707 os), ⟨denote treeTable CC, CC, ⟨79, 9, 79, 52⟩, .ret k h g l cd p kept :: f :: r⟩) := by
  rw [PySem.W.Fast.te10295753902157049106, PySem.W.Fast.te11892475500146522536, PySem.W.Fast.te14364793385576792824]; kernel_rfl
theorem up_false (w : World) (os : OsState) : twoUp (thr2 (w.withFollow "special-get-raises" false) os) = true := by
  rw [thr2_eq, thr1_eq]; kernel_rfl
theorem at_false (w : World) (os : OsState) : (thr2 (w.withFollow "special-get-raises" false) os).cur = denote treeTable CC ∧ (thr2 (w.withFollow "special-get-raises" false) os).code = CC ∧ (thr2 (w.withFollow "special-get-raises" false) os).pos = ⟨79, 9, 79, 52⟩ := by
  rw [thr2_eq, thr1_eq, PySem.W.Fast.te11892475500146522536, PySem.W.Fast.te14364793385576792824]
  refine ⟨?_, ?_, ?_⟩ <;> kernel_rfl
theorem thr2_false (w : World) (os : OsState) : ∃ k h g l cd p kept f r, (thr2 (w.withFollow "special-get-raises" false) os) = ⟨denote treeTable CC, CC, ⟨79, 9, 79, 52⟩, .ret k h g l cd p kept :: f :: r⟩ := by
  have u := up_false w os
  obtain ⟨a, b, c⟩ := at_false w os
  revert u a b c
  generalize (thr2 (w.withFollow "special-get-raises" false) os) = t
  obtain ⟨x, y, z, st⟩ := t
  intro u a b c
  dsimp only at a b c
  subst a b c
  unfold twoUp at u
  split at u
  · rename_i e
    dsimp only at e
    subst e
    exact ⟨_, _, _, _, _, _, _, _, _, rfl⟩
  · cases u
theorem c9_false_e (w : World) (os : OsState) : segRunT treeTable pw (w.withFollow "special-get-raises" false) 11 (some (.ref 6)) 1 27 (sT (T_c26_3724 (w.withFollow "special-get-raises" false).params) 206 707 os) (thr2 (w.withFollow "special-get-raises" false) os) = some (.next, (sT (T_p26 (w.withFollow "special-get-raises" false).params) 208 708 os), cE, ⟨79, 0, 79, 6⟩) := by
  rw [thr2_eq, thr1_eq]; rw [PySem.W.Fast.te10110043849684766642, PySem.W.Fast.te14364793385576792824]; kernel_rfl
theorem c9_false (w : World) (os : OsState) : segRun treeTable pw (w.withFollow "special-get-raises" false) 11 (some (.ref 6)) 1 3751 (sT (T_p25 (w.withFollow "special-get-raises" false).params) 197 508 os).abs (piecesOf sts26_26 env0 cE ⟨77, 0, 78, 30⟩ topF) = some (.next, (sT (T_p26 (w.withFollow "special-get-raises" false).params) 208 708 os).abs, cE, ⟨79, 0, 79, 6⟩) := by
  have z := segRun_of (c9_false_e w os)
  obtain ⟨k, h, g, l, cd, p, kept, f, r, e⟩ := thr2_false w os
  rw [e] at z
  have z := seg_go (segGo_of (c9_false_28 w os k h g l cd p kept f r)) z
  have z := seg_go (segGo_of (c9_false_27 w os k h g l cd p kept f r)) z
  have z := seg_go (segGo_of (c9_false_26 w os k h g l cd p kept f r)) z
  have z := seg_go (segGo_of (c9_false_25 w os k h g l cd p kept f r)) z
  have z := seg_go (segGo_of (c9_false_24 w os k h g l cd p kept f r)) z
  have z := seg_go (segGo_of (c9_false_23 w os k h g l cd p kept f r)) z
  have z := seg_go (segGo_of (c9_false_22 w os k h g l cd p kept f r)) z
  have z := seg_go (segGo_of (c9_false_21 w os k h g l cd p kept f r)) z
  have z := seg_go (segGo_of (c9_false_20 w os k h g l cd p kept f r)) z
  have z := seg_go (segGo_of (c9_false_19 w os k h g l cd p kept f r)) z
  have z := seg_go (segGo_of (c9_false_18 w os k h g l cd p kept f r)) z
  have z := seg_go (segGo_of (c9_false_17 w os k h g l cd p kept f r)) z
  have z := seg_go (segGo_of (c9_false_16 w os k h g l cd p kept f r)) z
  have z := seg_go (segGo_of (c9_false_15 w os k h g l cd p kept f r)) z
  have z := seg_go (segGo_of (c9_false_14 w os k h g l cd p kept f r)) z
  have z := seg_go (segGo_of (c9_false_13 w os k h g l cd p kept f r)) z
  have z := seg_go (segGo_of (c9_false_12 w os k h g l cd p kept f r)) z
  have z := seg_go (segGo_of (c9_false_11 w os k h g l cd p kept f r)) z
  have z := seg_go (segGo_of (c9_false_10 w os k h g l cd p kept f r)) z
  have z := seg_go (segGo_of (c9_false_6 w os k h g l cd p kept f r)) z
  rw [← e] at z
  have z := seg_go (segGo_of (c9_false_5 w os)) z
  have z := seg_go (segGo_of (c9_false_4 w os)) z
  have z := seg_go (segGo_of (c9_false_3 w os)) z
  have z := seg_go (segGo_of (c9_false_2 w os)) z
  have z := seg_go (segGo_of (c9_false_1 w os)) z
  have z := seg_go (segGo_of (c9_false_0 w os)) z
  exact z
theorem c9_true_0 (w : World) (os : OsState) : segGoT treeTable pw (w.withFollow "special-get-raises" true) 11 (some (.ref 6)) 1 87 (sT (T_p25 (w.withFollow "special-get-raises" true).params) 197 508 os) (piecesOf sts26_26 env0 cE ⟨77, 0, 78, 30⟩ topF) = some ((sT (T_c26_87 (w.withFollow "special-get-raises" true).params) 201 514 os), (thr1 (w.withFollow "special-get-raises" true) os)) := by
  refine goes_of (s := (sT (T_c26_87 (w.withFollow "special-get-raises" true).params) 201 514 os)) ?_
  rw [PySem.W.Fast.te10295753902157049106, PySem.W.Fast.te14364793385576792824]; kernel_rfl
theorem c9_true_1 (w : World) (os : OsState) : segGoT treeTable pw (w.withFollow "special-get-raises" true) 11 (some (.ref 6)) 1 408 (sT (T_c26_87 (w.withFollow "special-get-raises" true).params) 201 514 os) (thr1 (w.withFollow "special-get-raises" true) os) = some ((sT (T_c26_495 (w.withFollow "special-get-raises" true).params) 201 538 os), (thr1 (w.withFollow "special-get-raises" true) os)) := by
  rw [thr1_eq]; rw [PySem.W.Fast.te10295753902157049106, PySem.W.Fast.te14364793385576792824]; kernel_rfl
theorem c9_true_2 (w : World) (os : OsState) : segGoT treeTable pw (w.withFollow "special-get-raises" true) 11 (some (.ref 6)) 1 408 (sT (T_c26_495 (w.withFollow "special-get-raises" true).params) 201 538 os) (thr1 (w.withFollow "special-get-raises" true) os) = some ((sT (T_c26_903 (w.withFollow "special-get-raises" true).params) 201 562 os), (thr1 (w.withFollow "special-get-raises" true) os)) := by
  rw [thr1_eq]; rw [PySem.W.Fast.te10295753902157049106, PySem.W.Fast.te14364793385576792824]; kernel_rfl
theorem c9_true_3 (w : World) (os : OsState) : segGoT treeTable pw (w.withFollow "special-get-raises" true) 11 (some (.ref 6)) 1 408 (sT (T_c26_903 (w.withFollow "special-get-raises" true).params) 201 562 os) (thr1 (w.withFollow "special-get-raises" true) os) = some ((sT (T_c26_1311 (w.withFollow "special-get-raises" true).params) 201 586 os), (thr1 (w.withFollow "special-get-raises" true) os)) := by
  rw [thr1_eq]; rw [PySem.W.Fast.te10295753902157049106, PySem.W.Fast.te14364793385576792824]; kernel_rfl
theorem c9_true_4 (w : World) (os : OsState) : segGoT treeTable pw (w.withFollow "special-get-raises" true) 11 (some (.ref 6)) 1 408 (sT (T_c26_1311 (w.withFollow "special-get-raises" true).params) 201 586 os) (thr1 (w.withFollow "special-get-raises" true) os) = some ((sT (T_c26_1719 (w.withFollow "special-get-raises" true).params) 201 610 os), (thr1 (w.withFollow "special-get-raises" true) os)) := by
  rw [thr1_eq]; rw [PySem.W.Fast.te10295753902157049106, PySem.W.Fast.te14364793385576792824]; kernel_rfl
theorem c9_true_5 (w : World) (os : OsState) : segGoT treeTable pw (w.withFollow "special-get-raises" true) 11 (some (.ref 6)) 1 161 (sT (T_c26_1719 (w.withFollow "special-get-raises" true).params) 201 610 os) (thr1 (w.withFollow "special-get-raises" true) os) = some ((sT (T_c26_1880 (w.withFollow "special-get-raises" true).params) 206 615 os), (thr2 (w.withFollow "special-get-raises" true) os)) := by
  refine goes_of (s := (sT (T_c26_1880 (w.withFollow "special-get-raises" true).params) 206 615 os)) ?_
  rw [thr1_eq]; rw [PySem.W.Fast.te10295753902157049106, PySem.W.Fast.te14364793385576792824]; kernel_rfl
theorem c9_true_6 (w : World) (os : OsState) (k : Result → Sem Fin) (h : Option Value) (g : Bool) (l : List Value) (cd : Code) (p : Pos) (kept : List Value) (f : Frame) (r : List Frame) : segGoT treeTable pw (w.withFollow "special-get-raises" true) 11 (some (.ref 6)) 1 322 (sT (T_c26_1880 (w.withFollow "special-get-raises" true).params) 206 615 os) ⟨denote treeTable CC, CC, ⟨79, 9, 79, 52⟩, .ret k h g l cd p kept :: f :: r⟩ = some ((sT (T_c26_2202 (w.withFollow "special-get-raises" true).params) 206 631 os), ⟨denote treeTable CC, CC, ⟨79, 9, 79, 52⟩, .ret k h g l cd p kept :: f :: r⟩) := by
  rw [PySem.W.Fast.te10295753902157049106, PySem.W.Fast.te11892475500146522536, PySem.W.Fast.te14364793385576792824]; kernel_rfl
theorem c9_true_10 (w : World) (os : OsState) (k : Result → Sem Fin) (h : Option Value) (g : Bool) (l : List Value) (cd : Code) (p : Pos) (kept : List Value) (f : Frame) (r : List Frame) : segGoT treeTable pw (w.withFollow "special-get-raises" true) 11 (some (.ref 6)) 1 80 (sT (T_c26_2202 (w.withFollow "special-get-raises" true).params) 206 631 os) ⟨denote treeTable CC, CC, ⟨79, 9, 79, 52⟩, .ret k h g l cd p kept :: f :: r⟩ = some ((sT (T_c26_2282 (w.withFollow "special-get-raises" true).params) 206 635 os), ⟨denote treeTable CC, CC, ⟨79, 9, 79, 52⟩, .ret k h g l cd p kept :: f :: r⟩) := by
  rw [PySem.W.Fast.te10295753902157049106, PySem.W.Fast.te11892475500146522536, PySem.W.Fast.te14364793385576792824]; kernel_rfl
theorem c9_true_11 (w : World) (os : OsState) (k : Result → Sem Fin) (h : Option Value) (g : Bool) (l : List Value) (cd : Code) (p : Pos) (kept : List Value) (f : Frame) (r : List Frame) : segGoT treeTable pw (w.withFollow "special-get-raises" true) 11 (some (.ref 6)) 1 80 (sT (T_c26_2282 (w.withFollow "special-get-raises" true).params) 206 635 os) ⟨denote treeTable CC, CC, ⟨79, 9, 79, 52⟩, .ret k h g l cd p kept :: f :: r⟩ = some ((sT (T_c26_2362 (w.withFollow "special-get-raises" true).params) 206 639 os), ⟨denote treeTable CC, CC, ⟨79, 9, 79, 52⟩, .ret k h g l cd p kept :: f :: r⟩) := by
  rw [PySem.W.Fast.te10295753902157049106, PySem.W.Fast.te11892475500146522536, PySem.W.Fast.te14364793385576792824]; kernel_rfl
theorem c9_true_12 (w : World) (os : OsState) (k : Result → Sem Fin) (h : Option Value) (g : Bool) (l : List Value) (cd : Code) (p : Pos) (kept : List Value) (f : Frame) (r : List Frame) : segGoT treeTable pw (w.withFollow "special-get-raises" true) 11 (some (.ref 6)) 1 80 (sT (T_c26_2362 (w.withFollow "special-get-raises" true).params) 206 639 os) ⟨denote treeTable CC, CC, ⟨79, 9, 79, 52⟩, .ret k h g l cd p kept :: f :: r⟩ = some ((sT (T_c26_2442 (w.withFollow "special-get-raises" true).params) 206 643 os), ⟨denote treeTable CC, CC, ⟨79, 9, 79, 52⟩, .ret k h g l cd p kept :: f :: r⟩) := by
  rw [PySem.W.Fast.te10295753902157049106, PySem.W.Fast.te11892475500146522536, PySem.W.Fast.te14364793385576792824]; kernel_rfl
theorem c9_true_13 (w : World) (os : OsState) (k : Result → Sem Fin) (h : Option Value) (g : Bool) (l : List Value) (cd : Code) (p : Pos) (kept : List Value) (f : Frame) (r : List Frame) : segGoT treeTable pw (w.withFollow "special-get-raises" true) 11 (some (.ref 6)) 1 80 (sT (T_c26_2442 (w.withFollow "special-get-raises" true).params) 206 643 os) ⟨denote treeTable CC, CC, ⟨79, 9, 79, 52⟩, .ret k h g l cd p kept :: f :: r⟩ = some ((sT (T_c26_2522 (w.withFollow "special-get-raises" true).params) 206 647 os), ⟨denote treeTable CC, CC, ⟨79, 9, 79, 52⟩, .ret k h g l cd p kept :: f :: r⟩) := by
  rw [PySem.W.Fast.te10295753902157049106, PySem.W.Fast.te11892475500146522536, PySem.W.Fast.te14364793385576792824]; kernel_rfl
theorem c9_true_14 (w : World) (os : OsState) (k : Result → Sem Fin) (h : Option Value) (g : Bool) (l : List Value) (cd : Code) (p : Pos) (kept : List Value) (f : Frame) (r : List Frame) : segGoT treeTable pw (w.withFollow "special-get-raises" true) 11 (some (.ref 6)) 1 80 (sT (T_c26_2522 (w.withFollow "special-get-raises" true).params) 206 647 os) ⟨denote treeTable CC, CC, ⟨79, 9, 79, 52⟩, .ret k h g l cd p kept :: f :: r⟩ = some ((sT (T_c26_2602 (w.withFollow "special-get-raises" true).params) 206 651 os), ⟨denote treeTable CC, CC, ⟨79, 9, 79, 52⟩, .ret k h g l cd p kept :: f :: r⟩) := by
  rw [PySem.W.Fast.te10295753902157049106, PySem.W.Fast.te11892475500146522536, PySem.W.Fast.te14364793385576792824]; kernel_rfl
theorem c9_true_15 (w : World) (os : OsState) (k : Result → Sem Fin) (h : Option Value) (g : Bool) (l : List Value) (cd : Code) (p : Pos) (kept : List Value) (f : Frame) (r : List Frame) : segGoT treeTable pw (w.withFollow "special-get-raises" true) 11 (some (.ref 6)) 1 80 (sT (T_c26_2602 (w.withFollow "special-get-raises" true).params) 206 651 os) ⟨denote treeTable CC, CC, ⟨79, 9, 79, 52⟩, .ret k h g l cd p kept :: f :: r⟩ = some ((sT (T_c26_2682 (w.withFollow "special-get-raises" true).params) 206 655 os), ⟨denote treeTable CC, CC, ⟨79, 9, 79, 52⟩, .ret k h g l cd p kept :: f :: r⟩) := by
  rw [PySem.W.Fast.te10295753902157049106, PySem.W.Fast.te11892475500146522536, PySem.W.Fast.te14364793385576792824]; kernel_rfl
theorem c9_true_16 (w : World) (os : OsState) (k : Result → Sem Fin) (h : Option Value) (g : Bool) (l : List Value) (cd : Code) (p : Pos) (kept : List Value) (f : Frame) (r : List Frame) : segGoT treeTable pw (w.withFollow "special-get-raises" true) 11 (some (.ref 6)) 1 80 (sT (T_c26_2682 (w.withFollow "special-get-raises" true).params) 206 655 os) ⟨denote treeTable CC, CC, ⟨79, 9, 79, 52⟩, .ret k h g l cd p kept :: f :: r⟩ = some ((sT (T_c26_2762 (w.withFollow "special-get-raises" true).params) 206 659 os), ⟨denote treeTable CC, CC, ⟨79, 9, 79, 52⟩, .ret k h g l cd p kept :: f :: r⟩) := by
  rw [PySem.W.Fast.te10295753902157049106, PySem.W.Fast.te11892475500146522536, PySem.W.Fast.te14364793385576792824]; kernel_rfl
theorem c9_true_17 (w : World) (os : OsState) (k : Result → Sem Fin) (h : Option Value) (g : Bool) (l : List Value) (cd : Code) (p : Pos) (kept : List Value) (f : Frame) (r : List Frame) : segGoT treeTable pw (w.withFollow "special-get-raises" true) 11 (some (.ref 6)) 1 80 (sT (T_c26_2762 (w.withFollow "special-get-raises" true).params) 206 659 os) ⟨denote treeTable CC, CC, ⟨79, 9, 79, 52⟩, .ret k h g l cd p kept :: f :: r⟩ = some ((sT (T_c26_2842 (w.withFollow "special-get-raises" true).params) 206 663 os), ⟨denote treeTable CC, CC, ⟨79, 9, 79, 52⟩, .ret k h g l cd p kept :: f :: r⟩) := by
  rw [PySem.W.Fast.te10295753902157049106, PySem.W.Fast.te11892475500146522536, PySem.W.Fast.te14364793385576792824]; kernel_rfl
theorem c9_true_18 (w : World) (os : OsState) (k : Result → Sem Fin) (h : Option Value) (g : Bool) (l : List Value) (cd : Code) (p : Pos) (kept : List Value) (f : Frame) (r : List Frame) : segGoT treeTable pw (w.withFollow "special-get-raises" true) 11 (some (.ref 6)) 1 80 (sT (T_c26_2842 (w.withFollow "special-get-raises" true).params) 206 663 os) ⟨denote treeTable CC, CC, ⟨79, 9, 79, 52⟩, .ret k h g l cd p kept :: f :: r⟩ = some ((sT (T_c26_2922 (w.withFollow "special-get-raises" true).params) 206 667 os), ⟨denote treeTable CC, CC, ⟨79, 9, 79, 52⟩, .ret k h g l cd p kept :: f :: r⟩) := by
  rw [PySem.W.Fast.te10295753902157049106, PySem.W.Fast.te11892475500146522536, PySem.W.Fast.te14364793385576792824]; kernel_rfl
theorem c9_true_19 (w : World) (os : OsState) (k : Result → Sem Fin) (h : Option Value) (g : Bool) (l : List Value) (cd : Code) (p : Pos) (kept : List Value) (f : Frame) (r : List Frame) : segGoT treeTable pw (w.withFollow "special-get-raises" true) 11 (some (.ref 6)) 1 80 (sT (T_c26_2922 (w.withFollow "special-get-raises" true).params) 206 667 os) ⟨denote treeTable CC, CC, ⟨79, 9, 79, 52⟩, .ret k h g l cd p kept :: f :: r⟩ = some ((sT (T_c26_3002 (w.withFollow "special-get-raises" true).params) 206 671 os), ⟨denote treeTable CC, CC, ⟨79, 9, 79, 52⟩, .ret k h g l cd p kept :: f :: r⟩) := by
  rw [PySem.W.Fast.te10295753902157049106, PySem.W.Fast.te11892475500146522536, PySem.W.Fast.te14364793385576792824]; kernel_rfl
theorem c9_true_20 (w : World) (os : OsState) (k : Result → Sem Fin) (h : Option Value) (g : Bool) (l : List Value) (cd : Code) (p : Pos) (kept : List Value) (f : Frame) (r : List Frame) : segGoT treeTable pw (w.withFollow "special-get-raises" true) 11 (some (.ref 6)) 1 80 (sT (T_c26_3002 (w.withFollow "special-get-raises" true).params) 206 671 os) ⟨denote treeTable CC, CC, ⟨79, 9, 79, 52⟩, .ret k h g l cd p kept :: f :: r⟩ = some ((sT (T_c26_3082 (w.withFollow "special-get-raises" true).params) 206 675 os), ⟨denote treeTable CC, CC, ⟨79, 9, 79, 52⟩, .ret k h g l cd p kept :: f :: r⟩) := by
  rw [PySem.W.Fast.te10295753902157049106, PySem.W.Fast.te11892475500146522536, PySem.W.Fast.te14364793385576792824]; kernel_rfl
theorem c9_true_21 (w : World) (os : OsState) (k : Result → Sem Fin) (h : Option Value) (g : Bool) (l : List Value) (cd : Code) (p : Pos) (kept : List Value) (f : Frame) (r : List Frame) : segGoT treeTable pw (w.withFollow "special-get-raises" true) 11 (some (.ref 6)) 1 80 (sT (T_c26_3082 (w.withFollow "special-get-raises" true).params) 206 675 os) ⟨denote treeTable CC, CC, ⟨79, 9, 79, 52⟩, .ret k h g l cd p kept :: f :: r⟩ = some ((sT (T_c26_3162 (w.withFollow "special-get-raises" true).params) 206 679 os), ⟨denote treeTable CC, CC, ⟨79, 9, 79, 52⟩, .ret k h g l cd p kept :: f :: r⟩) := by
  rw [PySem.W.Fast.te10295753902157049106, PySem.W.Fast.te11892475500146522536, PySem.W.Fast.te14364793385576792824]; kernel_rfl
theorem c9_true_22 (w : World) (os : OsState) (k : Result → Sem Fin) (h : Option Value) (g : Bool) (l : List Value) (cd : Code) (p : Pos) (kept : List Value) (f : Frame) (r : List Frame) : segGoT treeTable pw (w.withFollow "special-get-raises" true) 11 (some (.ref 6)) 1 80 (sT (T_c26_3162 (w.withFollow "special-get-raises" true).params) 206 679 os) ⟨denote treeTable CC, CC, ⟨79, 9, 79, 52⟩, .ret k h g l cd p kept :: f :: r⟩ = some ((sT (T_c26_3242 (w.withFollow "special-get-raises" true).params) 206 683 os), ⟨denote treeTable CC, CC, ⟨79, 9, 79, 52⟩, .ret k h g l cd p kept :: f :: r⟩) := by
  rw [PySem.W.Fast.te10295753902157049106, PySem.W.Fast.te11892475500146522536, PySem.W.Fast.te14364793385576792824]; kernel_rfl
theorem c9_true_23 (w : World) (os : OsState) (k : Result → Sem Fin) (h : Option Value) (g : Bool) (l : List Value) (cd : Code) (p : Pos) (kept : List Value) (f : Frame) (r : List Frame) : segGoT treeTable pw (w.withFollow "special-get-raises" true) 11 (some (.ref 6)) 1 82 (sT (T_c26_3242 (w.withFollow "special-get-raises" true).params) 206 683 os) ⟨denote treeTable CC, CC, ⟨79, 9, 79, 52⟩, .ret k h g l cd p kept :: f :: r⟩ = some ((sT (T_c26_3324 (w.withFollow "special-get-raises" true).params) 206 687 os), ⟨denote treeTable CC, CC, ⟨79, 9, 79, 52⟩, .ret k h g l cd p kept :: f :: r⟩) := by
  rw [PySem.W.Fast.te10295753902157049106, PySem.W.Fast.te11892475500146522536, PySem.W.Fast.te14364793385576792824]; kernel_rfl
theorem c9_true_24 (w : World) (os : OsState) (k : Result → Sem Fin) (h : Option Value) (g : Bool) (l : List Value) (cd : Code) (p : Pos) (kept : List Value) (f : Frame) (r : List Frame) : segGoT treeTable pw (w.withFollow "special-get-raises" true) 11 (some (.ref 6)) 1 80 (sT (T_c26_3324 (w.withFollow "special-get-raises" true).params) 206 687 os) ⟨denote treeTable CC, CC, ⟨79, 9, 79, 52⟩, .ret k h g l cd p kept :: f :: r⟩ = some ((sT (T_c26_3404 (w.withFollow "special-get-raises" true).params) 206 691 os), ⟨denote treeTable CC, CC, ⟨79, 9, 79, 52⟩, .ret k h g l cd p kept :: f :: r⟩) := by
  rw [PySem.W.Fast.te10295753902157049106, PySem.W.Fast.te11892475500146522536, PySem.W.Fast.te14364793385576792824]; kernel_rfl
theorem c9_true_25 (w : World) (os : OsState) (k : Result → Sem Fin) (h : Option Value) (g : Bool) (l : List Value) (cd : Code) (p : Pos) (kept : List Value) (f : Frame) (r : List Frame) : segGoT treeTable pw (w.withFollow "special-get-raises" true) 11 (some (.ref 6)) 1 80 (sT (T_c26_3404 (w.withFollow "special-get-raises" true).params) 206 691 os) ⟨denote treeTable CC, CC, ⟨79, 9, 79, 52⟩, .ret k h g l cd p kept :: f :: r⟩ = some ((sT (T_c26_3484 (w.withFollow "special-get-raises" true).params) 206 695 os), ⟨denote treeTable CC, CC, ⟨79, 9, 79, 52⟩, .ret k h g l cd p kept :: f :: r⟩) := by
  rw [PySem.W.Fast.te10295753902157049106, PySem.W.Fast.te11892475500146522536, PySem.W.Fast.te14364793385576792824]; kernel_rfl
theorem c9_true_26 (w : World) (os : OsState) (k : Result → Sem Fin) (h : Option Value) (g : Bool) (l : List Value) (cd : Code) (p : Pos) (kept : List Value) (f : Frame) (r : List Frame) : segGoT treeTable pw (w.withFollow "special-get-raises" true) 11 (some (.ref 6)) 1 80 (sT (T_c26_3484 (w.withFollow "special-get-raises" true).params) 206 695 os) ⟨denote treeTable CC, CC, ⟨79, 9, 79, 52⟩, .ret k h g l cd p kept :: f :: r⟩ = some ((sT (T_c26_3564 (w.withFollow "special-get-raises" true).params) 206 699 os), ⟨denote treeTable CC, CC, ⟨79, 9, 79, 52⟩, .ret k h g l cd p kept :: f :: r⟩) := by
  rw [PySem.W.Fast.te10295753902157049106, PySem.W.Fast.te11892475500146522536, PySem.W.Fast.te14364793385576792824]; kernel_rfl
theorem c9_true_27 (w : World) (os : OsState) (k : Result → Sem Fin) (h : Option Value) (g : Bool) (l : List Value) (cd : Code) (p : Pos) (kept : List Value) (f : Frame) (r : List Frame) : segGoT treeTable pw (w.withFollow "special-get-raises" true) 11 (some (.ref 6)) 1 80 (sT (T_c26_3564 (w.withFollow "special-get-raises" true).params) 206 699 os) ⟨denote treeTable CC, CC, ⟨79, 9, 79, 52⟩, .ret k h g l cd p kept :: f :: r⟩ = some ((sT (T_c26_3644 (w.withFollow "special-get-raises" true).params) 206 703 os), ⟨denote treeTable CC, CC, ⟨79, 9, 79, 52⟩, .ret k h g l cd p kept :: f :: r⟩) := by
  rw [PySem.W.Fast.te10295753902157049106, PySem.W.Fast.te11892475500146522536, PySem.W.Fast.te14364793385576792824]; kernel_rfl
theorem c9_true_28 (w : World) (os : OsState) (k : Result → Sem Fin) (h : Option Value) (g : Bool) (l : List Value) (cd : Code) (p : Pos) (kept : List Value) (f : Frame) (r : List Frame) : segGoT treeTable pw (w.withFollow "special-get-raises" true) 11 (some (.ref 6)) 1 80 (sT (T_c26_3644 (w.withFollow "special-get-raises" true).params) 206 703 os) ⟨denote treeTable CC, CC, ⟨79, 9, 79, 52⟩, .ret k h g l cd p kept :: f :: r⟩ = some ((sT (T_c26_3724 (w.withFollow "special-get-raises" true).params) 206 707 os), ⟨denote treeTable CC, CC, ⟨79, 9, 79, 52⟩, .ret k h g l cd p kept :: f :: r⟩) := by
  rw [PySem.W.Fast.te10295753902157049106, PySem.W.Fast.te11892475500146522536, PySem.W.Fast.te14364793385576792824]; kernel_rfl
theorem up_true (w : World) (os : OsState) : twoUp (thr2 (w.withFollow "special-get-raises" true) os) = true := by
  rw [thr2_eq, thr1_eq]; kernel_rfl
theorem at_true (w : World) (os : OsState) : (thr2 (w.withFollow "special-get-raises" true) os).cur = denote treeTable CC ∧ (thr2 (w.withFollow "special-get-raises" true) os).code = CC ∧ (thr2 (w.withFollow "special-get-raises" true) os).pos = ⟨79, 9, 79, 52⟩ := by
  rw [thr2_eq, thr1_eq, PySem.W.Fast.te11892475500146522536, PySem.W.Fast.te14364793385576792824]
  refine ⟨?_, ?_, ?_⟩ <;> kernel_rfl
theorem thr2_true (w : World) (os : OsState) : ∃ k h g l cd p kept f r, (thr2 (w.withFollow "special-get-raises" true) os) = ⟨denote treeTable CC, CC, ⟨79, 9, 79, 52⟩, .ret k h g l cd p kept :: f :: r⟩ := by
  have u := up_true w os
  obtain ⟨a, b, c⟩ := at_true w os
  revert u a b c
  generalize (thr2 (w.withFollow "special-get-raises" true) os) = t
  obtain ⟨x, y, z, st⟩ := t
  intro u a b c
  dsimp only at a b c
  subst a b c
  unfold twoUp at u
  split at u
  · rename_i e
    dsimp only at e
    subst e
    exact ⟨_, _, _, _, _, _, _, _, _, rfl⟩
  · cases u
theorem c9_true_e (w : World) (os : OsState) : segRunT treeTable pw (w.withFollow "special-get-raises" true) 11 (some (.ref 6)) 1 27 (sT (T_c26_3724 (w.withFollow "special-get-raises" true).params) 206 707 os) (thr2 (w.withFollow "special-get-raises" true) os) = some (.next, (sT (T_p26 (w.withFollow "special-get-raises" true).params) 208 708 os), cE, ⟨79, 0, 79, 6⟩) := by
  rw [thr2_eq, thr1_eq]; rw [PySem.W.Fast.te10110043849684766642, PySem.W.Fast.te14364793385576792824]; kernel_rfl
theorem c9_true (w : World) (os : OsState) : segRun treeTable pw (w.withFollow "special-get-raises" true) 11 (some (.ref 6)) 1 3751 (sT (T_p25 (w.withFollow "special-get-raises" true).params) 197 508 os).abs (piecesOf sts26_26 env0 cE ⟨77, 0, 78, 30⟩ topF) = some (.next, (sT (T_p26 (w.withFollow "special-get-raises" true).params) 208 708 os).abs, cE, ⟨79, 0, 79, 6⟩) := by
  have z := segRun_of (c9_true_e w os)
  obtain ⟨k, h, g, l, cd, p, kept, f, r, e⟩ := thr2_true w os
  rw [e] at z
  have z := seg_go (segGo_of (c9_true_28 w os k h g l cd p kept f r)) z
  have z := seg_go (segGo_of (c9_true_27 w os k h g l cd p kept f r)) z
  have z := seg_go (segGo_of (c9_true_26 w os k h g l cd p kept f r)) z
  have z := seg_go (segGo_of (c9_true_25 w os k h g l cd p kept f r)) z
  have z := seg_go (segGo_of (c9_true_24 w os k h g l cd p kept f r)) z
  have z := seg_go (segGo_of (c9_true_23 w os k h g l cd p kept f r)) z
  have z := seg_go (segGo_of (c9_true_22 w os k h g l cd p kept f r)) z
  have z := seg_go (segGo_of (c9_true_21 w os k h g l cd p kept f r)) z
  have z := seg_go (segGo_of (c9_true_20 w os k h g l cd p kept f r)) z
  have z := seg_go (segGo_of (c9_true_19 w os k h g l cd p kept f r)) z
  have z := seg_go (segGo_of (c9_true_18 w os k h g l cd p kept f r)) z
  have z := seg_go (segGo_of (c9_true_17 w os k h g l cd p kept f r)) z
  have z := seg_go (segGo_of (c9_true_16 w os k h g l cd p kept f r)) z
  have z := seg_go (segGo_of (c9_true_15 w os k h g l cd p kept f r)) z
  have z := seg_go (segGo_of (c9_true_14 w os k h g l cd p kept f r)) z
  have z := seg_go (segGo_of (c9_true_13 w os k h g l cd p kept f r)) z
  have z := seg_go (segGo_of (c9_true_12 w os k h g l cd p kept f r)) z
  have z := seg_go (segGo_of (c9_true_11 w os k h g l cd p kept f r)) z
  have z := seg_go (segGo_of (c9_true_10 w os k h g l cd p kept f r)) z
  have z := seg_go (segGo_of (c9_true_6 w os k h g l cd p kept f r)) z
  rw [← e] at z
  have z := seg_go (segGo_of (c9_true_5 w os)) z
  have z := seg_go (segGo_of (c9_true_4 w os)) z
  have z := seg_go (segGo_of (c9_true_3 w os)) z
  have z := seg_go (segGo_of (c9_true_2 w os)) z
  have z := seg_go (segGo_of (c9_true_1 w os)) z
  have z := seg_go (segGo_of (c9_true_0 w os)) z
  exact z
theorem g26_26 (w : World) (os : OsState) : segRun treeTable pw w 11 (some (.ref 6)) 1 3751 (sT (T_p25 w.params) 197 508 os).abs (piecesOf sts26_26 env0 cE ⟨77, 0, 78, 30⟩ topF) = some (.next, (sT (T_p26 w.params) 208 708 os).abs, cE, ⟨79, 0, 79, 6⟩) :=
  byRow2 "special-get-raises" (P := fun w => ∀ os, segRun treeTable pw w 11 (some (.ref 6)) 1 3751 (sT (T_p25 w.params) 197 508 os).abs (piecesOf sts26_26 env0 cE ⟨77, 0, 78, 30⟩ topF) = some (.next, (sT (T_p26 w.params) 208 708 os).abs, cE, ⟨79, 0, 79, 6⟩)) (fun w os => c9_false w os) (fun w os => c9_true w os) w os
end
end
section
open PySem PySem.W PySem.Calls PyProof.Rows
noncomputable section
theorem pre0 (w : World) (os : OsState) : topGo treeTable pw w 11 (some (.ref 6)) 12 ⟨boot_heap w.params, Array.mk [], boot_drawn, boot_toks, os⟩ (topStub pw) = some ((sT (T_block w.params) 15 187 os).abs, ⟨denote treeTable cE, cE, ⟨0, 0, 0, 0⟩, topF⟩) := by
  rw [PySem.W.Fast.te15667345088766844465, PySem.W.Fast.te11892475500146522536, PySem.W.Fast.te14364793385576792824]; kernel_rfl
theorem block0 (w : World) (os : OsState) : segRun treeTable pw w 11 (some (.ref 6)) 1 1 (sT (T_block w.params) 15 187 os).abs (blockOf (behindTheImports pw) env0 cE ⟨0, 0, 0, 0⟩ topF) = some (.next, (sT (T_block w.params) 15 187 os).abs, cE, ⟨0, 0, 0, 0⟩) := by
  kernel_rfl
theorem fin0 (w : World) (os : OsState) : topRun treeTable pw w 11 (some (.ref 6)) 2 (sT (T_p45 w.params) 324 856 os).abs ⟨doneF .next, cE, ⟨162, 0, 181, 87⟩, topF⟩ = some ⟨finH w.params, Array.mk [], {}, 856, os⟩ := by
  kernel_rfl
theorem body_is : behindTheImports pw = sts0_11 ++ (sts12_13 ++ (sts14_15 ++ (sts16_16 ++ (sts17_19 ++ (sts20_20 ++ (sts21_21 ++ (sts22_22 ++ (sts23_23 ++ (sts24_24 ++ (sts25_25 ++ (sts26_26 ++ (sts27_45 ++ ([]))))))))))))) := by kernel_rfl
theorem run0 (w : World) (os : OsState) : topRun treeTable pw w 11 (some (.ref 6)) 7596 ⟨boot_heap w.params, Array.mk [], boot_drawn, boot_toks, os⟩ (topStub pw) = some ⟨finH w.params, Array.mk [], {}, 856, os⟩ := by
  have k := fin0 w os
  have k := piece_app (segRun_of (g27_45 w os)) (rest := []) k
  have k := piece_app ((g26_26 w os)) (rest := sts27_45 ++ ([])) k
  have k := piece_app (segRun_of (g25_25 w os)) (rest := sts26_26 ++ (sts27_45 ++ ([]))) k
  have k := piece_app (segRun_of (g24_24 w os)) (rest := sts25_25 ++ (sts26_26 ++ (sts27_45 ++ ([])))) k
  have k := piece_app (segRun_of (g23_23 w os)) (rest := sts24_24 ++ (sts25_25 ++ (sts26_26 ++ (sts27_45 ++ ([]))))) k
  have k := piece_app (segRun_of (g22_22 w os)) (rest := sts23_23 ++ (sts24_24 ++ (sts25_25 ++ (sts26_26 ++ (sts27_45 ++ ([])))))) k
  have k := piece_app (segRun_of (g21_21 w os)) (rest := sts22_22 ++ (sts23_23 ++ (sts24_24 ++ (sts25_25 ++ (sts26_26 ++ (sts27_45 ++ ([]))))))) k
  have k := piece_app (segRun_of (g20_20 w os)) (rest := sts21_21 ++ (sts22_22 ++ (sts23_23 ++ (sts24_24 ++ (sts25_25 ++ (sts26_26 ++ (sts27_45 ++ ([])))))))) k
  have k := piece_app (segRun_of (g17_19 w os)) (rest := sts20_20 ++ (sts21_21 ++ (sts22_22 ++ (sts23_23 ++ (sts24_24 ++ (sts25_25 ++ (sts26_26 ++ (sts27_45 ++ ([]))))))))) k
  have k := piece_app (segRun_of (g16_16 w os)) (rest := sts17_19 ++ (sts20_20 ++ (sts21_21 ++ (sts22_22 ++ (sts23_23 ++ (sts24_24 ++ (sts25_25 ++ (sts26_26 ++ (sts27_45 ++ ([])))))))))) k
  have k := piece_app (segRun_of (g14_15 w os)) (rest := sts16_16 ++ (sts17_19 ++ (sts20_20 ++ (sts21_21 ++ (sts22_22 ++ (sts23_23 ++ (sts24_24 ++ (sts25_25 ++ (sts26_26 ++ (sts27_45 ++ ([]))))))))))) k
  have k := piece_app (segRun_of (g12_13 w os)) (rest := sts14_15 ++ (sts16_16 ++ (sts17_19 ++ (sts20_20 ++ (sts21_21 ++ (sts22_22 ++ (sts23_23 ++ (sts24_24 ++ (sts25_25 ++ (sts26_26 ++ (sts27_45 ++ ([])))))))))))) k
  have k := piece_app (segRun_of (g0_11 w os)) (rest := sts12_13 ++ (sts14_15 ++ (sts16_16 ++ (sts17_19 ++ (sts20_20 ++ (sts21_21 ++ (sts22_22 ++ (sts23_23 ++ (sts24_24 ++ (sts25_25 ++ (sts26_26 ++ (sts27_45 ++ ([]))))))))))))) k
  rw [← body_is] at k
  have k := piece_block (block0 w os) k
  exact go_top (pre0 w os) k
end
end
section
open PySem PySem.W PySem.Calls PyProof.Rows
noncomputable section
noncomputable abbrev rr : OpenRow := PySem.Challenge.rw_yf0010_01.row
noncomputable def asK : List Addr := [2, 3, 15, 17, 18, 20, 21, 22, 24, 25, 27, 28, 29, 31, 32, 34, 35, 36, 38, 39, 41, 42, 43, 45, 46, 48, 49, 50, 52, 53, 55, 56, 57, 59, 60, 62, 63, 64, 66, 67, 69, 70, 71, 73, 74, 76, 77, 78, 80, 81, 83, 84, 85, 92, 93, 94, 95, 98, 105, 106, 107, 110, 112, 113, 115, 116, 124, 128, 130, 131, 133, 134, 135, 137, 138, 140, 141, 142, 144, 145, 147, 148, 150, 154, 156, 157, 159, 160, 162, 166, 168, 169, 171, 172, 186, 190, 192, 193, 195, 196, 204, 208, 210, 211, 213, 214, 215, 217, 218, 220, 221, 222, 225, 226, 227, 230, 231, 232, 234, 235, 237, 238, 239, 241, 242, 244, 245, 246, 248, 249, 251, 252, 253, 255, 256, 258, 259, 260, 262, 263, 265, 266, 267, 269, 270, 272, 273, 274, 276, 277, 279, 280, 281, 284, 285, 286, 288, 289, 291, 292, 293, 295, 296, 298, 299, 300, 302, 303, 305, 306, 307, 309, 310, 312, 313, 314, 317, 318, 319, 322, 323]
noncomputable def xtK (s : Shared) : Bool := xlAt qv [] s && recOk (RowW.records rr.toRowW) s
noncomputable abbrev endS (w : World) (os : OsState) : Shared := ⟨finH w.params, Array.mk [], {}, 856, os⟩
theorem look_a (w : World) (os : OsState) : (staticsOk (importedModules PySem.Challenge.pw_yf0010_01.main.body) (boot_heap w.params) (finH w.params) && namesBound pw (finH w.params) && gensDone (endS w os) && laidKept (boot_heap w.params) (finH w.params)) = true := by
  rw [PySem.W.Fast.te5923862056798008813]; kernel_rfl
theorem look_b (w : World) (os : OsState) : seen ((recsOf qv).map (·.name)) (ownsOf qv) [] { endS w os with gens := #[] } = expectedOf qv := by
  rw [PySem.W.Fast.te5160383126252970620, PySem.W.Fast.te3399658132070893891, PySem.W.Fast.te5991557255702980513]; kernel_rfl
theorem look_c (w : World) (os : OsState) : (endS w os).heap.bltView = bltViewBooted := by
  kernel_rfl
theorem look_d (w : World) (os : OsState) : ((endS w os).heap.keysOk (looseW qv loose) ((recsOf qv).map (·.name)) ((litsOf qv).map (·.1)) ((clssOf qv (looseW qv loose)).map (·.name)) && (endS w os).heap.accountedOkI (importedModules PySem.Challenge.pw_yf0010_01.main.body) && (endS w os).heap.isNs mainGlobals && (endS w os).heap.isNs builtinsNs && tablesOk qv (endS w os).heap && xtK (endS w os) && (endS w os).gens.size == 0) = true := by
  rw [PySem.W.Fast.te10880121769531294198, PySem.W.Fast.te821141287760084731, PySem.W.Fast.te3399658132070893891, PySem.W.Fast.te7409074990110511671, PySem.W.Fast.te13664370479719496447, PySem.W.Fast.te14722251495701143533, PySem.W.Fast.te10994771534591457954, PySem.W.Fast.te5923862056798008813]; kernel_rfl
theorem look_e (w : World) (os : OsState) : tabsOk qv (endS w os) = true := by
  rw [PySem.W.Fast.te479339242167458305]; kernel_rfl
theorem look_f (w : World) (os : OsState) : pinSeenD qv (drecsOf qv) (endS w os) = pinGoodD (drecsOf qv) := by
  rw [PySem.W.Fast.te16090120013241838585, PySem.W.Fast.te3247288618530077131]; kernel_rfl
theorem look_g (w : World) (os : OsState) : plainSeenE qv (looseW qv loose) (endS w os) = plainGoodE qv (looseW qv loose) := by
  rw [PySem.W.Fast.te2386780881361962483, PySem.W.Fast.te821141287760084731]; kernel_rfl
theorem look_h (w : World) (os : OsState) : plainSeenD qv loose (endS w os) = plainGoodD qv loose := by
  rw [PySem.W.Fast.te11698064438423848299]; kernel_rfl
theorem look_i (w : World) (os : OsState) : wideSeen qv (endS w os) = wideGood qv := by
  rw [PySem.W.Fast.te7317090234206586261]; kernel_rfl
theorem look_j (w : World) (os : OsState) : clsSeenW qv loose (endS w os) = clsGoodW qv loose := by
  rw [PySem.W.Fast.te7369524293546568484]; kernel_rfl
theorem look_k (w : World) (os : OsState) : asK.map (endS w os).heap.get? = (K w.params).map fun p => some p.2 := by
  kernel_rfl
theorem look_l (w : World) : ((boot_heap w.params).isNs mainGlobals && (Array.mk ([] : List GenState)).size == 0, (boot_heap w.params).objs.size, (boot_heap w.params).nsMap mainGlobals "__annotations__") = (true, 11, some (.ref 6)) := by
  rw [PySem.W.Fast.te8920871248978507458]; kernel_rfl
theorem look_m : opening pw = plainProg pw.main.scope.names := by rfl
theorem look_n (s : Shared) : fenceModules? pw s = some s := by rfl
theorem look_o (P : Params) : asK = (K P).map (·.1) := by kernel_rfl
end
end
section
open PySem PySem.W PySem.Calls PyProof.Rows
noncomputable section
noncomputable def HK : Hook := kHook K asK look_o
theorem leftO : LeftO rr.prog qv loose xtK HK.obs HK.val 15262 := by
  show LeftO PySem.Challenge.pw_yf0010_01 qv loose xtK (fun s => asK.map s.heap.get?) (fun w => (K w.params).map fun p => some p.2) 15262
  refine LeftO.of_pieces (H₀ := boot_heap) (H₁ := finH) (gs₀ := Array.mk []) (gs₁ := Array.mk []) (d₀ := boot_drawn) (d₁ := {}) (k₀ := boot_toks) (k₁ := 856) (m₀ := 11) (ann := some (.ref 6)) (M := 7596) (boot_open look_m (by decide) look_n) look_l run0 (by decide) fun w => ?_
  funext os
  refine looks_pair (look_a w os) (looks_pair ?_ (look_k w os))
  unfold openSeen openGood
  exact looks_pair (look_b w os) (looks_pair (look_c w os) (looks_pair (look_d w os) (looks_pair (look_e w os) (looks_pair (look_f w os) (looks_pair (look_g w os) (looks_pair (look_h w os) (looks_pair (look_i w os) (look_j w os))))))))
end
end
section
open PySem PySem.W PySem.Calls PyProof.Rows PySem.Spec
/-- the exception that is being handled has no context -/
noncomputable def Calm (h : Heap) (e : Addr) : Prop := ∃ o ws, h.get? e = some o ∧ o.data = .fields ws ∧ ws[2]? = some .none
theorem Calm.keeps {h h' : Heap} {e : Addr} (x : Calm h e) (k : ∀ b o, h.get? b = some o → h'.get? b = some o) : Calm h' e := by
  obtain ⟨o, ws, e1, r⟩ := x
  exact ⟨o, ws, k _ _ e1, r⟩
theorem Calm.lt {h : Heap} {e : Addr} (c : Calm h e) : @LT.lt Nat instLTNat e h.objs.size := by
  obtain ⟨o, ws, he, _⟩ := c
  exact Heap.lt_size he
noncomputable def CalmO (o : Obj) : Prop := ∃ ws, o.data = .fields ws ∧ ws[2]? = some .none
/-- a tree that calls nothing and turns no record's third field -/
noncomputable def Gentle {α : Type} : Sem α → Prop
  | .pure _ => True
  | .raise _ => True
  | .unsupported _ => True
  | .rule _ k => Gentle (k ())
  | .at _ k => Gentle (k ())
  | .load _ _ k => ∀ o, Gentle (k o)
  | .update _ _ f k => (∀ o, CalmO o → CalmO (f o)) ∧ Gentle (k ())
  | .loadIfAlive _ k => ∀ o, Gentle (k o)
  | .point _ k => Gentle (k ())
  | .alloc _ k => ∀ a, Gentle (k a)
  | .fresh k => ∀ t, Gentle (k t)
  | .ask k => ∀ q, Gentle (k q)
  | .handled _ k => ∀ o, Gentle (k o)
  | .stack k => ∀ l, Gentle (k l)
  | _ => False
theorem Gentle.bind {α β : Type} {f : α → Sem β} (hf : ∀ a, Gentle (f a)) : ∀ {t : Sem α}, Gentle t → Gentle (t.bind f) := by
  intro t
  induction t with
  | pure a => intro _; exact hf a
  | raise e => intro _; trivial
  | unsupported _ => intro _; trivial
  | rule _ k ih => intro h; exact ih () h
  | «at» _ k ih => intro h; exact ih () h
  | load a _ k ih => intro h o; exact ih o (h o)
  | update a _ g k ih => intro h; exact ⟨h.1, ih () h.2⟩
  | loadIfAlive a k ih => intro h o; exact ih o (h o)
  | point _ k ih => intro h; exact ih () h
  | alloc o k ih => intro h a; exact ih a (h a)
  | fresh k ih => intro h a; exact ih a (h a)
  | ask k ih => intro h a; exact ih a (h a)
  | handled _ k ih => intro h a; exact ih a (h a)
  | stack k ih => intro h a; exact ih a (h a)
  | _ => intro h; exact h.elim
theorem Calm.update {h : Heap} {e a : Addr} {f : Obj → Obj} (c : Calm h e) (hf : ∀ o, CalmO o → CalmO (f o)) : Calm (h.update a f) e := by
  obtain ⟨o, ws, ho, hd, h2⟩ := c
  by_cases q : a = e
  · subst q
    obtain ⟨ws', hd', h2'⟩ := hf o ⟨ws, hd, h2⟩
    exact ⟨_, ws', Heap.get?_update_self f ho (Obj.isFreed_of_fields hd'), hd', h2'⟩
  · exact ⟨o, ws, (Heap.get?_update_other _ _ q).trans ho, hd, h2⟩
theorem wp_gentle {α : Type} (M : Model) (Γ : PySem.Ctx) (e : Addr) (t : Sem α) : ∀ (Q : α → Pos → Shared → Prop) (E : Value → Pos → Shared → Prop) (p : Pos) (s : Shared), Gentle t → Calm s.heap e → Sem.wp M Γ t Q E p s →
    Sem.wp M Γ t (fun a p' s' => Calm s'.heap e ∧ Q a p' s') (fun v p' s' => Calm s'.heap e ∧ E v p' s') p s := by
  induction t with
  | pure a => intro Q E p s _ c h; exact ⟨c, h⟩
  | raise a => intro Q E p s _ c h; exact ⟨c, h⟩
  | unsupported _ => intro Q E p s _ _ h; exact h
  | rule _ k ih => intro Q E p s g c h; exact ih () Q E p s g c h
  | «at» p' k ih => intro Q E p s g c h; exact ih () Q E p' s g c h
  | load a _ k ih => intro Q E p s g c h; obtain ⟨o, ho, h⟩ := h; exact ⟨o, ho, ih o Q E p s (g o) c h⟩
  | update a _ f k ih => intro Q E p s g c h; exact ⟨h.1, ih () Q E p _ g.2 (c.update g.1) h.2⟩
  | loadIfAlive a k ih => intro Q E p s g c h; exact ih _ Q E p s (g _) c h
  | point _ k ih => intro Q E p s g c h; exact ih () Q E p s g c h
  | alloc o k ih => intro Q E p s g c h; exact ih _ Q E p _ (g _) (c.keeps fun b o e => Heap.get?_push_of_some _ e) h
  | fresh k ih => intro Q E p s g c h; exact ih _ Q E p _ (g _) c h
  | ask k ih => intro Q E p s g c h; exact ih _ Q E p s (g _) c h
  | handled own k ih => intro Q E p s g c h; exact ih _ Q E p s (g _) c h
  | stack k ih => intro Q E p s g c h; exact ih _ Q E p s (g _) c h
  | _ => intro Q E p s g; exact g.elim
theorem with_calm {α : Type} {M : Model} {A : Around} {s : Shared} {t : Sem α} {Q : α → Shared → Prop} {E : Value → Shared → Prop} {e : Addr} (g : Gentle t) (c : Calm s.heap e)
    (h : wpAny M A t (fun a s' => Calm s'.heap e → Q a s') (fun v s' => Calm s'.heap e → E v s') s) : wpAny M A t Q E s :=
  fun Γ p hΓ => Sem.wp_mono _ _ _ (fun _ _ _ x => x.2 x.1) (fun _ _ _ x => x.2 x.1) _ _ (wp_gentle M Γ e t _ _ p s g c (h Γ p hΓ))
theorem g_bind {α β : Type} {x : Sem α} {f : α → Sem β} (hx : Gentle x) (hf : ∀ a, Gentle (f a)) : Gentle (x >>= f) := Gentle.bind hf hx
theorem g_pure {α : Type} {a : α} : Gentle (pure a : Sem α) := trivial
theorem g_unsup {α : Type} {w : String} : Gentle (unsupported w : Sem α) := trivial
theorem calmO_set {i : Nat} {v : Value} (hi : i ≠ 2) : ∀ o, CalmO o → CalmO (Obj.mapFields (·.setIfInBounds i v) o) := by
  rintro o ⟨ws, hd, h2⟩
  refine ⟨_, Obj.data_mapFields hd _, ?_⟩
  rw [Array.getElem?_setIfInBounds_ne hi]
  exact h2
theorem g_load {a : Addr} : Gentle (load a) := fun _ => trivial
theorem g_stack : Gentle PySem.stack := fun _ => trivial
theorem g_update {a : Addr} {f : Obj → Obj} (hf : ∀ o, CalmO o → CalmO (f o)) : Gentle (update a f) := ⟨hf, trivial⟩
theorem g_fieldsOf {v : Value} : Gentle (fieldsOf v) := by
  unfold fieldsOf
  repeat' (first | exact g_pure | exact g_unsup | exact g_load | refine g_bind ?_ fun _ => ?_ | split)
theorem g_field {v : Value} {i : Nat} : Gentle (field v i) := by
  unfold field
  refine g_bind g_fieldsOf fun vs => ?_
  split <;> first | exact g_pure | exact g_unsup
theorem g_setField {v x : Value} {i : Nat} (hi : i ≠ 2) : Gentle (setField v i x) := by
  unfold setField updateField
  repeat' (first | exact g_pure | exact g_unsup | exact g_load | exact g_update (calmO_set hi) | refine g_bind ?_ fun _ => ?_ | split)
theorem g_setFlight {e : Value} {f : Option Addr} : Gentle (setFlight e f) := by
  unfold setFlight
  repeat' (first | exact g_pure | exact g_unsup | exact g_field | exact g_setField (by decide) | refine g_bind ?_ fun _ => ?_ | split)
theorem g_behind {env : Env} {outer : List Env} : Gentle (behindIsImport env outer) := by
  unfold behindIsImport
  repeat' (first | exact g_pure | exact g_unsup | exact g_field | refine g_bind ?_ fun _ => ?_ | split)
theorem g_kept {env : Env} {b : Bool} {l : List Env} : Gentle (keptBack env b l) := by
  unfold keptBack underTheClaimsCaller
  repeat' (first | exact g_pure | exact g_unsup | exact g_stack | refine g_bind ?_ fun _ => ?_ | split)
theorem g_ready : ∀ {l : List Env}, Gentle (readyFrames l)
  | [] => g_pure
  | env :: outer => by
    unfold readyFrames
    have ih := g_ready (l := outer)
    repeat' (first | exact g_pure | exact g_unsup | exact g_load | exact g_behind | exact g_kept | exact ih | (refine g_update ?_; rintro o ⟨ws, hd, h2⟩; exact ⟨ws, hd, h2⟩) | refine g_bind ?_ fun _ => ?_ | split)
theorem g_frameOf {env : Env} : Gentle (PySem.frameOf env) := by
  unfold PySem.frameOf frameEnvs
  refine g_bind (g_bind g_stack fun _ => g_pure) fun l => ?_
  refine g_bind ?_ fun o => ?_
  · unfold frameObject
    split
    · exact g_pure
    · exact g_bind g_ready fun _ => g_pure
  · split <;> first | exact g_pure | exact g_unsup
theorem g_place {f : Addr} {b : Bool} : Gentle (entryPlaceOf f b) := by
  unfold entryPlaceOf
  repeat' (first | exact g_pure | exact g_unsup | exact g_stack | refine g_bind ?_ fun _ => ?_ | split)
theorem g_newAs {t : String} {d : Data} {o : Option Addr} : Gentle (newObjAsIs (.type t) d o) := by
  unfold newObjAsIs
  exact g_bind (fun _ => trivial) fun _ => g_pure
theorem g_entry {a b c d e : Value} {l : List Value} : Gentle (EntryCells.newEntry a b c d e l) := by
  unfold EntryCells.newEntry newFields newObj
  repeat' (first | exact g_pure | exact g_unsup | exact g_newAs | refine g_bind ?_ fun _ => ?_ | split)
theorem g_noteFrame {e : Value} {env : Env} : Gentle (noteFrame e env) := by
  unfold noteFrame
  repeat' (first | exact g_pure | exact g_unsup | exact g_field | exact g_setField (by decide) | exact g_frameOf | exact g_place | exact g_entry | refine g_bind ?_ fun _ => ?_ | split)
theorem g_leaving {e : Value} {env : Env} : Gentle (leaving env e) := by
  unfold leaving
  exact g_bind g_noteFrame fun _ => g_setFlight
section
variable {M : Model} {A : Around} {E : Value → Shared → Prop} {s' : Shared} {base g h : Heap} {outer : List Env} {L a e : Addr} {m : Str → Option Value} {name : Str} {scope : Scope} {cd : Value} {Q : Unit → Shared → Prop} {news : List (Addr × Obj)}
theorem calm_made {cls : Value} {vs : List Value} {h' : Heap} (hx : Heap.MadeExcOf h h' e cls vs) : Calm h' e := by
  obtain ⟨t, he, _⟩ := hx.there
  exact ⟨_, _, he, rfl, rfl⟩
/-- a def's body raises: what leaves has no context -/
theorem leave_raiseC {cls : Value} {vs : List Value} (K : Below A base outer g) (hx : Heap.MadeExcOf h s'.heap e cls vs) (F : Fr g L h m) (N : News g L h news)
    (hQ : ∀ h' t, RaisedS base g outer e cls t vs news h' → Calm h' e → g.UpToSlots h' → Q () { s' with heap := h' }) (hk : scope.kind = .function := by rfl) :
    wpAny M (A.deeper (envOf name scope L a cd)) (leaving (envOf name scope L a cd) (.ref e)) Q E s' :=
  with_calm g_leaving (calm_made hx) (leave_raiseS K hx F N (fun h' t R _ U c => hQ h' t R c U) hk)
end
end
section
open PySem PySem.W PySem.Calls PyProof.Rows PySem.Spec
theorem lim0 {x b l : Nat} (h : x + b < l) : x < l := Nat.lt_of_le_of_lt (Nat.le_add_right x b) h
theorem lim1 {x a b l : Nat} (h : x + b < l) (e : Nat.ble a b = true) : x + a < l := Nat.lt_of_le_of_lt (Nat.add_le_add_left (Nat.le_of_ble_eq_true e) x) h
theorem lim2 {x c a b l : Nat} (h : x + b < l) (e : Nat.ble (c + a) b = true) : x + c + a < l := by
  rw [Nat.add_assoc]
  exact lim1 h e
theorem le_lim {x a b : Nat} (h : x ≤ a) (e : Nat.ble a b = true) : x ≤ b := Nat.le_trans h (Nat.le_of_ble_eq_true e)
noncomputable abbrev yTop (hd : Option Value) (dp un : Nat) (gd : Option (List Code)) (cn : Str) (cs : Scope) (L a : Addr) (ccd : Value) (cl : List (Str × Addr)) (outer : List Env) : Around :=
  { handled := hd, depth := dp, frames := some (envX cn cs L a ccd cl :: outer), guards := gd, units := un }
/-- a contract: a call of f upon vs, from any frame of a def; what is made (tl) and what comes back (r) are as Post says; where Err is met, it raises the text's own exception -/
noncomputable def Con (g : Bool) (T : Nat) (w : World) (D : Nat) (f : Addr) (vs : List Value) (news : List (Addr × Obj)) (Post : List (Addr × Obj) → Value → Prop) : Prop :=
  ∀ (mean : ExcName → Option Value) (mg mb : Str → Option Value) (hd : Option Value) (dp un : Nat) (gd : Option (List Code)) (cn : Str) (cs : Scope) (a : Addr) (ccd : Value) (cl : List (Str × Addr)) (outer : List Env) (A₀ : Around) (base h₀ : Heap) (L : Addr) (m : Str → Option Value) (s : Shared) (Q E : Value → Shared → Prop),
    Below A₀ base outer h₀ → Fr h₀ L s.heap m → (K w.params).In h₀ → News h₀ L s.heap news → Top qv loose mean mg mb h₀ → cs.kind = .function → (g = true ∨ hd = none) → T ≤ s.toks → dp + D < recursionLimit → un + 8 * D < cLine →
    (∀ (r : Value) (tl : List (Addr × Obj)) (h' : Heap) (tk' : Nat), Post tl r → (∀ p ∈ tl, ∀ q ∈ news, q.1 < p.1) → Fr h₀ L h' m → News h₀ L h' (tl ++ news) → Q r { s with heap := h', toks := tk' }) →
    wpAny (model pw w) (yTop hd dp un gd cn cs L a ccd cl outer) (call (.ref f) vs) Q E s
/-- the same where nothing that is made is told -/
noncomputable def ConV (g : Bool) (T : Nat) (w : World) (D : Nat) (f : Addr) (vs : List Value) (news : List (Addr × Obj)) (R : Tok → Value) : Prop :=
  ∀ (mean : ExcName → Option Value) (mg mb : Str → Option Value) (hd : Option Value) (dp un : Nat) (gd : Option (List Code)) (cn : Str) (cs : Scope) (a : Addr) (ccd : Value) (cl : List (Str × Addr)) (outer : List Env) (A₀ : Around) (base h₀ : Heap) (L : Addr) (m : Str → Option Value) (s : Shared) (Q E : Value → Shared → Prop),
    Below A₀ base outer h₀ → Fr h₀ L s.heap m → (K w.params).In h₀ → News h₀ L s.heap news → Top qv loose mean mg mb h₀ → cs.kind = .function → (g = true ∨ hd = none) → T ≤ s.toks → dp + D < recursionLimit → un + 8 * D < cLine →
    (∀ (t : Tok) (h' : Heap) (tk' : Nat), Fr h₀ L h' m → News h₀ L h' news → Q (R t) { s with heap := h', toks := tk' }) →
    wpAny (model pw w) (yTop hd dp un gd cn cs L a ccd cl outer) (call (.ref f) vs) Q E s
section
variable {g : Bool} {T : Nat} {w : World} {D : Nat} {f : Addr} {vs : List Value} {news : List (Addr × Obj)} {mean : ExcName → Option Value} {mg mb : Str → Option Value} {hd : Option Value} {dp un : Nat} {gd : Option (List Code)} {cn : Str} {cs : Scope} {a : Addr} {ccd : Value} {cl : List (Str × Addr)} {outer : List Env} {A₀ : Around} {base h₀ : Heap} {L : Addr} {m : Str → Option Value} {s : Shared} {Q E : Value → Shared → Prop}
theorem conV_use {R : Tok → Value} (C : ConV g T w D f vs news R) (B : Below A₀ base outer h₀) (F : Fr h₀ L s.heap m) (X : (K w.params).In h₀) (N : News h₀ L s.heap news) (Tp : Top qv loose mean mg mb h₀) (hk : cs.kind = .function) (hH : g = true ∨ hd = none) (hT : T ≤ s.toks) (hd1 : dp + D < recursionLimit) (hu : un + 8 * D < cLine)
    (ret : ∀ (t : Tok) (h' : Heap) (tk' : Nat), s.toks ≤ tk' → Fr h₀ L h' m → News h₀ L h' news → Q (R t) { s with heap := h', toks := tk' }) :
    wpAny (model pw w) (yTop hd dp un gd cn cs L a ccd cl outer) (call (.ref f) vs) Q E s :=
  wpAny_with_toks (Nat.le_refl _) (wpAny_mono (C _ _ _ _ _ _ _ _ _ _ _ _ _ _ _ _ _ _ _ (fun r s' => s.toks ≤ s'.toks → Q r s') (fun e s' => s.toks ≤ s'.toks → E e s') B F X N Tp hk hH hT hd1 hu fun t h' tk' F' N' hk' => ret t h' tk' hk' F' N') (fun _ _ x => x) fun _ _ x => x)
theorem con_use {Post : List (Addr × Obj) → Value → Prop} (C : Con g T w D f vs news Post) (B : Below A₀ base outer h₀) (F : Fr h₀ L s.heap m) (X : (K w.params).In h₀) (N : News h₀ L s.heap news) (Tp : Top qv loose mean mg mb h₀) (hk : cs.kind = .function) (hH : g = true ∨ hd = none) (hT : T ≤ s.toks) (hd1 : dp + D < recursionLimit) (hu : un + 8 * D < cLine)
    (ret : ∀ (r : Value) (tl : List (Addr × Obj)) (h' : Heap) (tk' : Nat), s.toks ≤ tk' → Post tl r → (∀ p ∈ tl, ∀ q ∈ news, q.1 < p.1) → Fr h₀ L h' m → News h₀ L h' (tl ++ news) → Q r { s with heap := h', toks := tk' }) :
    wpAny (model pw w) (yTop hd dp un gd cn cs L a ccd cl outer) (call (.ref f) vs) Q E s :=
  wpAny_with_toks (Nat.le_refl _) (wpAny_mono (C _ _ _ _ _ _ _ _ _ _ _ _ _ _ _ _ _ _ _ (fun r s' => s.toks ≤ s'.toks → Q r s') (fun e s' => s.toks ≤ s'.toks → E e s') B F X N Tp hk hH hT hd1 hu fun r tl h' tk' P' l' F' N' hk' => ret r tl h' tk' hk' P' l' F' N') (fun _ _ x => x) fun _ _ x => x)
theorem y_drop {news' : List (Addr × Obj)} {h : Heap} (N : News h₀ L h news') (hs : ∀ p ∈ news, p ∈ news') : News h₀ L h news := fun p hp => N p (hs p hp)
end
/-- the same where it raises an exception of cls, made of args -/
noncomputable def ConR (g : Bool) (T : Nat) (w : World) (D : Nat) (f : Addr) (vs : List Value) (news : List (Addr × Obj)) (cls : Value) (args : List Value) : Prop :=
  ∀ (mean : ExcName → Option Value) (mg mb : Str → Option Value) (hd : Option Value) (dp un : Nat) (gd : Option (List Code)) (cn : Str) (cs : Scope) (a : Addr) (ccd : Value) (cl : List (Str × Addr)) (outer : List Env) (A₀ : Around) (base h₀ : Heap) (L : Addr) (m : Str → Option Value) (s : Shared) (Q E : Value → Shared → Prop),
    Below A₀ base outer h₀ → Fr h₀ L s.heap m → (K w.params).In h₀ → News h₀ L s.heap news → Top qv loose mean mg mb h₀ → cs.kind = .function → (g = true ∨ hd = none) → T ≤ s.toks → dp + D < recursionLimit → un + 8 * D < cLine →
    (∀ (e t' : Addr) (g' h' : Heap) (tk' : Nat), Fr h₀ L g' m → g'.UpToSlots h' → RaisedS base g' (envX cn cs L a ccd cl :: outer) e cls t' args news h' → Calm h' e → E (.ref e) { s with heap := h', toks := tk' }) →
    wpAny (model pw w) (yTop hd dp un gd cn cs L a ccd cl outer) (call (.ref f) vs) Q E s
section
variable {g : Bool} {T : Nat} {w : World} {D : Nat} {f : Addr} {vs : List Value} {news : List (Addr × Obj)} {mean : ExcName → Option Value} {mg mb : Str → Option Value} {hd : Option Value} {dp un : Nat} {gd : Option (List Code)} {cn : Str} {cs : Scope} {a : Addr} {ccd : Value} {cl : List (Str × Addr)} {outer : List Env} {A₀ : Around} {base h₀ : Heap} {L : Addr} {m : Str → Option Value} {s : Shared} {Q E : Value → Shared → Prop}
theorem conR_use {cls : Value} {args : List Value} (C : ConR g T w D f vs news cls args) (B : Below A₀ base outer h₀) (F : Fr h₀ L s.heap m) (X : (K w.params).In h₀) (N : News h₀ L s.heap news) (Tp : Top qv loose mean mg mb h₀) (hk : cs.kind = .function) (hH : g = true ∨ hd = none) (hT : T ≤ s.toks) (hd1 : dp + D < recursionLimit) (hu : un + 8 * D < cLine)
    (ret : ∀ (e t' : Addr) (g' h' : Heap) (tk' : Nat), s.toks ≤ tk' → Fr h₀ L g' m → g'.UpToSlots h' → RaisedS base g' (envX cn cs L a ccd cl :: outer) e cls t' args news h' → Calm h' e → E (.ref e) { s with heap := h', toks := tk' }) :
    wpAny (model pw w) (yTop hd dp un gd cn cs L a ccd cl outer) (call (.ref f) vs) Q E s :=
  wpAny_with_toks (Nat.le_refl _) (wpAny_mono (C _ _ _ _ _ _ _ _ _ _ _ _ _ _ _ _ _ _ _ (fun r s' => s.toks ≤ s'.toks → Q r s') (fun e s' => s.toks ≤ s'.toks → E e s') B F X N Tp hk hH hT hd1 hu fun e t' g' h' tk' F' U' R' C' hk' => ret e t' g' h' tk' hk' F' U' R' C') (fun _ _ x => x) fun _ _ x => x)
theorem ord1 {x : Addr} {o : Obj} (h : ∀ p ∈ news, p.1 < x) : ∀ p ∈ [(x, o)], ∀ q ∈ news, q.1 < p.1 := by
  intro p hp q hq
  rw [List.mem_singleton] at hp
  subst hp
  exact h q hq
end
theorem item_mem {prog : Program} {w : World} {A : Around} {E : Value → Shared → Prop} {s : Shared} {h₀ : Heap} {L : Addr} {news : List (Addr × Obj)} {value slice : PySem.Expr} {l : Addr} {arr : Array Value} {n : Nat} {k : Int} {u : Tok} {v : Value} {Q : Value → Shared → Prop} (N : News h₀ L s.heap news) (hm : (l, W.listOf arr n) ∈ news) (h0 : 0 ≤ k) (hhi : k < 2 ^ 63) (hx : arr.toList[k.toNat]? = some v) (h : Q v s)
    (hs : subscripted slice false (.ref l) (.int k u) = operate [.ref l, .int k u] (getItem (.ref l) (.int k u)) := by with_unfolding_all rfl) :
    wpAny (model prog w) A (subscriptTail value slice (.ref l) (.int k u)) Q E s := by
  refine item_litK (vs := arr.toList) ?_ h0 hhi hx h hs
  have := News.isList (items := arr) (n := n) (d := none) (sl := #[]) N hm
  simpa using this
theorem allLt_all {d : Addr} : ∀ {l : List (Addr × Obj)}, AllLt d l → ∀ p ∈ l, p.1 < d
  | [], _, _, hp => nomatch hp
  | _ :: _, ⟨h, _⟩, _, .head _ => h
  | _ :: _, ⟨_, r⟩, _, .tail _ m => allLt_all r _ m
section
variable {h₀ h : Heap} {L : Addr} {news : List (Addr × Obj)} {a b c d e f : Addr × Obj}
theorem drop2 (N : News h₀ L h (a :: b :: news)) : News h₀ L h ([a] ++ news) := fun p hp => N p (by
  rcases List.mem_append.mp hp with hp | hp
  · rw [List.mem_singleton] at hp; subst hp; exact List.mem_cons_self
  · exact List.mem_cons_of_mem _ (List.mem_cons_of_mem _ hp))
theorem drop3 (N : News h₀ L h (a :: b :: c :: news)) : News h₀ L h ([a] ++ news) := drop2 (b := b) fun p hp => N p (by
  rcases List.mem_cons.mp hp with rfl | hp
  · exact List.mem_cons_self
  · rcases List.mem_cons.mp hp with rfl | hp
    · exact List.mem_cons_of_mem _ List.mem_cons_self
    · exact List.mem_cons_of_mem _ (List.mem_cons_of_mem _ (List.mem_cons_of_mem _ hp)))
end
theorem noBoth {b : Bool} (h : (b == true) = false) (h' : (b == false) = false) : False := by cases b <;> simp_all
noncomputable def Stop (p : Prop) : Prop := p
theorem stop_ {p : Prop} (h : Stop p) : p := h
theorem kfill : PySem.Challenge.rw_yf0010_01 = PySem.Challenge.rw_yf0010_01 ∧ K = K := by
  k_fill
  exact ⟨rfl, rfl⟩
end
open PySem PySem.W PySem.Calls PyProof.Rows PySem.Spec
local macro_rules | `(tactic| ktr_room) => `(tactic| k_extra "y_room")
local macro_rules | `(tactic| ktr_units) => `(tactic| k_extra "y_units")
local macro_rules | `(tactic| size_fits) => `(tactic| exact Nat.le_of_ble_eq_true rfl)
local macro_rules | `(tactic| walk_at $s:str) => `(tactic| k_extra $s)
section
/-- law's own walk, down from its body: it tells True -/
noncomputable def LawWalk : Prop := ∀ (w : World) (mean : ExcName → Option Value) (mg mb : Str → Option Value) (dp un : Nat) (gd : Option (List Code)) (L fa : Addr) (cdv : Value) (A₀ : Around) (h₀ : Heap) (sa : Addr) (vs : List Value) (ns : List Int) (o1 o2 o3 o4 : Obj) (s : Shared) (Q : Flow → Shared → Prop) (E : Value → Shared → Prop),
  Below A₀ h₀ [] h₀ → Fr h₀ L s.heap (fun y => if y = Str.ofString "script" then some (.ref sa) else none) → (K w.params).In h₀ → News h₀ L s.heap [(L + 1 + 1 + 1 + 1, o4), (L + 1 + 1 + 1, o3), (L + 1 + 1, o2), (L + 1, o1)] → o4.data = .cell none → o3.data = .cell none → o2.data = .cell none → o1.data = .cell none → Top qv loose mean mg mb h₀ → h₀.IsList sa vs.toArray → IntsAre vs ns → ns.length ≤ 63 → dp + 20 < recursionLimit → un + 200 < cLine →
  (∀ (h' : Heap) (tk' : Nat) (m' : Str → Option Value), Fr h₀ L h' m' → Q (.ret (.bool true)) { s with heap := h', toks := tk' }) →
  wpAny (model pw w) (yTop none dp un gd (Str.ofString "law") (fnScope (stAt 45)) L fa cdv (cellsFrom (L + 1) (fnScope (stAt 45)).names []) []) (execs (fnBody (stAt 45)) (envOfC (Str.ofString "law") (fnScope (stAt 45)) L fa cdv)) Q E s
theorem loose_is : looseW qv loose = loose := by decide +kernel
theorem both_true {a b : Bool} (x : a = true) (y : b = true) : (a && b) = true := by rw [x, y]; rfl
set_option maxHeartbeats 4000000 in
theorem well_said : PySem.Challenge.rw_yf0010_01.wellSaid = true := by
  unfold OpenLaw.wellSaid
  repeat refine both_true ?_ ?_
  all_goals decide +kernel
local macro_rules | `(tactic| k_qdec) => `(tactic| decide +kernel)
set_option maxHeartbeats 4000000 in
theorem claim_of (LW : LawWalk) : PySem.Challenge.rw_yf0010_01.Holds := by
  w_top off
  k_with_none
  k_with "y_room" => first | ((try simp only [depth_under_make, depth_under_kw, depth_in1, depth_deeper, depth_caller]); (try dsimp only [yTop]); first | exact lim2 (by assumption) rfl | exact lim1 (by assumption) rfl | exact lim0 (by assumption)) | ((try simp only [depth_under_make, depth_under_kw, depth_in1, depth_deeper, depth_caller] at *); (try dsimp only [yTop] at *); omega)
  k_with "y_units" => first | ((try simp only [units_in1, units_deeper, Around.mark_units, units_caller]); (try dsimp only [yTop]); first | exact lim2 (by assumption) rfl | exact lim1 (by assumption) rfl) | (have hcL9 := cLine_is; ((try simp only [units_in1, units_deeper, Around.mark_units, units_caller] at *); (try dsimp only [yTop] at *); omega))
  w_on
  refine holds_law well_said fun said => ?_
  refine holds_open (q := qv) (loose := loose) (Xt := xtK) (XP := XL qv []) (Yf := HK.obs) (Ya := HK.val) (YP := HK.says) (N := 15262) leftO HK.of HK.keeps (fun s e => xl_of s (Bool.and_eq_true_iff.mp e).1) XL.keeps (by rfl) (by rfl) (by rfl) (fun s e => recFacts_of (Bool.and_eq_true_iff.mp e).2) (by rfl) (by first | assumption | decide +kernel) (by decide +kernel) ⟨rfl, rfl, rfl, rfl, rfl, by decide +kernel⟩ ?hw ?hc
  case hw => w_witness2
  case hc =>
    intro w s₀ s₁ mg mb G Y fa o pm cd doc dV kV ho hd hcd hD hmg hg args vals as hpre hlay hrd hwl hlo
    have KX := kIn_of Y
    k_behind G ho hd hcd hD hmg hpre hlay hrd hwl hlo cd
    rename Top qv _ _ _ _ _ => T9
    have T8 : Top qv loose (ExcName.means s₀.heap) mg mb s₁.heap := by
      have := T9
      rwa [loose_is] at this
    refine LW w _ mg mb _ _ _ _ _ _ callerA s₁.heap _ _ _ _ _ _ _ _ _ _ (by assumption) (by assumption) (by assumption) (by assumption) (by assumption) (by assumption) (by assumption) (by assumption) T8 (by assumption) (by assumption) (by omega) (by decide) (by decide) ?fin
    intro h' tk' m' F'
    dsimp only
    clear LW
    first | wrow_close | (k_steps; done)
end
section
noncomputable def quat (p q : Int) : Int := if p = 0 ∨ q = 0 ∨ (q - p) % 3 = 1 then 1 else -1
noncomputable def two (x y : Int) : Int :=
  if x < 4 then quat x (y.fmod 4) * (if 4 ≤ y then (if x.fmod 4 = 0 then 1 else -1) else 1)
  else quat (y.fmod 4) (x.fmod 4) * (if 4 ≤ y then (if x.fmod 4 = 0 then -1 else 1) else 1)
noncomputable def turn (x y z : Int) : Int :=
  if x = 0 ∨ y = 0 ∨ z = 0 ∨ Builtin.bitXor x y = 0 ∨ Builtin.bitXor x z = 0 ∨ Builtin.bitXor y z = 0 ∨ Builtin.bitXor (Builtin.bitXor x y) z = 0 then 1 else -1
noncomputable def inS (l : List (Int × Tok)) (c : Int) : Bool := decide (c ∈ l.map (·.1))
noncomputable def inC4 (c : Int) : Bool := if c < 64976 then false else if c < 65008 then true else [65534, 65535].any fun x => x == Builtin.bitAnd c 65535
noncomputable def inC11 (c : Nat) : Bool := ({ cps := #[c] } : Str) == Str.ofString " "
/-- the seven tables' answers upon a sign's number -/
noncomputable def tab (c : Nat) : Nat → Bool
  | 0 => inS b1S c
  | 1 => inC11 c
  | 2 => inC4 c
  | 3 => inS c6S c
  | 4 => inS c7S c
  | 5 => inS c8S c
  | 6 => inS c9S c
  | _ => false
noncomputable def turnedZ (step p0 : Int) : Int := [0, 1, 0, 0, 0, 0, -1].getD ((step ^ p0.toNat).fmod 7).toNat 0
noncomputable def timesS (s1 u1 s2 u2 p0 : Int) : Int :=
  if u1 = 7 then s1 * s2 else if u2 = 7 then s1 * s2 else if u2 - u1 = 0 then -(s1 * s2) else s1 * s2 * turnedZ (u2 - u1) p0
noncomputable def timesU (u1 u2 p1 : Int) : Int :=
  if u1 = 7 then u2 else if u2 = 7 then u1 else if u2 - u1 = 0 then 7 else (4 * (u1 + u2) - (u2 - u1) ^ p1.toNat).fmod 7
theorem setOf_ints {pr : Program} {w : World} {h : Heap} {a : Addr} {l : List (Int × Tok)} {n : Nat} {t : SetTable} (ho : h.get? a = some ⟨.type "set", none, .set (ents l) n t, #[]⟩) (hh : ∀ p ∈ l, hashInt p.1 = p.1) (hs : l.length < scanBound) (hf : t.fits l.length = true) :
    h.SetOf (intKind pr w) a (fun k => inS l k) l.length := by
  refine ⟨_, _, _, _, ho, ⟨rfl, rfl, rfl⟩, rfl, ?_, ?_, ?_, ?_, ?_⟩
  · intro x hx
    simp only [ents, List.mem_map] at hx
    obtain ⟨p, hp, rfl⟩ := hx
    exact ⟨⟨p.1, intKind_is _ _ _ _, (hh p hp).symm⟩, rfl⟩
  · intro k
    simp only [inS, decide_eq_true_eq, List.mem_map, ents]
    constructor
    · rintro ⟨p, hp, rfl⟩
      exact ⟨_, ⟨p, hp, rfl⟩, intKind_is _ _ _ _⟩
    · rintro ⟨_, ⟨p, hp, rfl⟩, hk⟩
      refine ⟨p, hp, ?_⟩
      have := (intKind pr w).inj _ _ _ hk (intKind_is pr w p.1 p.2)
      exact this.symm
  · simpa [ents] using hs
  · simpa [ents] using hf
  · simp [ents]
theorem hash_b1 : ∀ p ∈ b1S, hashInt p.1 = p.1 := by decide +kernel
theorem hash_c6 : ∀ p ∈ c6S, hashInt p.1 = p.1 := by decide +kernel
theorem hash_c7 : ∀ p ∈ c7S, hashInt p.1 = p.1 := by decide +kernel
theorem hash_c8 : ∀ p ∈ c8S, hashInt p.1 = p.1 := by decide +kernel
theorem hash_c9 : ∀ p ∈ c9S, hashInt p.1 = p.1 := by decide +kernel
/-- the first of seven that is true; 7: none -/
noncomputable def fst7 (b0 b1 b2 b3 b4 b5 b6 : Bool) : Int := if b0 then 0 else if b1 then 1 else if b2 then 2 else if b3 then 3 else if b4 then 4 else if b5 then 5 else if b6 then 6 else 7
noncomputable def unitOf (c : Nat) : Int := fst7 (tab c 0) (tab c 1) (tab c 2) (tab c 3) (tab c 4) (tab c 5) (tab c 6)
section
variable {w : World} {h : Heap} (X : (K w.params).In h)
include X
theorem set_b1 : h.SetOf (intKind pw w) 124 (fun k => inS b1S k) b1S.length := setOf_ints (X 124 _ rfl) hash_b1 (by decide +kernel) (by rfl)
theorem set_c6 : h.SetOf (intKind pw w) 150 (fun k => inS c6S k) c6S.length := setOf_ints (X 150 _ rfl) hash_c6 (by decide +kernel) (by rfl)
theorem set_c7 : h.SetOf (intKind pw w) 162 (fun k => inS c7S k) c7S.length := setOf_ints (X 162 _ rfl) hash_c7 (by decide +kernel) (by rfl)
theorem set_c8 : h.SetOf (intKind pw w) 186 (fun k => inS c8S k) c8S.length := setOf_ints (X 186 _ rfl) hash_c8 (by decide +kernel) (by rfl)
theorem set_c9 : h.SetOf (intKind pw w) 204 (fun k => inS c9S k) c9S.length := setOf_ints (X 204 _ rfl) hash_c9 (by decide +kernel) (by rfl)
end
end
section
/-- what parse257 tells of a 257's part behind the first quotation mark -/
noncomputable def pScan : List Nat → List Nat
  | [] => []
  | c :: r => if c = 34 then (match r with
      | d :: r' => if d = 34 then 34 :: pScan r' else []
      | [] => []) else c :: pScan r
theorem pScan_plain {c : Nat} {r : List Nat} (h : c ≠ 34) : pScan (c :: r) = c :: pScan r := by
  cases r <;> simp [pScan, h]
noncomputable def MP (x : Str) (t1 : Tok) (n : Int) (tn : Tok) (i : Int) (ti : Tok) (d : Str) (td : Tok) (oc : Option Value) : Str → Option Value := fun y =>
  if y = Str.ofString "dirname" then some (.str d td) else if y = Str.ofString "i" then some (.int i ti) else if y = Str.ofString "n" then some (.int n tn) else if y = Str.ofString "resp" then some (.str x t1) else if y = Str.ofString "c" then oc else none
inductive JP (x : Str) (t1 : Tok) (news : List (Addr × Obj)) (tgt : List Nat) (n : Nat) (m₁ : Str → Option Value) (news₁ : List (Addr × Obj)) : Prop
  | mk (e : news₁ = news) (tn : Tok) (i : Nat) (iz : Int) (ti : Tok) (d : Str) (td : Tok) (oc : Option Value) (hm : m₁ = MP x t1 (x.length : Int) tn iz ti d td oc) (hz : iz = (i : Int)) (hi : i ≤ x.length) (hn : n = x.length - i) (ht : d.cps.toList ++ pScan (x.cps.toList.drop i) = tgt) (hd : d.length ≤ i)
theorem mp_start (x : Str) (t1 : Tok) (n : Int) (tn ti td : Tok) (d : Str) : (fun y => if y = Str.ofString "n" then some (Value.int n tn) else if y = Str.ofString "i" then some (Value.int 5 ti) else if y = Str.ofString "dirname" then some (Value.str d td) else List.lookup y [(Str.ofString "resp", Value.str x t1)].reverse) = MP x t1 n tn 5 ti d td none := by
  funext y
  simp only [MP, List.reverse_singleton, List.lookup_cons, List.lookup_nil]
  by_cases h1 : y = Str.ofString "n"
  · subst h1
    rw [if_pos rfl, if_neg (by decide), if_neg (by decide), if_pos rfl]
  by_cases h2 : y = Str.ofString "i"
  · subst h2
    rw [if_neg (by decide), if_pos rfl, if_neg (by decide), if_pos rfl]
  by_cases h3 : y = Str.ofString "dirname"
  · subst h3
    rw [if_neg (by decide), if_neg (by decide), if_pos rfl, if_pos rfl]
  rw [if_neg h1, if_neg h2, if_neg h3, if_neg h3, if_neg h2, if_neg h1]
  by_cases h4 : y = Str.ofString "resp"
  · subst h4
    rw [if_pos rfl]; rfl
  · rw [if_neg h4, show (y == Str.ofString "resp") = false from beq_eq_false_iff_ne.mpr h4]
    simp
theorem mp_turn1 (x : Str) (t1 : Tok) (n : Int) (tn : Tok) (I2 Iv I0 : Int) (t2 tv t0 : Tok) (D D0 : Str) (td td0 : Tok) (C : Value) (oc : Option Value) :
    (fun y => if y = Str.ofString "dirname" then some (Value.str D td) else if y = Str.ofString "i" then some (Value.int I2 t2) else if y = Str.ofString "i" then some (Value.int Iv tv) else if y = Str.ofString "c" then some C else
      if y = Str.ofString "dirname" then some (Value.str D0 td0) else if y = Str.ofString "i" then some (Value.int I0 t0) else if y = Str.ofString "n" then some (Value.int n tn) else if y = Str.ofString "resp" then some (Value.str x t1) else if y = Str.ofString "c" then oc else none) = MP x t1 n tn I2 t2 D td (some C) := by
  funext y
  simp only [MP]
  by_cases h3 : y = Str.ofString "dirname"
  · simp [h3]
  by_cases h2 : y = Str.ofString "i"
  · simp [h2]
  by_cases h5 : y = Str.ofString "c"
  · subst h5
    rw [if_neg (by decide), if_neg (by decide), if_neg (by decide), if_pos rfl, if_neg (by decide), if_neg (by decide), if_neg (by decide), if_neg (by decide), if_pos rfl]
  · rw [if_neg h3, if_neg h2, if_neg h2, if_neg h5, if_neg h3, if_neg h2, if_neg h5, if_neg h3, if_neg h2, if_neg h5]
theorem mp_turn2 (x : Str) (t1 : Tok) (n : Int) (tn : Tok) (I2 I0 : Int) (t2 t0 : Tok) (D D0 : Str) (td td0 : Tok) (C : Value) (oc : Option Value) :
    (fun y => if y = Str.ofString "dirname" then some (Value.str D td) else if y = Str.ofString "i" then some (Value.int I2 t2) else if y = Str.ofString "c" then some C else
      if y = Str.ofString "dirname" then some (Value.str D0 td0) else if y = Str.ofString "i" then some (Value.int I0 t0) else if y = Str.ofString "n" then some (Value.int n tn) else if y = Str.ofString "resp" then some (Value.str x t1) else if y = Str.ofString "c" then oc else none) = MP x t1 n tn I2 t2 D td (some C) := by
  rw [← mp_turn1 x t1 n tn I2 I2 I0 t2 t2 t0 D D0 td td0 C oc]
  funext y
  by_cases h2 : y = Str.ofString "i"
  · simp [h2]
  · simp [h2]
theorem item_at {x : Str} {i : Nat} (h : i < x.length) : Txt.item x (i : Int) = ⟨#[x.cps.toList[i]'(by rw [Array.length_toList]; exact h)]⟩ := by
  refine item_meets (by omega) ?_
  have h' : i < x.cps.size := h
  simp [h']
theorem chr_eq_quote (c : Nat) : ((⟨#[c]⟩ : Str) == Str.ofString "\"") = decide (c = 34) := by
  have e : Str.ofString "\"" = ⟨#[34]⟩ := by decide
  rw [e]
  by_cases h : c = 34
  · subst h; simp
  · rw [decide_eq_false h]
    refine beq_eq_false_iff_ne.mpr fun q => h ?_
    injection q with q
    injection q with q
    injection q with q
theorem drop_at {l : List Nat} {i : Nat} (h : i < l.length) : l.drop i = l[i] :: l.drop (i + 1) := List.drop_eq_getElem_cons h
section
variable {x : Str} {i : Nat} {d : Str} {tgt : List Nat}
theorem scan_quote2 (h : i + 1 < x.length) (h1 : (Txt.item x (i : Int) == Str.ofString "\"") = true) (h2 : (Txt.item x ((i : Int) + 1) == Str.ofString "\"") = true) (ht : d.cps.toList ++ pScan (x.cps.toList.drop i) = tgt) :
    (d ++ Txt.item x (i : Int)).cps.toList ++ pScan (x.cps.toList.drop (i + 2)) = tgt := by
  have l : x.cps.toList.length = x.length := by simp [Str.length]
  rw [item_at (by omega), chr_eq_quote, decide_eq_true_eq] at h1
  rw [show ((i : Int) + 1) = ((i + 1 : Nat) : Int) by omega, item_at h, chr_eq_quote, decide_eq_true_eq] at h2
  rw [drop_at (by omega), drop_at (i := i + 1) (by omega)] at ht
  simp only [h1, h2, pScan, if_true] at ht
  rw [item_at (by omega), Str.cps_append, Array.toList_append, h1]
  simpa using ht
theorem scan_end (h : i < x.length) (h1 : (Txt.item x (i : Int) == Str.ofString "\"") = true) (h2 : ¬ ((x.length : Int) ≤ (i : Int) + 1) → (Txt.item x ((i : Int) + 1) == Str.ofString "\"") = false) (ht : d.cps.toList ++ pScan (x.cps.toList.drop i) = tgt) :
    d = ⟨tgt.toArray⟩ := by
  have l : x.cps.toList.length = x.length := by simp [Str.length]
  rw [item_at h, chr_eq_quote, decide_eq_true_eq] at h1
  rw [drop_at (by omega)] at ht
  by_cases e : i + 1 < x.length
  · have h3 := h2 (by omega)
    rw [show ((i : Int) + 1) = ((i + 1 : Nat) : Int) by omega, item_at e, chr_eq_quote, decide_eq_false_iff_not] at h3
    rw [drop_at (i := i + 1) (by omega)] at ht
    simp only [h1, h3, pScan, if_true, if_false, List.append_nil] at ht
    rw [← ht]
  · rw [List.drop_eq_nil_of_le (by omega)] at ht
    simp only [h1, pScan, if_true, List.append_nil] at ht
    rw [← ht]
theorem scan_plain (h : i < x.length) (h1 : (Txt.item x (i : Int) == Str.ofString "\"") = false) (ht : d.cps.toList ++ pScan (x.cps.toList.drop i) = tgt) :
    (d ++ Txt.item x (i : Int)).cps.toList ++ pScan (x.cps.toList.drop (i + 1)) = tgt := by
  have l : x.cps.toList.length = x.length := by simp [Str.length]
  rw [item_at h, chr_eq_quote, decide_eq_false_iff_not] at h1
  rw [drop_at (by omega)] at ht
  rw [pScan_plain h1] at ht
  rw [item_at h, Str.cps_append, Array.toList_append]
  simpa using ht
theorem scan_over (h : ¬ ((i : Int) < (x.length : Int))) (ht : d.cps.toList ++ pScan (x.cps.toList.drop i) = tgt) : d = ⟨tgt.toArray⟩ := by
  have l : x.cps.toList.length = x.length := by simp [Str.length]
  rw [List.drop_eq_nil_of_le (by omega)] at ht
  simp only [pScan, List.append_nil] at ht
  rw [← ht]
end
theorem pick_range {l : Array Nat} : ∀ (cnt lo : Nat), lo + cnt ≤ l.size → (List.range' lo cnt).filterMap (fun k => l[k]?) = (l.toList.drop lo).take cnt
  | 0, lo, _ => by simp
  | cnt + 1, lo, h => by
    have hlo : lo < l.toList.length := by rw [Array.length_toList]; omega
    rw [List.range'_succ, List.filterMap_cons, drop_at hlo, List.take_succ_cons, pick_range cnt (lo + 1) (by omega)]
    have : l[lo]? = some l.toList[lo] := by
      rw [Array.length_toList] at hlo
      simp [hlo]
    rw [this]
theorem range_nat {lo hi : Nat} : sliceRange (lo : Int) (hi : Int) 1 = List.range' lo (hi - lo) := by
  unfold sliceRange
  simp only [show (1 : Int) > 0 by decide, if_true]
  rw [List.range'_eq_map_range]
  have e : (if (lo : Int) < (hi : Int) then ((hi : Int) - lo + 1 - 1) / 1 else 0).toNat = hi - lo := by
    split <;> omega
  rw [e]
  refine List.map_congr_left fun k _ => ?_
  omega
theorem slice_of {x : Str} {l u : Option Int} {lo hi : Nat} (hlu : lo ≤ hi) (hn : hi ≤ x.length) (e : Builtin.Str.strSliceIndices l u 1 x.length = sliceRange (lo : Int) (hi : Int) 1) : (Txt.slice x l u).cps.toList = (x.cps.toList.drop lo).take (hi - lo) := by
  have lx : x.cps.toList.length = x.length := by rw [Array.length_toList]; rfl
  unfold Txt.slice
  rw [e, range_nat]
  split
  · rename_i h
    rw [Bool.and_eq_true] at h
    have h2 := beq_iff_eq.mp h.2
    rw [List.length_range'] at h2
    have : lo = 0 := by omega
    subst this
    rw [List.drop_zero, List.take_of_length_le (by omega)]
  · show ((List.range' lo (hi - lo)).filterMap (fun k => x.cps[k]?)) = _
    exact pick_range _ _ (by show lo + (hi - lo) ≤ x.cps.size; have : x.cps.size = x.length := rfl; omega)
theorem slice_ss {x : Str} (l u : Nat) (hlu : l ≤ u) : (Txt.slice x (some (l : Int)) (some (u : Int))).cps.toList = (x.cps.toList.drop l).take (u - l) := by
  have lx : x.cps.toList.length = x.length := by rw [Array.length_toList]; rfl
  rw [slice_of (lo := min l x.length) (hi := min u x.length) (by omega) (by omega)]
  · by_cases h : l ≤ x.length
    · rw [Nat.min_eq_left h]
      by_cases h2 : u ≤ x.length
      · rw [Nat.min_eq_left h2]
      · rw [Nat.min_eq_right (by omega), List.take_of_length_le (by rw [List.length_drop]; omega), List.take_of_length_le (by rw [List.length_drop]; omega)]
    · rw [List.drop_eq_nil_of_le (by omega), List.drop_eq_nil_of_le (by omega), List.take_nil, List.take_nil]
  · unfold Builtin.Str.strSliceIndices
    simp only [show (1 : Int) > 0 by decide, if_true, show ¬ ((l : Int) < 0) by omega, show ¬ ((u : Int) < 0) by omega, if_false]
    congr 1 <;> omega
theorem slice_ns {x : Str} (u : Nat) : (Txt.slice x none (some (u : Int))).cps.toList = x.cps.toList.take u := by
  have lx : x.cps.toList.length = x.length := by rw [Array.length_toList]; rfl
  rw [slice_of (lo := 0) (hi := min u x.length) (by omega) (by omega)]
  · rw [List.drop_zero, Nat.sub_zero]
    by_cases h2 : u ≤ x.length
    · rw [Nat.min_eq_left h2]
    · rw [Nat.min_eq_right (by omega), List.take_of_length_le (by omega), List.take_of_length_le (by omega)]
  · unfold Builtin.Str.strSliceIndices
    simp only [show (1 : Int) > 0 by decide, if_true, show ¬ ((u : Int) < 0) by omega, if_false]
    congr 1 <;> omega
theorem slice_sn {x : Str} (l : Nat) : (Txt.slice x (some (l : Int)) none).cps.toList = x.cps.toList.drop l := by
  have lx : x.cps.toList.length = x.length := by rw [Array.length_toList]; rfl
  rw [slice_of (lo := min l x.length) (hi := x.length) (by omega) (by omega)]
  · rw [List.take_of_length_le (by rw [List.length_drop]; omega)]
    by_cases h : l ≤ x.length
    · rw [Nat.min_eq_left h]
    · rw [Nat.min_eq_right (by omega), List.drop_eq_nil_of_le (by omega), List.drop_eq_nil_of_le (by omega)]
  · unfold Builtin.Str.strSliceIndices
    simp only [show (1 : Int) > 0 by decide, if_true, show ¬ ((l : Int) < 0) by omega, if_false]
    congr 1 <;> omega
theorem len_of_slice5 {x : Str} (hq : Txt.slice x (some 3) (some 5) = Str.ofString " \"") : 5 ≤ x.length := by
  have e := slice_ss (x := x) 3 5 (by omega)
  rw [show ((3 : Nat) : Int) = 3 from rfl, show ((5 : Nat) : Int) = 5 from rfl, hq] at e
  have e2 := congrArg List.length e
  have lx : x.cps.toList.length = x.length := by rw [Array.length_toList]; rfl
  rw [List.length_take, List.length_drop, lx, show (Str.ofString " \"").cps.toList.length = 2 by decide] at e2
  omega
end
section
noncomputable def quoted (x : Str) : Str := Txt.replace x (Str.ofString "\"") (Str.ofString "\"\"")
noncomputable def pairS (x y : Str) : Str := Str.ofString "257 \"" ++ Txt.replace x (Str.ofString "\"") (Str.ofString "\"\"") ++ Str.ofString "\" " ++ y
noncomputable def dq : List Nat → List Nat
  | [] => []
  | c :: r => if c = 34 then 34 :: 34 :: dq r else c :: dq r
theorem dq_eq (l : List Nat) : StrLaws.dbl 34 l = dq l := by
  induction l with
  | nil => rfl
  | cons c r ih =>
    unfold dq
    rw [← ih]
    by_cases h : c = 34
    · simp [StrLaws.dbl, h]
    · simp [StrLaws.dbl, h]
theorem rep_list (x : Str) : (Txt.replace x (Str.ofString "\"") (Str.ofString "\"\"")).cps.toList = dq x.cps.toList := by
  rw [show Str.ofString "\"" = ⟨#[34]⟩ by decide, show Str.ofString "\"\"" = ⟨#[34, 34]⟩ by decide, StrLaws.replace_double, dq_eq]
theorem dq_len (l : List Nat) : (dq l).length = l.length + l.count 34 := by
  induction l with
  | nil => rfl
  | cons c r ih =>
    unfold dq
    by_cases h : c = 34
    · subst h; simp [ih]; omega
    · rw [if_neg h, List.length_cons, ih, List.length_cons, List.count_cons_of_ne (fun q => h q)]; omega
theorem rep_len (x : Str) (hx : x.length ≤ 1000) : (Txt.replace x (Str.ofString "\"") (Str.ofString "\"\"")).length ≤ 2000 := by
  have e : (Txt.replace x (Str.ofString "\"") (Str.ofString "\"\"")).length = (dq x.cps.toList).length := by rw [← rep_list, Array.length_toList]; rfl
  have l : x.cps.toList.length = x.length := by rw [Array.length_toList]; rfl
  have c := List.count_le_length (a := 34) (l := x.cps.toList)
  rw [e, dq_len]; omega
theorem pScan_dq (l r : List Nat) (hr : r.head? ≠ some 34) : pScan (dq l ++ 34 :: r) = l := by
  induction l with
  | nil =>
    cases r with
    | nil => simp [dq, pScan]
    | cons d r' =>
      have : d ≠ 34 := fun q => hr (by rw [q]; rfl)
      simp [dq, pScan, this]
  | cons c t ih =>
    by_cases h : c = 34
    · subst h
      simp only [dq, if_true, List.cons_append]
      simp [pScan, ih]
    · simp only [dq, if_neg h, List.cons_append]
      rw [pScan_plain h, ih]
theorem lit5 : (Str.ofString "257 \"").cps.toList = [50, 53, 55, 32, 34] := by decide
theorem lit2 : (Str.ofString "\" ").cps.toList = [34, 32] := by decide
theorem pair_list (x y : Str) : (pairS x y).cps.toList = [50, 53, 55, 32, 34] ++ (dq x.cps.toList ++ (34 :: (32 :: y.cps.toList))) := by
  unfold pairS
  simp only [Str.cps_append, Array.toList_append, rep_list, lit5, lit2, List.append_assoc, List.cons_append, List.nil_append]
theorem pair_len (x y : Str) : (pairS x y).length = 7 + x.length + x.cps.toList.count 34 + y.length := by
  have e : (pairS x y).length = (pairS x y).cps.toList.length := by rw [Array.length_toList]; rfl
  have lx : x.cps.toList.length = x.length := by rw [Array.length_toList]; rfl
  have ly : y.cps.toList.length = y.length := by rw [Array.length_toList]; rfl
  rw [e, pair_list]
  simp only [List.length_append, List.length_cons, List.length_nil, dq_len]
  omega
theorem str_ext {x y : Str} (h : x.cps.toList = y.cps.toList) : x = y := by
  cases x; cases y
  simp only [Str.mk.injEq]
  exact Array.toList_inj.mp h
theorem pair_257 (x y : Str) : Txt.slice (pairS x y) none (some 3) = Str.ofString "257" := by
  refine str_ext ?_
  rw [show (3 : Int) = ((3 : Nat) : Int) from rfl, slice_ns, pair_list]
  rfl
theorem pair_quote (x y : Str) : Txt.slice (pairS x y) (some 3) (some 5) = Str.ofString " \"" := by
  refine str_ext ?_
  rw [show (3 : Int) = ((3 : Nat) : Int) from rfl, show (5 : Int) = ((5 : Nat) : Int) from rfl, slice_ss 3 5 (by omega), pair_list]
  rfl
theorem pair_first (x y : Str) : (⟨(pScan ((pairS x y).cps.toList.drop 5)).toArray⟩ : Str) = x := by
  refine str_ext ?_
  rw [pair_list]
  show pScan (dq x.cps.toList ++ 34 :: (32 :: y.cps.toList)) = _
  exact pScan_dq _ _ (by simp)
theorem pair_second (x y : Str) : Txt.slice (pairS x y) (some (7 + (x.length : Int) + ((x.cps.toList.count 34 : Nat) : Int))) none = y := by
  refine str_ext ?_
  rw [show (7 + (x.length : Int) + ((x.cps.toList.count 34 : Nat) : Int)) = ((7 + x.length + x.cps.toList.count 34 : Nat) : Int) by omega, slice_sn, pair_list]
  have lx : x.cps.toList.length = x.length := by rw [Array.length_toList]; rfl
  have e : 7 + x.length + x.cps.toList.count 34 = ([50, 53, 55, 32, 34] ++ (dq x.cps.toList ++ [34, 32])).length := by
    simp only [List.length_append, List.length_cons, List.length_nil, dq_len]; omega
  rw [e, show [50, 53, 55, 32, 34] ++ (dq x.cps.toList ++ (34 :: (32 :: y.cps.toList))) = ([50, 53, 55, 32, 34] ++ (dq x.cps.toList ++ [34, 32])) ++ y.cps.toList by simp, List.drop_left]
theorem menu_bd (k : Nat) : ([0, 1, 0, 0, 0, 0, -1].getD k (0 : Int)).natAbs ≤ 1000000 := by
  match k with
  | 0 | 1 | 2 | 3 | 4 | 5 | 6 => decide
  | n + 7 => exact Nat.zero_le _
section
variable {s1 u1 s2 u2 p0 p1 : Int}
theorem tS1 (h : u1 = 7) : timesS s1 u1 s2 u2 p0 = s1 * s2 := by simp [timesS, h]
theorem tU1 (h : u1 = 7) : timesU u1 u2 p1 = u2 := by simp [timesU, h]
theorem tS2 (h : ¬ u1 = 7) (h2 : u2 = 7) : timesS s1 u1 s2 u2 p0 = s1 * s2 := by simp [timesS, h, h2]
theorem tU2 (h : ¬ u1 = 7) (h2 : u2 = 7) : timesU u1 u2 p1 = u1 := by simp [timesU, h, h2]
theorem tS3 (h : ¬ u1 = 7) (h2 : ¬ u2 = 7) (h3 : (decide (u2 - u1 = 0) == true) = true) : timesS s1 u1 s2 u2 p0 = -(s1 * s2) := by
  rw [timesS, if_neg h, if_neg h2, if_pos (by simpa using h3)]
theorem tU3 (h : ¬ u1 = 7) (h2 : ¬ u2 = 7) (h3 : (decide (u2 - u1 = 0) == true) = true) : timesU u1 u2 p1 = 7 := by
  rw [timesU, if_neg h, if_neg h2, if_pos (by simpa using h3)]
theorem tS4 (h : ¬ u1 = 7) (h2 : ¬ u2 = 7) (h3 : (decide (u2 - u1 = 0) == false) = true) : timesS s1 u1 s2 u2 p0 = s1 * s2 * [0, 1, 0, 0, 0, 0, -1].getD (((u2 - u1) ^ p0.toNat).fmod 7).toNat 0 := by
  rw [timesS, if_neg h, if_neg h2, if_neg (by simpa using h3)]; rfl
theorem tU4 (h : ¬ u1 = 7) (h2 : ¬ u2 = 7) (h3 : (decide (u2 - u1 = 0) == false) = true) : timesU u1 u2 p1 = (4 * (u1 + u2) - (u2 - u1) ^ p1.toNat).fmod 7 := by
  rw [timesU, if_neg h, if_neg h2, if_neg (by simpa using h3)]
end
end
section
theorem ints_at : ∀ {vs : List Value} {ns : List Int}, IntsAre vs ns → ∀ k : Nat, k < ns.length → ∃ t, vs[k]? = some (.int (ns.getD k 0) t)
  | _, _, .nil, _, h => absurd h (Nat.not_lt_zero _)
  | _, _, .cons _ _ _, 0, _ => ⟨_, rfl⟩
  | _, _, .cons _ _ h, k + 1, hk => ints_at h k (Nat.lt_of_succ_lt_succ hk)
theorem ints_set {x : Int} {t : Tok} : ∀ {vs : List Value} {ns : List Int}, IntsAre vs ns → ∀ k : Nat, IntsAre (vs.set k (.int x t)) (ns.set k x)
  | _, _, .nil, _ => .nil
  | _, _, .cons _ _ h, 0 => .cons x t h
  | _, _, .cons c z h, k + 1 => .cons c z (ints_set h k)
theorem ints_four {vs : List Value} {ns : List Int} (h : IntsAre vs ns) (hl : ns.length = 4) : ∃ a b c d t u v z, vs = [.int a t, .int b u, .int c v, .int d z] := by
  cases h with
  | nil => simp at hl
  | cons _ t h => cases h with
    | nil => cases hl
    | cons _ u h => cases h with
      | nil => cases hl
      | cons _ v h => cases h with
        | nil => cases hl
        | cons _ z h => cases h with
          | nil => exact ⟨_, _, _, _, t, u, v, z, rfl⟩
          | cons _ _ _ => simp at hl
section
variable {prog : Program} {w : World} {A : Around} {E : Value → Shared → Prop} {s : Shared} {h₀ : Heap} {L D l : Addr} {m : Str → Option Value} {news news' : List (Addr × Obj)} {vs : List Value} {ns : List Int} {n : Nat} {k x : Int} {t u : Tok}
theorem ints_get {Q : Value → Shared → Prop} (N : News h₀ L s.heap news) (hm : (D, listOf vs.toArray n) ∈ news) (hb : IntsAre vs ns) (h0 : 0 ≤ k) (h1 : k < ns.length) (hfit : k < 2 ^ 63) (h : ∀ z, Q (.int (ns.getD k.toNat 0) z) s) :
    wpAny (model prog w) A (getItem (.ref D) (.int k u)) Q E s := by
  obtain ⟨z, hx⟩ := ints_at hb k.toNat (by omega)
  exact wpAny_getItem_list (PySem.IsL.isList (n := n) (N _ hm).1) h0 hfit (by simpa using hx) (h z)
theorem ints_sub {value slice : PySem.Expr} {Q : Value → Shared → Prop} (N : News h₀ L s.heap news) (hm : (D, listOf vs.toArray n) ∈ news) (hb : IntsAre vs ns) (h0 : 0 ≤ k) (h1 : k < ns.length) (hfit : k < 2 ^ 63) (h : ∀ z, Q (.int (ns.getD k.toNat 0) z) s)
    (hs : subscripted slice false (.ref D) (.int k u) = operate [.ref D, .int k u] (getItem (.ref D) (.int k u)) := by with_unfolding_all rfl) :
    wpAny (model prog w) A (subscriptTail value slice (.ref D) (.int k u)) Q E s :=
  tail_any (PySem.IsL.isList (n := n) (N _ hm).1).typeIs slot_list_getitem.lookup (ints_get N hm hb h0 h1 hfit h) hs
theorem ints_put {Q : Unit → Shared → Prop} {news0 : List (Addr × Obj)} {p : Addr × Obj} (F : Fr h₀ L s.heap m) (N : News h₀ L s.heap (p :: (D, listOf vs.toArray n) :: news0)) (l : D < p.1 ∧ AllLt p.1 news0) (l2 : ∀ q ∈ news0, q.1 < D) (hb : IntsAre vs ns) (h0 : 0 ≤ k) (h1 : k < ns.length) (hfit : k < 2 ^ 63)
    (h : ∀ h', Fr h₀ L h' m → News h₀ L h' (p :: (D, listOf (vs.set k.toNat (.int x u)).toArray n) :: news0) → IntsAre (vs.set k.toNat (.int x u)) (ns.set k.toNat x) → (ns.set k.toNat x).length = ns.length → Q () { s with heap := h' }) :
    wpAny (model prog w) A (setItem (.ref D) (.int k t) (.int x u)) Q E s := by
  have z := N (D, listOf vs.toArray n) (by simp)
  have hl : vs.length = ns.length := hb.length
  have hs : vs.toArray.size = ns.length := by rw [List.size_toArray]; exact hl
  refine ki_setAt z.1 h0 hfit (by omega) (h _ (F.change (Heap.SameBut.update ..) z.2.1 z.2.2) (ki_turn (pre := [p]) (post := news0) _ N ?_ ?_ ?_ ?_) (ints_set hb _) (List.length_set ..))
  · intro q hq
    rw [List.mem_singleton.mp hq]
    exact Nat.ne_of_gt l.1
  · intro q hq
    exact Nat.ne_of_lt (l2 q hq)
  · show vs.toArray.setIfInBounds k.toNat (.int x u) = (vs.set k.toNat (.int x u)).toArray
    apply Array.toList_inj.mp
    simp
  · simp
end
section
variable {prog : Program} {w : World} {A : Around} {E : Value → Shared → Prop} {s : Shared} {env : Env} {h₀ : Heap} {x : Str} {body : List Stmt} {Q : Flow → Shared → Prop}
theorem rangeRest_of {I : Addr} {a : Int} {n : Nat} {m₀ : Str → Option Value} {J : Nat → List (Addr × Obj) → Prop}
    (turn : ∀ i news t h tk, i < n → J i news → Fr h₀ env.locals h (fun y => if y = x then some (.int (a + (i : Int)) t) else m₀ y) → News h₀ env.locals h ((I, itR (a + ((i + 1 : Nat) : Int)) ((n : Int) - ((i + 1 : Nat) : Int))) :: news) →
      wpAny (model prog w) A (execs body env) (UnrPost h₀ env.locals { s with heap := h, toks := tk } I (itR (a + ((i + 1 : Nat) : Int)) ((n : Int) - ((i + 1 : Nat) : Int))) (fun m' news' => (∀ y, y ≠ x → m' y = m₀ y) ∧ J (i + 1) news') Q) E { s with heap := h, toks := tk })
    (done : ∀ o news h tk, J n news → Fr h₀ env.locals h (fun y => if y = x then o else m₀ y) → News h₀ env.locals h news → Q .next { s with heap := h, toks := tk }) :
    ∀ k i m news, i + k = n → (∀ y, y ≠ x → m y = m₀ y) → J i news → RangeRest prog w A E h₀ env x body Q s I a n k i m news := by
  have off : ∀ m : Str → Option Value, (∀ y, y ≠ x → m y = m₀ y) → ∀ o, (fun y => if y = x then o else m y) = fun y => if y = x then o else m₀ y := fun m hm o => by
    funext y
    split
    · rfl
    · exact hm y ‹_›
  intro k
  induction k with
  | zero =>
    intro i m news hi hm hJ h tk F N
    refine done (m x) news h tk (by rw [Nat.add_zero] at hi; exact hi ▸ hJ) ?_ N
    rw [← off m hm]
    have e : (fun y => if y = x then m x else m y) = m := by
      funext y
      split
      · rw [‹y = x›]
      · rfl
    rw [e]
    exact F
  | succ k ih =>
    intro i m news hi hm hJ t h tk F N
    rw [off m hm] at F
    refine wpAny_mono (turn i news t h tk (by omega) hJ F N) (fun f s₂ p => ?_) fun _ _ e => e
    have r : ∀ s₂, UnrEnd h₀ env.locals { s with heap := h, toks := tk } I (itR (a + ((i + 1 : Nat) : Int)) ((n : Int) - ((i + 1 : Nat) : Int))) (fun m' news' => (∀ y, y ≠ x → m' y = m₀ y) ∧ J (i + 1) news') s₂ →
        UnrEnd h₀ env.locals { s with heap := h, toks := tk } I (itR (a + ((i + 1 : Nat) : Int)) ((n : Int) - ((i + 1 : Nat) : Int))) (RangeRest prog w A E h₀ env x body Q s I a n k (i + 1)) s₂ := by
      rintro s₂ ⟨h', tk', m', news', e, F', N', o, hm', hJ'⟩
      exact ⟨h', tk', m', news', e, F', N', o, ih (i + 1) m' news' (by omega) hm' hJ'⟩
    cases f with
    | ret v => exact p
    | brk => exact p
    | next => exact r _ p
    | cont => exact r _ p
theorem iter_rangeJ (J : Addr → Nat → List (Addr × Obj) → Prop) {r : Addr} {b₀ : Int} {t₀ u₀ v₀ : Tok} {n : Nat} {m₀ : Str → Option Value} {news : List (Addr × Obj)}
    (hh : A.handled = none) (hr : IsRange s.heap r 0 b₀ 1 t₀ u₀ v₀) (hn : b₀ = (n : Int)) (hs : n < 2 ^ 62) (F : Fr h₀ env.locals s.heap m₀) (N : News h₀ env.locals s.heap news)
    (start : ∀ I : Addr, (∀ p ∈ news, p.1 < I) → J I 0 news)
    (turn : ∀ I i news t h tk, i < n → J I i news → Fr h₀ env.locals h (fun y => if y = x then some (.int (i : Int) t) else m₀ y) → News h₀ env.locals h ((I, itR (0 + ((i + 1 : Nat) : Int)) ((n : Int) - ((i + 1 : Nat) : Int))) :: news) →
      wpAny (model prog w) A (execs body env) (UnrPost h₀ env.locals { s with heap := h, toks := tk } I (itR (0 + ((i + 1 : Nat) : Int)) ((n : Int) - ((i + 1 : Nat) : Int))) (fun m' news' => (∀ y, y ≠ x → m' y = m₀ y) ∧ J I (i + 1) news') Q) E { s with heap := h, toks := tk })
    (done : ∀ I o news h tk, J I n news → Fr h₀ env.locals h (fun y => if y = x then o else m₀ y) → News h₀ env.locals h news → Q .next { s with heap := h, toks := tk }) :
    wpAny (model prog w) A (pyIter (.ref r)) (fun it s₂ => LoopAtV prog w A h₀ env x body Q E it s₂) E s := by
  subst hn
  refine iter_rangeUnr hh hr (small_one (by decide) (by decide) (by omega) (by omega)) (n := n) (by unfold Builtin.Range.rangeSize; rcases n with _ | n <;> simp <;> omega) F N fun I hI => ?_
  refine rangeRest_of (m₀ := m₀) (J := J I) (fun i news t h tk hi hJ F N => ?_) (fun o news h tk hJ F N => done I o news h tk hJ F N) n 0 m₀ news (by omega) (fun _ _ => rfl) (start I hI)
  rw [Int.zero_add] at F
  exact turn I i news t h tk hi hJ F N
end
end
section
open LCg (NsObj ns_obj lst lst_snoc fr_but news_but)
/-- the loop's own three objects stand apart from the rest -/
noncomputable def Apart (I C D : Addr) (news : List (Addr × Obj)) : Prop := I ≠ C ∧ I ≠ D ∧ C ≠ D ∧ ∀ p ∈ news, p.1 ≠ I ∧ p.1 ≠ C ∧ p.1 ≠ D

section
variable {prog : Program} {w : World} {A : Around} {E : Value → Shared → Prop} {s : Shared} {L : Addr} {m : Str → Option Value}

/-- what a loop over one clause needs to know of what it walks -/
structure Source (prog : Program) (w : World) (A : Around) (L I : Addr) (n : Nat) (P : Nat → Value → Prop) (S : List (Addr × Obj) → Prop) (St : Nat → Heap → Prop) : Prop where
  fp : ∃ fp, Walks prog w A I fp [I] n P St
  io : ∀ i h, St i h → ∃ o, h.get? I = some o
  st : ∀ i h h' o nw h₀, St i h → h.get? I = some o → h'.get? I = some o → News h₀ L h' nw → S nw → St i h'

theorem source_list {I ax : Addr} {its : Array Value} {k : Nat} (hh : A.handled = none) (hne : ax ≠ I) :
    Source prog w A L I its.size (fun i v => its[i]? = some v) (fun nw => (ax, ({ cls := .type "list", data := .seq its k } : Obj)) ∈ nw) (fun i h => h.IsListIter I ax i ∧ h.IsList ax its) where
  fp := ⟨_, Walks.list hh I ax hne its⟩
  io := fun i h st => by obtain ⟨o, e, _⟩ := st.1; exact ⟨o, e⟩
  st := fun i h h' o nw h₀ st e e' N S => ⟨by obtain ⟨o', q, r⟩ := st.1; rw [e] at q; cases q; exact ⟨o, e', r⟩, ⟨_, (N _ S).1, rfl, k, rfl⟩⟩
theorem source_range {I : Addr} {a : Int} {n : Nat} (hh : A.handled = none) :
    Source prog w A L I n (fun i v => ∃ t, v = .int (a + (i : Int)) t) (fun _ => True) (fun i h => IsRangeIter h I (a + (i : Nat) * 1) ((n : Int) - (i : Nat)) 1) where
  fp := ⟨_, LCg.range_walks hh a n⟩
  io := fun i h st => ⟨_, st⟩
  st := fun i h h' o nw h₀ st e e' _ _ => by
    have st' : h.get? I = some _ := st
    show h'.get? I = some _
    rw [e', ← e]; exact st'

/-- one clause's loop, at any depth, whatever its body does -/
theorem comp_loop {elt : Expr} {gens : List Comprehension} {scope : Scope} {pos : Pos} {d : Nat} {px p0 : Pos} {x : Str} {cenv : Env} {I C D : Addr} {n : Nat} {P : Nat → Value → Prop} {S : List (Addr × Obj) → Prop} {St : Nat → Heap → Prop} {body : Sem Unit}
    {R : Result → Shared → Prop} (J : Heap → Nat → List Value → (Str → Option Value) → List (Addr × Obj) → Prop)
    (hT : compTurn (.ListComp elt gens scope pos) d (.ref I) (.ref D) cenv = (standAt p0 >>= fun _ => pyNext (.ref I) >>= fun r => match r with
      | none => pure (.done .next)
      | some v => letOwnedTupleGo (.Name x px) (.ref I) v >>= fun _ => assign (.Name x px) cenv v >>= fun _ => body >>= fun _ => again (.compLoop (.ListComp elt gens scope pos) d (.ref I) (.ref D) cenv)))
    (hx : cenv.kindOf x = some .local) (hp : (cenv.scope.kind == .class || (cenv.scope.kind == .module && cenv.locals != cenv.globals)) = false) (hC : cenv.locals = C)
    (W : Source prog w A L I n P S St)
    {h₀ : Heap} {oI oC : Obj} {mC : Str → Option Value} {ys : List Value} {news : List (Addr × Obj)} {h : Heap} {tk : Nat}
    (hst : St 0 h) (F : Fr h₀ L h m) (N : News h₀ L h ((I, oI) :: (C, oC) :: (D, lst ys) :: news)) (oc : NsObj oC mC) (ap : Apart I C D news) (hS : S news) (hJ : J h₀ 0 ys mC news)
    (turn : ∀ h₀ i v oI oC mC ys news h tk E', i < n → P i v → J h₀ i ys mC news → NsObj oC (fun y => if y = x then some v else mC y) → Fr h₀ L h m → News h₀ L h ((I, oI) :: (C, oC) :: (D, lst ys) :: news) → Apart I C D news → S news →
      wpAny (model prog w) A body (fun _ s' => ∃ h₀' h' tk' ys' mC' oC' news', s' = { s with heap := h', toks := tk' } ∧ Fr h₀' L h' m ∧ News h₀' L h' ((I, oI) :: (C, oC') :: (D, lst ys') :: news') ∧ NsObj oC' mC' ∧ Apart I C D news' ∧ S news' ∧ J h₀' (i + 1) ys' mC' news') E' { s with heap := h, toks := tk })
    (done : ∀ h₀ oC mC ys news h tk, J h₀ n ys mC news → NsObj oC mC → Fr h₀ L h m → News h₀ L h ((C, oC) :: (D, lst ys) :: news) → Apart I C D news → S news → R (.ok .next) { s with heap := h, toks := tk }) :
    codeAny (model prog w) A (.compLoop (.ListComp elt gens scope pos) d (.ref I) (.ref D) cenv) R { s with heap := h, toks := tk } := by
  subst hC
  obtain ⟨fp, WW⟩ := W.fp
  refine codeAny_loop rfl (fun k s' => ∃ h₀ h' tk i ys mC oC oI news, s' = { s with heap := h', toks := tk } ∧ i ≤ n ∧ k = n + 1 - i ∧ St i h' ∧ Fr h₀ L h' m ∧ News h₀ L h' ((I, oI) :: (cenv.locals, oC) :: (D, lst ys) :: news) ∧ NsObj oC mC ∧ Apart I cenv.locals D news ∧ S news ∧ J h₀ i ys mC news)
    (fun k s' hI => ?_) (n + 1) ⟨h₀, h, tk, 0, ys, mC, oC, oI, news, rfl, Nat.zero_le _, rfl, hst, F, N, oc, ap, hS, hJ⟩
  show wpAny _ A ((compTurn (.ListComp elt gens scope pos) d (.ref I) (.ref D) cenv).onRaise (fun x => do noteFrame x cenv; theTreesLotGoes x)) _ _ s'
  refine wpAny_noted ?_
  rw [hT]
  obtain ⟨h₀, h', tk, i, ys, mC, oC, oI, news, rfl, hi, rfl, hst, F, N, oc, ap, hS, hJ⟩ := hI
  obtain ⟨hIC, hID, hCD, off⟩ := id ap
  have zI := N _ (List.mem_cons_self ..)
  have zC := N _ (List.mem_cons_of_mem _ (List.mem_cons_self ..))
  have zD := N _ (List.mem_cons_of_mem _ (List.mem_cons_of_mem _ (List.mem_cons_self ..)))
  refine wpAny_bind (wpAny_standAt (wpAny_bind ?_))
  by_cases hlt : i < n
  · refine WW.item i _ _ _ hlt hst fun v h₂ tk₂ hPv hst₂ hk₂ => ?_
    refine wpAny_bind (wpAny_of_eq (show letOwnedTupleGo (.Name x px) (.ref I) v = pure () from rfl) ?_)
    have hk₂' : ∀ b o, b ≠ I → h'.get? b = some o → h₂.get? b = some o := fun b o hb e => hk₂ b o (by simpa using hb) e
    refine wpAny_bind (wpAny_assign_Name (wpAny_storeName_local hx ((oc.ns zC.1).at' fun o e => hk₂' _ o (Ne.symm hIC) e) (fun h₃ hn₃ hs₃ => ?_) hp))
    obtain ⟨oI₂, heI⟩ := W.io _ _ hst₂
    obtain ⟨oC₃, heC, hoC⟩ := ns_obj hn₃
    have F₃ : Fr h₀ L h₃ m := (fr_but F (fun b o hb e => hk₂' b o (by simpa using hb) e) (Ne.symm zI.2.1) zI.2.2).change hs₃ zC.2.1 zC.2.2
    have N₃ : News h₀ L h₃ ((I, oI₂) :: (cenv.locals, oC₃) :: (D, lst ys) :: news) := fun p hp => by
      rcases List.mem_cons.mp hp with rfl | hp
      · exact ⟨hs₃.extBut _ _ hIC heI, zI.2⟩
      · rcases List.mem_cons.mp hp with rfl | hp
        · exact ⟨heC, zC.2⟩
        · have hd : p.1 ≠ I ∧ p.1 ≠ cenv.locals := by
            rcases List.mem_cons.mp hp with rfl | hp
            · exact ⟨Ne.symm hID, Ne.symm hCD⟩
            · exact ⟨(off p hp).1, (off p hp).2.1⟩
          have z := N p (List.mem_cons_of_mem _ (List.mem_cons_of_mem _ hp))
          exact ⟨hs₃.extBut _ _ hd.2 (hk₂' _ _ hd.1 z.1), z.2⟩
    have heI₃ : h₃.get? I = some oI₂ := (N₃ _ (List.mem_cons_self ..)).1
    have hst₃ : St (i + 1) h₃ := W.st _ _ _ _ news h₀ hst₂ heI heI₃ (fun p hp => N₃ p (List.mem_cons_of_mem _ (List.mem_cons_of_mem _ (List.mem_cons_of_mem _ hp)))) hS
    refine wpAny_bind (wpAny_mono (turn h₀ i v oI₂ oC₃ mC ys news h₃ _ _ hlt hPv hJ hoC F₃ N₃ ap hS) (fun _ s₄ h₄ => ?_) fun _ _ e => e)
    obtain ⟨h₀', h₄, tk₄, ys', mC', oC', news', rfl, F₄, N₄, oc₄, ap₄, hS₄, hJ₄⟩ := h₄
    refine wpAny_pure ⟨rfl, n + 1 - (i + 1), by omega, h₀', h₄, tk₄, i + 1, ys', mC', oC', oI₂, news', rfl, hlt, rfl, ?_, F₄, N₄, oc₄, ap₄, hS₄, hJ₄⟩
    exact W.st _ _ _ _ news' h₀' hst₃ heI₃ (N₄ _ (List.mem_cons_self ..)).1 (fun p hp => N₄ p (List.mem_cons_of_mem _ (List.mem_cons_of_mem _ (List.mem_cons_of_mem _ hp)))) hS₄
  · obtain rfl : i = n := Nat.le_antisymm hi (Nat.not_lt.mp hlt)
    refine WW.done _ _ _ hst fun h₂ tk₂ hk₂ => wpAny_pure ?_
    have hk₂' : ∀ b o, b ≠ I → h'.get? b = some o → h₂.get? b = some o := fun b o hb e => hk₂ b o (by simpa using hb) e
    refine done h₀ oC mC ys news h₂ tk₂ hJ oc (fr_but F (fun b o hb e => hk₂' b o (by simpa using hb) e) (Ne.symm zI.2.1) zI.2.2) (fun p hp => ?_) ap hS
    have hd : p.1 ≠ I := by
      rcases List.mem_cons.mp hp with rfl | hp
      · exact Ne.symm hIC
      · rcases List.mem_cons.mp hp with rfl | hp
        · exact Ne.symm hID
        · exact (off p hp).1
    have z := N p (List.mem_cons_of_mem _ hp)
    exact ⟨hk₂' _ _ hd z.1, z.2⟩

/-- how a turn's own expression ends -/
noncomputable def CEnd (L : Addr) (m : Str → Option Value) (s : Shared) (I : Addr) (oI : Obj) (C D : Addr) (ys : List Value) (mC : Str → Option Value) (S : List (Addr × Obj) → Prop) (Kp : Heap → Value → List (Addr × Obj) → Prop) (y : Value) (s₂ : Shared) : Prop :=
  ∃ h₀ h' tk news oC, s₂ = { s with heap := h', toks := tk } ∧ Fr h₀ L h' m ∧ News h₀ L h' ((I, oI) :: (C, oC) :: (D, lst ys) :: news) ∧ NsObj oC mC ∧ Apart I C D news ∧ S news ∧ Kp h₀ y news
theorem comp_emit {elt : Expr} {cenv : Env} {I C D : Addr} {oI : Obj} {S : List (Addr × Obj) → Prop} {J : Heap → Nat → List Value → (Str → Option Value) → List (Addr × Obj) → Prop} {i : Nat} {ys : List Value} {mC : Str → Option Value} {E' : Value → Shared → Prop} (hl : ys.length ≤ sizeLine) {s₁ : Shared} {h : Heap} {tk : Nat} (hs₁ : s₁ = { s with heap := h, toks := tk })
    (he : wpAny (model prog w) A (eval elt cenv) (CEnd L m s₁ I oI C D ys mC S (fun h₀ y news => J h₀ (i + 1) (ys ++ [y]) mC news)) E' s₁) :
    wpAny (model prog w) A (eval elt cenv >>= fun x => call (.builtin "list.append") [.ref D, x] >>= fun _ => pure ()) (fun _ s' => ∃ h₀' h' tk' ys' mC' oC' news', s' = { s with heap := h', toks := tk' } ∧ Fr h₀' L h' m ∧ News h₀' L h' ((I, oI) :: (C, oC') :: (D, lst ys') :: news') ∧ NsObj oC' mC' ∧ Apart I C D news' ∧ S news' ∧ J h₀' (i + 1) ys' mC' news') E' s₁ := by
  subst hs₁
  refine wpAny_bind (wpAny_mono he (fun y s₂ h₂ => ?_) fun _ _ e => e)
  obtain ⟨h₀, h', tk', news, oC, rfl, F, N, oc, ap, hS, hJ⟩ := h₂
  have zD := N _ (List.mem_cons_of_mem _ (List.mem_cons_of_mem _ (List.mem_cons_self ..)))
  refine wpAny_bind (append_at (hsz := by show ys.toArray.size ≤ sizeLine; rw [List.size_toArray]; exact hl) zD.1 fun h₅ hs₅ hD₅ => wpAny_pure ?_)
  refine ⟨h₀, h₅, tk', ys ++ [y], mC, oC, news, rfl, F.change hs₅ zD.2.1 zD.2.2, fun p hp => ?_, oc, ap, hS, hJ⟩
  rcases List.mem_cons.mp hp with rfl | hp
  · have z := N _ (List.mem_cons_self ..)
    exact ⟨hs₅.extBut _ _ ap.2.1 z.1, z.2⟩
  · rcases List.mem_cons.mp hp with rfl | hp
    · have z := N _ (List.mem_cons_of_mem _ (List.mem_cons_self ..))
      exact ⟨hs₅.extBut _ _ ap.2.2.1 z.1, z.2⟩
    · rcases List.mem_cons.mp hp with rfl | hp
      · exact ⟨hD₅.trans (congrArg some (lst_snoc ys y)), zD.2⟩
      · have z := N p (List.mem_cons_of_mem _ (List.mem_cons_of_mem _ (List.mem_cons_of_mem _ hp)))
        exact ⟨hs₅.extBut _ _ (ap.2.2.2 p hp).2.2 z.1, z.2⟩

theorem comp_start {elt : Expr} {gens : List Comprehension} {g : Comprehension} {scope : Scope} {pos : Pos} {d : Nat} {I D : Addr} {cenv : Env} {n : Nat} {P : Nat → Value → Prop} {S : List (Addr × Obj) → Prop} {St : Nat → Heap → Prop} {R : Result → Shared → Prop} {s : Shared}
    (hg : gens[d]? = some g) (ha : (g.is_async != 0) = false) (W : Source prog w A L I n P S St) (hst : St 0 s.heap)
    (h : codeAny (model prog w) A (.compLoop (.ListComp elt gens scope pos) d (.ref I) (.ref D) cenv) R s) :
    codeAny (model prog w) A (.compStart (.ListComp elt gens scope pos) d (.ref I) (.ref D) cenv) R s := by
  obtain ⟨fp, WW⟩ := W.fp
  refine codeAny_of_tree ?_
  show wpAny _ _ ((compStart (.ListComp elt gens scope pos) d (.ref I) (.ref D) cenv).onRaise (fun x => do noteFrame x cenv; standAt theWindowsPlace)) _ _ s
  refine wpAny_notedAt ?_
  unfold compStart
  have e : clausesOf (.ListComp elt gens scope pos) = gens := rfl
  simp only [e, hg, Option.elim, ha, Bool.false_eq_true, if_false]
  show wpAny _ _ (ask >>= _) _ _ s
  refine wpAny_bind (wpAny_askSetting ?_)
  split
  · first
      | exact wpAny_bind (wpAny_pure (wpAny_pure (And.intro rfl h)))
      | exact wpAny_pure (And.intro rfl h)
  · refine wpAny_bind (wpAny_rule ?_)
    show wpAny _ _ (standAt g.iter.pos >>= _) _ _ s
    exact wpAny_bind (wpAny_standAt (wpAny_bind (WW.self 0 _ _ _ hst (wpAny_pure (And.intro rfl h)))))

/-- the things a clause may walk -/
inductive Src (h : Heap) (news : List (Addr × Obj)) : Value → Nat → (Nat → Value → Prop) → (List (Addr × Obj) → Prop) → Prop
  | list {ax : Addr} {its : Array Value} {k : Nat} (hm : (ax, ({ cls := .type "list", data := .seq its k } : Obj)) ∈ news) : Src h news (.ref ax) its.size (fun i v => its[i]? = some v) (fun nw => (ax, ({ cls := .type "list", data := .seq its k } : Obj)) ∈ nw)
  | range {r : Addr} {a b : Int} {t u v : Tok} {n : Nat} (hr : IsRange h r a b 1 t u v) (hs : Builtin.Range.small a b 1 = true) (hn : Builtin.Range.rangeSize a b 1 = (n : Int)) : Src h news (.ref r) n (fun i v => ∃ t, v = .int (a + (i : Int)) t) (fun _ => True)

theorem src_iter {h₀ : Heap} {news : List (Addr × Obj)} {xv : Value} {n : Nat} {P : Nat → Value → Prop} {S : List (Addr × Obj) → Prop} {Q : Value → Shared → Prop} {s : Shared} (hh : A.handled = none) (N : News h₀ L s.heap news) (c : Src s.heap news xv n P S)
    (h : ∀ oI St, Source prog w A L s.heap.objs.size n P S St → St 0 (s.heap.push oI) → oI.isFreed = false → S news → Q (.ref s.heap.objs.size) { s with heap := s.heap.push oI }) :
    wpAny (model prog w) A (pyIter xv) Q E s := by
  cases c with
  | list hm =>
    have hl : s.heap.IsList _ _ := ⟨_, (N _ hm).1, rfl, _, rfl⟩
    have hlt := Heap.lt_size (N _ hm).1
    exact wpAny_pyIter_list hl (h _ _ (source_list hh (Nat.ne_of_lt hlt)) ⟨⟨_, Heap.get?_push_size _ rfl, rfl, rfl⟩, hl.push _⟩ rfl hm)
  | range hr hs hn =>
    refine wpAny_pyIter_range hr hs (h _ _ (source_range hh) ?_ rfl trivial)
    show IsRangeIter _ _ _ _ _
    rw [hn]
    simpa using Heap.get?_push_size _ rfl

theorem lt_size' {h : Heap} {b : Addr} {o : Obj} (e : h.get? b = some o) : @LT.lt Nat instLTNat b h.objs.size := Heap.lt_size e
theorem neLt {a b : Addr} (h : @LT.lt Nat instLTNat a b) : a ≠ b := Nat.ne_of_lt h
theorem neGt {a b : Addr} (h : @LT.lt Nat instLTNat b a) : a ≠ b := Nat.ne_of_gt h
theorem ltOf {a b : Addr} (h : @LT.lt Nat instLTNat a b) : a < b := h

theorem comp_block {elt : Expr} {gens : List Comprehension} {g : Comprehension} {scope : Scope} {cl : List (Str × Addr)} {pos : Pos} {env : Env} {h₀ : Heap} {news : List (Addr × Obj)} {xv : Value} {n : Nat} {P : Nat → Value → Prop} {S : List (Addr × Obj) → Prop} {RR : Value → Addr → Result → Shared → Prop} {s : Shared}
    (hh : A.handled = none) (hg : gens[0]? = some g) (ha : (g.is_async != 0) = false) (hcell : ∀ y ∈ scope.names, y.2 ≠ .cell) (hkind : scope.kind = .function)
    (F : Fr h₀ L s.heap m) (N : News h₀ L s.heap news) (c : Src s.heap news xv n P S)
    (loop : ∀ I C D oI oC St h tk, Source prog w A L I n P S St → St 0 h → (∀ p ∈ news, p.1 < I) → I < D → D < C → Fr h₀ L h m → News h₀ L h ((I, oI) :: (C, oC) :: (D, lst []) :: news) → NsObj oC (fun x => ([] : List (Str × Value)).reverse.lookup x) → Apart I C D news → S news →
      codeAny (model prog w) A (.compLoop (.ListComp elt gens scope pos) 0 (.ref I) (.ref D) (compEnvC scope cl C env)) (RR (.ref D) C) { s with heap := h, toks := tk }) :
    wpAny (model prog w) A (pyIter xv) (fun it s₂ => wpAny (model prog w) A (newList []) (fun acc s₃ => wpAny (model prog w) A (newFunctionEnv scope env.globals cl [] env.qual none .none (some env)) (fun cenv s₄ =>
      codeAny (model prog w) A (.compStart (.ListComp elt gens scope pos) 0 it acc { cenv with scope := relabel scope env }) (RR acc cenv.locals) s₄) E s₃) E s₂) E s := by
  refine src_iter hh N c fun oI St W hst hfI hS => ?_
  refine wpAny_newObj_type (wpAny_newFunctionEnv hcell (by intro y hy; simp at hy) (fun h₁ hns₁ hsb₁ => ?_) hkind)
  dsimp only at hns₁ hsb₁ ⊢
  generalize hH1 : s.heap.push oI = H1 at hns₁ hsb₁ hst ⊢
  generalize hH2 : H1.push { cls := .type "list", dict := none, data := .seq ([] : List Value).toArray } = H2 at hns₁ hsb₁ ⊢
  have z1 : H1.objs.size = s.heap.objs.size + 1 := by rw [← hH1, Heap.size_push]
  have z2 : H2.objs.size = H1.objs.size + 1 := by rw [← hH2, Heap.size_push]
  have up1 : ∀ b o, s.heap.get? b = some o → H1.get? b = some o := fun b o e => hH1 ▸ Heap.get?_push_of_some _ e
  have up2 : ∀ b o, H1.get? b = some o → h₁.get? b = some o := fun b o e => hsb₁.extBut b o (neLt (by have := lt_size' e; omega)) (Heap.get?_push_of_some _ (hH2 ▸ Heap.get?_push_of_some _ e))
  have up : ∀ b o, s.heap.get? b = some o → h₁.get? b = some o := fun b o e => up2 b o (up1 b o e)
  have old : ∀ p ∈ news, @LT.lt Nat instLTNat p.1 s.heap.objs.size := fun p hp => lt_size' (N p hp).1
  have heI : H1.get? s.heap.objs.size = some oI := hH1 ▸ Heap.get?_push_size _ hfI
  have fresh₀ : ∀ a, s.heap.objs.size ≤ a → h₀.get? a = none := fun a ha => by
    cases e : h₀.get? a with
    | none => rfl
    | some o' => have := lt_size' (F.keep a o' e); omega
  have hLlt : @LT.lt Nat instLTNat L s.heap.objs.size := F.ns.lt
  have heD : h₁.get? H1.objs.size = some (lst []) := hsb₁.extBut _ _ (neLt (by omega)) (Heap.get?_push_of_some _ (hH2 ▸ Heap.get?_push_size _ rfl))
  obtain ⟨oC, heC, hoC⟩ := ns_obj hns₁
  have N₁ : News h₀ L h₁ ((s.heap.objs.size, oI) :: (H2.objs.size, oC) :: (H1.objs.size, lst []) :: news) := fun p hp => by
    rcases List.mem_cons.mp hp with rfl | hp
    · exact ⟨up2 _ _ heI, neGt hLlt, fresh₀ _ (Nat.le_refl _)⟩
    · rcases List.mem_cons.mp hp with rfl | hp
      · exact ⟨heC, neGt (by omega), fresh₀ _ (by omega)⟩
      · rcases List.mem_cons.mp hp with rfl | hp
        · exact ⟨heD, neGt (by omega), fresh₀ _ (by omega)⟩
        · exact ⟨up _ _ (N p hp).1, (N p hp).2⟩
  have hst₁ : St 0 h₁ := W.st 0 _ _ _ news h₀ hst heI (up2 _ _ heI) (fun p hp => ⟨up _ _ (N p hp).1, (N p hp).2⟩) hS
  refine comp_start hg ha W hst₁ (loop s.heap.objs.size H2.objs.size H1.objs.size oI oC St h₁ _ W hst₁ old (ltOf (by show @LT.lt Nat _ _ _; omega)) (ltOf (by show @LT.lt Nat _ _ _; omega)) (F.keeps up) N₁ hoC ⟨neLt (by omega), neLt (by omega), neGt (by omega), fun p hp => ?_⟩ hS)
  have := old p hp
  exact ⟨neLt (by omega), neLt (by omega), neLt (by omega)⟩

theorem comp_second {elt : Expr} {gens : List Comprehension} {g : Comprehension} {scope : Scope} {pos : Pos} {cenv : Env} {h₀ : Heap} {I₁ C D : Addr} {o₁ oC : Obj} {ys : List Value} {news : List (Addr × Obj)} {xv : Value} {n : Nat} {P : Nat → Value → Prop} {S : List (Addr × Obj) → Prop} {R : Result → Shared → Prop} {s : Shared}
    (hh : A.handled = none) (hg : gens[1]? = some g) (ha : (g.is_async != 0) = false) (F : Fr h₀ L s.heap m) (N : News h₀ L s.heap ((I₁, o₁) :: (C, oC) :: (D, lst ys) :: news)) (ap : Apart I₁ C D news) (c : Src s.heap ((I₁, o₁) :: news) xv n P S)
    (loop : ∀ I oI St h, Source prog w A L I n P S St → St 0 h → Fr h₀ L h m → News h₀ L h ((I, oI) :: (C, oC) :: (D, lst ys) :: (I₁, o₁) :: news) → Apart I C D ((I₁, o₁) :: news) → S ((I₁, o₁) :: news) →
      codeAny (model prog w) A (.compLoop (.ListComp elt gens scope pos) 1 (.ref I) (.ref D) cenv) R { s with heap := h }) :
    wpAny (model prog w) A (pyIter xv) (fun it s₂ => codeAny (model prog w) A (.compStart (.ListComp elt gens scope pos) 1 it (.ref D) cenv) R s₂) E s := by
  have N' : News h₀ L s.heap ((I₁, o₁) :: news) := fun p hp => by
    rcases List.mem_cons.mp hp with rfl | hp
    · exact N _ (List.mem_cons_self ..)
    · exact N p (List.mem_cons_of_mem _ (List.mem_cons_of_mem _ (List.mem_cons_of_mem _ hp)))
  refine src_iter hh N' c fun oI St W hst hfI hS => ?_
  have up : ∀ b o, s.heap.get? b = some o → (s.heap.push oI).get? b = some o := fun b o e => Heap.get?_push_of_some _ e
  have fresh₀ : h₀.get? s.heap.objs.size = none := by
    cases e : h₀.get? s.heap.objs.size with
    | none => rfl
    | some o' => have := lt_size' (F.keep _ o' e); omega
  have hLlt : @LT.lt Nat instLTNat L s.heap.objs.size := F.ns.lt
  have N₂ : News h₀ L (s.heap.push oI) ((s.heap.objs.size, oI) :: (C, oC) :: (D, lst ys) :: (I₁, o₁) :: news) := fun p hp => by
    rcases List.mem_cons.mp hp with rfl | hp
    · exact ⟨Heap.get?_push_size _ hfI, neGt hLlt, fresh₀⟩
    · have hp' : p ∈ (I₁, o₁) :: (C, oC) :: (D, lst ys) :: news := by
        simp only [List.mem_cons] at hp ⊢
        rcases hp with h | h | h | h
        · exact .inr (.inl h)
        · exact .inr (.inr (.inl h))
        · exact .inl h
        · exact .inr (.inr (.inr h))
      exact ⟨up _ _ (N p hp').1, (N p hp').2⟩
  have lt : ∀ p ∈ (I₁, o₁) :: (C, oC) :: (D, lst ys) :: news, @LT.lt Nat instLTNat p.1 s.heap.objs.size := fun p hp => lt_size' (N p hp).1
  refine comp_start hg ha W hst (loop _ oI St _ W hst (F.keeps up) N₂ ⟨?_, ?_, ap.2.2.1, fun p hp => ?_⟩ hS)
  · exact neGt (lt (C, oC) (List.mem_cons_of_mem _ (List.mem_cons_self ..)))
  · exact neGt (lt (D, lst ys) (List.mem_cons_of_mem _ (List.mem_cons_of_mem _ (List.mem_cons_self ..))))
  · rcases List.mem_cons.mp hp with rfl | hp
    · exact ⟨neLt (lt _ (List.mem_cons_self ..)), ap.1, ap.2.1⟩
    · exact ⟨neLt (lt p (List.mem_cons_of_mem _ (List.mem_cons_of_mem _ (List.mem_cons_of_mem _ hp)))), (ap.2.2.2 p hp).2⟩

theorem comp_inner {e i2 : Expr} {acc : Value} {cenv : Env} {Q : Unit → Shared → Prop} {s : Shared} (hs : ∀ x, foldedSetIterable i2 cenv x = pure x)
    (h : wpAny (model prog w) A (eval i2 cenv) (fun x s₁ => wpAny (model prog w) A (pyIter x) (fun it s₂ => codeAny (model prog w) A (.compStart e 1 it acc cenv) (fun r s₃ => match r with | .ok _ => Q () s₃ | .error x => cameBackBy (model prog w) A cenv E x s₃) s₂) E s₁) E s) :
    wpAny (model prog w) A (eval i2 cenv >>= fun x => standAt i2.pos >>= fun _ => foldedSetIterable i2 cenv x >>= fun x => holding [x] (pyIter x) >>= fun it => runOwn (.compStart e 1 it acc cenv) cenv >>= fun _ => pure ()) Q E s := by
  refine wpAny_bind (wpAny_mono h (fun x s₁ h₁ => wpAny_bind (wpAny_standAt (wpAny_bind (wpAny_of_eq (hs x) (wpAny_bind (wpAny_holding (wpAny_mono h₁ (fun it s₂ h₂ => ?_) fun _ _ e => e))))))) fun _ _ e => e)
  exact wpAny_bind (wpAny_runOwn (codeAny_mono h₂ fun r s₃ h₃ => by
    cases r with
    | ok f => exact wpAny_pure h₃
    | error x => exact h₃))

theorem comp_done {C D : Addr} {oC : Obj} {mC : Str → Option Value} {ys : List Value} {news : List (Addr × Obj)} {h₀ h : Heap} {tk : Nat} {Q : Value → Shared → Prop}
    (F : Fr h₀ L h m) (N : News h₀ L h ((C, oC) :: (D, lst ys) :: news)) (oc : NsObj oC mC) (hCD : C ≠ D) (off : ∀ p ∈ news, p.1 ≠ C)
    (fin : ∀ h', Fr h₀ L h' m → News h₀ L h' ((D, lst ys) :: news) → Q (.ref D) { s with heap := h', toks := tk }) :
    compPost (model prog w) A E none Q (.ref D) C (.ok .next) { s with heap := h, toks := tk } := by
  have zC := N _ (List.mem_cons_self ..)
  refine ⟨mC, oc.ns zC.1, fun h'' hs'' => fin h'' (F.change hs'' zC.2.1 zC.2.2) fun p hp => ?_⟩
  have z := N p (List.mem_cons_of_mem _ hp)
  refine ⟨hs''.extBut _ _ ?_ z.1, z.2⟩
  rcases List.mem_cons.mp hp with rfl | hp
  · exact Ne.symm hCD
  · exact off p hp
theorem comp_doneA {env : Env} {y : Str} {py : Pos} {C D : Addr} {oC : Obj} {mC : Str → Option Value} {ys : List Value} {news : List (Addr × Obj)} {h₀ h : Heap} {tk : Nat} {Q : Flow → Shared → Prop}
    (hLe : env.locals = L) (hy : env.kindOf y = some .local) (hp : (env.scope.kind == .class || (env.scope.kind == .module && env.locals != env.globals)) = false)
    (F : Fr h₀ L h m) (N : News h₀ L h ((C, oC) :: (D, lst ys) :: news)) (oc : NsObj oC mC) (hCD : C ≠ D) (off : ∀ p ∈ news, p.1 ≠ C)
    (fin : ∀ h', Fr h₀ L h' (fun z => if z = y then some (.ref D) else m z) → News h₀ L h' ((D, lst ys) :: news) → Q .next { s with heap := h', toks := tk + 1 }) :
    compPost (model prog w) A E (some (assign (.Name y py) env)) (fun _ s' => Q .next s') (.ref D) C (.ok .next) { s with heap := h, toks := tk } := by
  subst hLe
  have zC := N _ (List.mem_cons_self ..)
  show wpAny _ A (assign (.Name y py) env (.ref D)) _ _ _
  refine wpAny_assign_Name (wpAny_storeName_local hy F.ns (fun h₂ hn₂ hs₂ => ?_) hp)
  have hL₀ : h₀.get? env.locals = none := Heap.get?_none_of_le F.above
  have F₂ : Fr h₀ env.locals h₂ (fun z => if z = y then some (.ref D) else m z) := ⟨hn₂, fun b o e => hs₂.extBut b o (fun q => by rw [q, hL₀] at e; cases e) (F.keep b o e), F.above⟩
  refine ⟨mC, (oc.ns zC.1).sameBut hs₂ zC.2.1, fun h'' hs'' => fin h'' (F₂.change hs'' zC.2.1 zC.2.2) fun p hp => ?_⟩
  have z := N p (List.mem_cons_of_mem _ hp)
  refine ⟨hs''.extBut _ _ ?_ (hs₂.extBut _ _ z.2.1 z.1), z.2⟩
  rcases List.mem_cons.mp hp with rfl | hp
  · exact Ne.symm hCD
  · exact off p hp

/-- one clause, no test: what is to be shown where the walked thing is at hand -/
noncomputable def Comp1 (prog : Program) (w : World) (A : Around) (L : Addr) (m : Str → Option Value) (env : Env) (elt : Expr) (x : Str) (scope : Scope) (cl : List (Str × Addr)) (Fin : Addr → Addr → Heap → List Value → List (Addr × Obj) → Shared → Prop) (xv : Value) (s₁ : Shared) : Prop :=
  ∃ h₀ news n P S, ∃ J : Addr → Heap → Nat → List Value → List (Addr × Obj) → Prop, A.handled = none ∧ Fr h₀ L s₁.heap m ∧ News h₀ L s₁.heap news ∧ Src s₁.heap news xv n P S ∧ n ≤ sizeLine ∧
    (∀ I, (∀ p ∈ news, p.1 < I) → J I h₀ 0 [] news) ∧
    (∀ I C D h₀ i v oI oC mC ys news h tk E', I < D → D < C → i < n → P i v → ys.length = i → J I h₀ i ys news → NsObj oC mC → mC x = some v → Fr h₀ L h m → News h₀ L h ((I, oI) :: (C, oC) :: (D, lst ys) :: news) → Apart I C D news → S news →
      wpAny (model prog w) A (eval elt (compEnvC scope cl C env)) (CEnd L m { s₁ with heap := h, toks := tk } I oI C D ys mC S (fun h₀ y news => J I h₀ (i + 1) (ys ++ [y]) news)) E' { s₁ with heap := h, toks := tk }) ∧
    (∀ I D h₀ ys news h tk, I < D → ys.length = n → J I h₀ n ys news → (∀ p ∈ news, p.1 ≠ D) → Fin D L h₀ ys news { s₁ with heap := h, toks := tk })

theorem comp1_loop {elt iter : Expr} {x : Str} {px : Pos} {scope : Scope} {cl : List (Str × Addr)} {pos : Pos} {env : Env} {Fin : Addr → Addr → Heap → List Value → List (Addr × Obj) → Shared → Prop} {RR : Value → Addr → Result → Shared → Prop} {xv : Value} {s₁ : Shared}
    (hcell : ∀ y ∈ scope.names, y.2 ≠ .cell) (hkind : scope.kind = .function) (hx : scope.names.lookup x = some .local)
    (h : Comp1 prog w A L m env elt x scope cl Fin xv s₁)
    (fin : ∀ C D h₀ oC mC ys news h tk, Fr h₀ L h m → News h₀ L h ((C, oC) :: (D, lst ys) :: news) → NsObj oC mC → C ≠ D → (∀ p ∈ news, p.1 ≠ C) → (∀ h' tk', Fin D L h₀ ys news { s₁ with heap := h', toks := tk' }) → RR (.ref D) C (.ok .next) { s₁ with heap := h, toks := tk }) :
    wpAny (model prog w) A (pyIter xv) (fun it s₂ => wpAny (model prog w) A (newList []) (fun acc s₃ => wpAny (model prog w) A (newFunctionEnv scope env.globals cl [] env.qual none .none (some env)) (fun cenv s₄ =>
      codeAny (model prog w) A (.compStart (.ListComp elt [⟨.Name x px, iter, [], 0⟩] scope pos) 0 it acc { cenv with scope := relabel scope env }) (RR acc cenv.locals) s₄) E s₃) E s₂) E s₁ := by
  obtain ⟨h₀, news, n, P, S, J, hh, F, N, c, hn, start, turn, done⟩ := h
  refine comp_block hh rfl rfl hcell hkind F N c fun I C D oI oC St h tk W hst hlt hID hDC F N oc ap hS => ?_
  refine comp_loop (cenv := compEnvC scope cl C env) (x := x) (px := px) (fun h₀ i ys mC news => ys.length = i ∧ J I h₀ i ys news) (compTurn_list1 _ _ _ _ _ _ _ _) (lookup_relabel_local hx) (by simp [compEnvC, relabel, hkind]) rfl W hst F N oc ap hS ⟨rfl, start I hlt⟩ ?_ ?_
  · rintro h₀ i v oI oC mC ys news h tk E' hi hP ⟨hl, hJ⟩ oc F N ap hS
    refine comp_emit (J := fun h₀ i ys mC news => ys.length = i ∧ J I h₀ i ys news) (ys := ys) (mC := fun y => if y = x then some v else mC y) (by omega) rfl (wpAny_mono (turn I C D h₀ i v oI oC _ ys news h tk E' hID hDC hi hP hl hJ oc (by simp) F N ap hS) (fun y s₂ h₂ => ?_) fun _ _ e => e)
    obtain ⟨h₀', h', tk', news', oC', e, F', N', oc', ap', hS', hJ'⟩ := h₂
    exact ⟨h₀', h', tk', news', oC', e, F', N', oc', ap', hS', by rw [List.length_append, List.length_singleton, hl], hJ'⟩
  · rintro h₀ oC mC ys news h tk ⟨hl, hJ⟩ oc F N ap _
    exact fin C D h₀ oC mC ys news h tk F N oc ap.2.2.1 (fun p hp => (ap.2.2.2 p hp).2.1) fun h' tk' => done I D h₀ ys news h' tk' hID hl hJ fun p hp => (ap.2.2.2 p hp).2.2
theorem listcomp1 {h₉ : Heap} (_F₀ : Fr h₉ L s.heap m) {elt iter : Expr} {x : Str} {px : Pos} {scope : Scope} {cl : List (Str × Addr)} {pos : Pos} {env : Env} {Q : Value → Shared → Prop}
    (hclos : closureFor scope env = pure cl) (hcell : ∀ y ∈ scope.names, y.2 ≠ .cell) (hkind : scope.kind = .function)
    (hnames : ∀ y ∈ scope.names, y.2 = .local → scope.names.lookup y.1 = some .local) (hx : scope.names.lookup x = some .local)
    (h : wpAny (model prog w) A (eval iter env) (Comp1 prog w A L m env elt x scope cl (fun D L h₀ ys news s' => Fr h₀ L s'.heap m → News h₀ L s'.heap ((D, lst ys) :: news) → Q (.ref D) s')) E s)
    (hs : ∀ x, foldedSetIterable iter env x = pure x := by intro _; rfl) :
    wpAny (model prog w) A (eval (.ListComp elt [⟨.Name x px, iter, [], 0⟩] scope pos) env) Q E s := by
  rw [eval_ListComp]
  refine wpAny_comprehension_free (use := none) rfl hs hclos hkind hnames (wpAny_mono h (fun xv s₁ h₁ => ?_) fun _ _ e => e)
  exact comp1_loop (RR := fun acc C r s' => compPost (model prog w) A E none Q acc C r s') hcell hkind hx h₁ fun C D h₀ oC mC ys news h tk F N oc hCD off fin => comp_done F N oc hCD off fun h' F' N' => fin h' tk F' N'
theorem listcomp1A {h₉ : Heap} (_F₀ : Fr h₉ L s.heap m) {elt iter : Expr} {x y : Str} {px py : Pos} {scope : Scope} {cl : List (Str × Addr)} {pos spos : Pos} {env : Env} {Q : Flow → Shared → Prop} (hLe : env.locals = L)
    (hsw : swapsWith (.ListComp elt [⟨.Name x px, iter, [], 0⟩] scope pos) (some (.Name y py)) spos.line env = pure true)
    (hclos : closureFor scope env = pure cl) (hcell : ∀ y ∈ scope.names, y.2 ≠ .cell) (hkind : scope.kind = .function)
    (hnames : ∀ y ∈ scope.names, y.2 = .local → scope.names.lookup y.1 = some .local) (hx : scope.names.lookup x = some .local)
    (hy : env.kindOf y = some .local) (hp : (env.scope.kind == .class || (env.scope.kind == .module && env.locals != env.globals)) = false)
    (h : wpAny (model prog w) A (eval iter env) (Comp1 prog w A L m env elt x scope cl (fun D L h₀ ys news s' => Fr h₀ L s'.heap (fun z => if z = y then some (.ref D) else m z) → News h₀ L s'.heap ((D, lst ys) :: news) → Q .next s')) E s)
    (hs : ∀ x, foldedSetIterable iter env x = pure x := by intro _; rfl) :
    wpAny (model prog w) A (exec (.Assign [.Name y py] (.ListComp elt [⟨.Name x px, iter, [], 0⟩] scope pos) spos) env) Q E s := by
  rw [exec_Assign_Name_used _ _ _ _ hsw]
  refine wpAny_bind (wpAny_standAt (wpAny_bind ?_))
  show wpAny _ A (do let _ ← comprehension (.ListComp elt [⟨.Name x px, iter, [], 0⟩] scope pos) scope env _ (newList []) false (eval iter env) (some (assign (.Name y py) env))) _ _ s
  refine wpAny_bind (wpAny_mono (wpAny_comprehension_free (use := some (assign (.Name y py) env)) (Q := fun _ s' => Q .next s') rfl hs hclos hkind hnames
    (wpAny_mono h (fun xv s₁ h₁ => ?_) fun _ _ e => e)) (fun _ s' hq => wpAny_pure (wpAny_pure hq)) fun _ _ e => e)
  exact comp1_loop (RR := fun acc C r s' => compPost (model prog w) A E (some (assign (.Name y py) env)) (fun _ s' => Q .next s') acc C r s') hcell hkind hx h₁ fun C D h₀ oC mC ys news h tk F N oc hCD off fin => comp_doneA hLe hy hp F N oc hCD off fun h' F' N' => fin h' _ F' N'

theorem compTurn_two0 (elt : Expr) (x y : Str) (px py : Pos) (i1 i2 : Expr) (scope : Scope) (pos : Pos) (it acc : Value) (env : Env) :
    compTurn (.ListComp elt [⟨.Name x px, i1, [], 0⟩, ⟨.Name y py, i2, [], 0⟩] scope pos) 0 it acc env = (standAt i1.pos >>= fun _ => pyNext it >>= fun r => match r with
      | none => pure (.done .next)
      | some v => letOwnedTupleGo (.Name x px) it v >>= fun _ => assign (.Name x px) env v >>= fun _ =>
        (eval i2 env >>= fun z => standAt i2.pos >>= fun _ => foldedSetIterable i2 env z >>= fun z => holding [z] (pyIter z) >>= fun it' => runOwn (.compStart (.ListComp elt [⟨.Name x px, i1, [], 0⟩, ⟨.Name y py, i2, [], 0⟩] scope pos) 1 it' acc env) env >>= fun _ => pure ()) >>= fun _ =>
          again (.compLoop (.ListComp elt [⟨.Name x px, i1, [], 0⟩, ⟨.Name y py, i2, [], 0⟩] scope pos) 0 it acc env)) := by
  simp only [bind_assoc, pure_bind]
  rfl
theorem compTurn_two1 (elt : Expr) (x y : Str) (px py : Pos) (i1 i2 : Expr) (scope : Scope) (pos : Pos) (it acc : Value) (env : Env) :
    compTurn (.ListComp elt [⟨.Name x px, i1, [], 0⟩, ⟨.Name y py, i2, [], 0⟩] scope pos) 1 it acc env = (standAt i2.pos >>= fun _ => pyNext it >>= fun r => match r with
      | none => pure (.done .next)
      | some v => letOwnedTupleGo (.Name y py) it v >>= fun _ => assign (.Name y py) env v >>= fun _ =>
        (eval elt env >>= fun x => call (.builtin "list.append") [acc, x] >>= fun _ => pure ()) >>= fun _ =>
          again (.compLoop (.ListComp elt [⟨.Name x px, i1, [], 0⟩, ⟨.Name y py, i2, [], 0⟩] scope pos) 1 it acc env)) := by rfl

/-- the second clause: what is to be shown where its own walked thing is at hand -/
noncomputable def Inner2 (prog : Program) (w : World) (A : Around) (L : Addr) (m : Str → Option Value) (elt : Expr) (x y : Str) (cenv : Env) (I : Addr) (oI : Obj) (C D : Addr) (v : Value) (ys₀ : List Value) (mC : Str → Option Value) (S : List (Addr × Obj) → Prop) (s : Shared) (Go : Heap → List Value → List (Addr × Obj) → Prop) (xv : Value) (s₂ : Shared) : Prop :=
  ∃ h₀ h' tk' news oC n P S₂, ∃ J : Heap → Nat → List Value → List (Addr × Obj) → Prop, s₂ = { s with heap := h', toks := tk' } ∧ Fr h₀ L h' m ∧ News h₀ L h' ((I, oI) :: (C, oC) :: (D, lst ys₀) :: news) ∧ NsObj oC mC ∧ Apart I C D news ∧ S news ∧ Src h' ((I, oI) :: news) xv n P S₂ ∧ J h₀ 0 ys₀ news ∧
    (∀ h₀ i v₂ I₂ o₂ oC mC ys news h tk E', i < n → P i v₂ → J h₀ i ys news → NsObj oC mC → mC x = some v → mC y = some v₂ → Fr h₀ L h m → News h₀ L h ((I₂, o₂) :: (C, oC) :: (D, lst ys) :: (I, oI) :: news) → Apart I₂ C D ((I, oI) :: news) → S news → S₂ ((I, oI) :: news) → ys.length ≤ sizeLine ∧
      wpAny (model prog w) A (eval elt cenv) (CEnd L m { s with heap := h, toks := tk } I₂ o₂ C D ys mC (fun nw => ∃ news', nw = (I, oI) :: news' ∧ S news' ∧ S₂ nw ∧ Apart I C D news') (fun h₀ z nw => ∀ news', nw = (I, oI) :: news' → J h₀ (i + 1) (ys ++ [z]) news')) E' { s with heap := h, toks := tk }) ∧
    (∀ h₀ ys news, J h₀ n ys news → Go h₀ ys news)
noncomputable def Comp2 (prog : Program) (w : World) (A : Around) (L : Addr) (m : Str → Option Value) (env : Env) (elt i2 : Expr) (x y : Str) (scope : Scope) (cl : List (Str × Addr)) (Fin : Addr → Addr → Heap → List Value → List (Addr × Obj) → Shared → Prop) (xv : Value) (s₁ : Shared) : Prop :=
  ∃ h₀ news n P S, ∃ J : Addr → Heap → Nat → List Value → List (Addr × Obj) → Prop, A.handled = none ∧ Fr h₀ L s₁.heap m ∧ News h₀ L s₁.heap news ∧ Src s₁.heap news xv n P S ∧
    (∀ I, (∀ p ∈ news, p.1 < I) → J I h₀ 0 [] news) ∧
    (∀ I C D h₀ i v oI oC mC ys news h tk E', I < D → D < C → i < n → P i v → J I h₀ i ys news → NsObj oC mC → mC x = some v → Fr h₀ L h m → News h₀ L h ((I, oI) :: (C, oC) :: (D, lst ys) :: news) → Apart I C D news → S news →
      wpAny (model prog w) A (eval i2 (compEnvC scope cl C env)) (Inner2 prog w A L m elt x y (compEnvC scope cl C env) I oI C D v ys mC S { s₁ with heap := h, toks := tk } (fun h₀ ys news => J I h₀ (i + 1) ys news)) E' { s₁ with heap := h, toks := tk }) ∧
    (∀ I D h₀ ys news h tk, I < D → J I h₀ n ys news → (∀ p ∈ news, p.1 ≠ D) → Fin D L h₀ ys news { s₁ with heap := h, toks := tk })

theorem comp2_loop {elt i1 i2 : Expr} {x y : Str} {px py : Pos} {scope : Scope} {cl : List (Str × Addr)} {pos : Pos} {env : Env} {Fin : Addr → Addr → Heap → List Value → List (Addr × Obj) → Shared → Prop} {RR : Value → Addr → Result → Shared → Prop} {xv : Value} {s₁ : Shared}
    (hcell : ∀ y ∈ scope.names, y.2 ≠ .cell) (hkind : scope.kind = .function) (hx : scope.names.lookup x = some .local) (hy : scope.names.lookup y = some .local) (hxy : x ≠ y) (hs2 : ∀ C z, foldedSetIterable i2 (compEnvC scope cl C env) z = pure z)
    (h : Comp2 prog w A L m env elt i2 x y scope cl Fin xv s₁)
    (fin : ∀ C D h₀ oC mC ys news h tk, Fr h₀ L h m → News h₀ L h ((C, oC) :: (D, lst ys) :: news) → NsObj oC mC → C ≠ D → (∀ p ∈ news, p.1 ≠ C) → (∀ h' tk', Fin D L h₀ ys news { s₁ with heap := h', toks := tk' }) → RR (.ref D) C (.ok .next) { s₁ with heap := h, toks := tk }) :
    wpAny (model prog w) A (pyIter xv) (fun it s₂ => wpAny (model prog w) A (newList []) (fun acc s₃ => wpAny (model prog w) A (newFunctionEnv scope env.globals cl [] env.qual none .none (some env)) (fun cenv s₄ =>
      codeAny (model prog w) A (.compStart (.ListComp elt [⟨.Name x px, i1, [], 0⟩, ⟨.Name y py, i2, [], 0⟩] scope pos) 0 it acc { cenv with scope := relabel scope env }) (RR acc cenv.locals) s₄) E s₃) E s₂) E s₁ := by
  obtain ⟨h₀, news, n, P, S, J, hh, F, N, c, start, turn, done⟩ := h
  refine comp_block hh rfl rfl hcell hkind F N c fun I C D oI oC St h tk W hst hlt hID hDC F N oc ap hS => ?_
  refine comp_loop (cenv := compEnvC scope cl C env) (x := x) (px := px) (fun h₀ i ys mC news => J I h₀ i ys news) (compTurn_two0 _ _ _ _ _ _ _ _ _ _ _ _) (lookup_relabel_local hx) (by simp [compEnvC, relabel, hkind]) rfl W hst F N oc ap hS (start I hlt) ?_ ?_
  · rintro h₀ i v oI oC mC ys news h tk E' hi hP hJ oc F N ap hS
    refine comp_inner (hs2 C) (wpAny_mono (turn I C D h₀ i v oI oC _ ys news h tk E' hID hDC hi hP hJ oc (by simp) F N ap hS) (fun x2 s₂ h₂ => ?_) fun _ _ e => e)
    obtain ⟨h₀', h', tk', news', oC', n2, P2, S2, J2, rfl, F', N', oc', ap', hS', c2, hJ2, turn2, done2⟩ := h₂
    refine comp_second hh rfl rfl F' N' ap' c2 fun I2 o2 St2 h2 W2 hst2 F2 N2 ap2 hS2 => ?_
    refine comp_loop (s := { s₁ with heap := h, toks := tk }) (cenv := compEnvC scope cl C env) (x := y) (px := py) (S := fun nw => ∃ news', nw = (I, oI) :: news' ∧ S news' ∧ S2 nw ∧ Apart I C D news') (fun h₀ j ys mC nw => mC x = some v ∧ ∀ news', nw = (I, oI) :: news' → J2 h₀ j ys news') (compTurn_two1 _ _ _ _ _ _ _ _ _ _ _ _) (lookup_relabel_local hy) (by simp [compEnvC, relabel, hkind]) rfl
      ⟨W2.fp, W2.io, fun i h h' o nw h₀ st e e' N hS => W2.st i h h' o nw h₀ st e e' N hS.choose_spec.2.2.1⟩ hst2 F2 N2 oc' ap2 ⟨_, rfl, hS', hS2, ap'⟩ ⟨by simp, fun news' e => by cases e; exact hJ2⟩ ?_ ?_
    · rintro h₀ j v2 oI2 oC2 mC2 ys2 nw h tk E2 hj hP2 ⟨hmx, hJ⟩ oc2 F N ap3 ⟨news3, rfl, hS3, hS4, ap4⟩
      obtain ⟨hl, ht⟩ := turn2 h₀ j v2 I2 oI2 oC2 _ ys2 news3 h tk E2 hj hP2 (hJ _ rfl) oc2 (by rw [if_neg hxy]; exact hmx) (by simp) F N ap3 hS3 hS4
      refine comp_emit (J := fun h₀ j ys mC nw => mC x = some v ∧ ∀ news', nw = (I, oI) :: news' → J2 h₀ j ys news') (ys := ys2) (mC := fun z => if z = y then some v2 else mC2 z) hl rfl (wpAny_mono ht (fun z s₂ h₂ => ?_) fun _ _ e => e)
      obtain ⟨h₀', h', tk', nw', oC', e, F', N', oc', ap', hS', hJ'⟩ := h₂
      exact ⟨h₀', h', tk', nw', oC', e, F', N', oc', ap', hS', by rw [if_neg hxy]; exact hmx, hJ'⟩
    · rintro h₀ oC mC ys nw h tk ⟨hmx, hJ⟩ oc F N ap ⟨news3, rfl, hS3, hS4, ap4⟩
      refine ⟨h₀, h, tk, ys, mC, oC, news3, rfl, F, fun p hp => N p ?_, oc, ap4, hS3, done2 h₀ ys news3 (hJ _ rfl)⟩
      simp only [List.mem_cons] at hp ⊢
      rcases hp with h | h | h | h
      · exact .inr (.inr (.inl h))
      · exact .inl h
      · exact .inr (.inl h)
      · exact .inr (.inr (.inr h))
  · rintro h₀ oC mC ys news h tk hJ oc F N ap _
    exact fin C D h₀ oC mC ys news h tk F N oc ap.2.2.1 (fun p hp => (ap.2.2.2 p hp).2.1) fun h' tk' => done I D h₀ ys news h' tk' hID hJ fun p hp => (ap.2.2.2 p hp).2.2
theorem listcomp2 {h₉ : Heap} (_F₀ : Fr h₉ L s.heap m) {elt i1 i2 : Expr} {x y : Str} {px py : Pos} {scope : Scope} {cl : List (Str × Addr)} {pos : Pos} {env : Env} {Q : Value → Shared → Prop}
    (hclos : closureFor scope env = pure cl) (hcell : ∀ y ∈ scope.names, y.2 ≠ .cell) (hkind : scope.kind = .function)
    (hnames : ∀ y ∈ scope.names, y.2 = .local → scope.names.lookup y.1 = some .local) (hx : scope.names.lookup x = some .local) (hy : scope.names.lookup y = some .local) (hxy : x ≠ y) (hs2 : ∀ C z, foldedSetIterable i2 (compEnvC scope cl C env) z = pure z)
    (h : wpAny (model prog w) A (eval i1 env) (Comp2 prog w A L m env elt i2 x y scope cl (fun D L h₀ ys news s' => Fr h₀ L s'.heap m → News h₀ L s'.heap ((D, lst ys) :: news) → Q (.ref D) s')) E s)
    (hs : ∀ x, foldedSetIterable i1 env x = pure x := by intro _; rfl) :
    wpAny (model prog w) A (eval (.ListComp elt [⟨.Name x px, i1, [], 0⟩, ⟨.Name y py, i2, [], 0⟩] scope pos) env) Q E s := by
  rw [eval_ListComp]
  refine wpAny_comprehension_free (use := none) rfl hs hclos hkind hnames (wpAny_mono h (fun xv s₁ h₁ => ?_) fun _ _ e => e)
  exact comp2_loop (RR := fun acc C r s' => compPost (model prog w) A E none Q acc C r s') hcell hkind hx hy hxy hs2 h₁ fun C D h₀ oC mC ys news h tk F N oc hCD off fin => comp_done F N oc hCD off fun h' F' N' => fin h' tk F' N'
theorem listcomp2A {h₉ : Heap} (_F₀ : Fr h₉ L s.heap m) {elt i1 i2 : Expr} {x y z : Str} {px py pz : Pos} {scope : Scope} {cl : List (Str × Addr)} {pos spos : Pos} {env : Env} {Q : Flow → Shared → Prop} (hLe : env.locals = L)
    (hsw : swapsWith (.ListComp elt [⟨.Name x px, i1, [], 0⟩, ⟨.Name y py, i2, [], 0⟩] scope pos) (some (.Name z pz)) spos.line env = pure true)
    (hclos : closureFor scope env = pure cl) (hcell : ∀ y ∈ scope.names, y.2 ≠ .cell) (hkind : scope.kind = .function)
    (hnames : ∀ y ∈ scope.names, y.2 = .local → scope.names.lookup y.1 = some .local) (hx : scope.names.lookup x = some .local) (hy : scope.names.lookup y = some .local) (hxy : x ≠ y) (hs2 : ∀ C z, foldedSetIterable i2 (compEnvC scope cl C env) z = pure z)
    (hz : env.kindOf z = some .local) (hp : (env.scope.kind == .class || (env.scope.kind == .module && env.locals != env.globals)) = false)
    (h : wpAny (model prog w) A (eval i1 env) (Comp2 prog w A L m env elt i2 x y scope cl (fun D L h₀ ys news s' => Fr h₀ L s'.heap (fun u => if u = z then some (.ref D) else m u) → News h₀ L s'.heap ((D, lst ys) :: news) → Q .next s')) E s)
    (hs : ∀ x, foldedSetIterable i1 env x = pure x := by intro _; rfl) :
    wpAny (model prog w) A (exec (.Assign [.Name z pz] (.ListComp elt [⟨.Name x px, i1, [], 0⟩, ⟨.Name y py, i2, [], 0⟩] scope pos) spos) env) Q E s := by
  rw [exec_Assign_Name_used _ _ _ _ hsw]
  refine wpAny_bind (wpAny_standAt (wpAny_bind ?_))
  show wpAny _ A (do let _ ← comprehension (.ListComp elt [⟨.Name x px, i1, [], 0⟩, ⟨.Name y py, i2, [], 0⟩] scope pos) scope env _ (newList []) false (eval i1 env) (some (assign (.Name z pz) env))) _ _ s
  refine wpAny_bind (wpAny_mono (wpAny_comprehension_free (use := some (assign (.Name z pz) env)) (Q := fun _ s' => Q .next s') rfl hs hclos hkind hnames
    (wpAny_mono h (fun xv s₁ h₁ => ?_) fun _ _ e => e)) (fun _ s' hq => wpAny_pure (wpAny_pure hq)) fun _ _ e => e)
  exact comp2_loop (RR := fun acc C r s' => compPost (model prog w) A E (some (assign (.Name z pz) env)) (fun _ s' => Q .next s') acc C r s') hcell hkind hx hy hxy hs2 h₁ fun C D h₀ oC mC ys news h tk F N oc hCD off fin => comp_doneA hLe hz hp F N oc hCD off fun h' F' N' => fin h' _ F' N'

theorem cend_same {h₀ : Heap} {I C D : Addr} {oI oC : Obj} {ys : List Value} {mC : Str → Option Value} {S : List (Addr × Obj) → Prop} {Kp : Heap → Value → List (Addr × Obj) → Prop} {y : Value} {h : Heap} {tk : Nat} {news : List (Addr × Obj)}
    (F : Fr h₀ L h m) (N : News h₀ L h ((I, oI) :: (C, oC) :: (D, lst ys) :: news)) (oc : NsObj oC mC) (ap : Apart I C D news) (hS : S news) (k : Kp h₀ y news) : CEnd L m s I oI C D ys mC S Kp y { s with heap := h, toks := tk } :=
  ⟨h₀, h, tk, news, oC, rfl, F, N, oc, ap, hS, k⟩
theorem cend_new {h₀ : Heap} {I C D l : Addr} {o oI oC : Obj} {ys : List Value} {mC : Str → Option Value} {S : List (Addr × Obj) → Prop} {Kp : Heap → Value → List (Addr × Obj) → Prop} {y : Value} {h : Heap} {tk : Nat} {news : List (Addr × Obj)}
    (F : Fr h₀ L h m) (N : News h₀ L h ((l, o) :: (I, oI) :: (C, oC) :: (D, lst ys) :: news)) (lt : I < l ∧ C < l ∧ D < l ∧ AllLt l news) (oc : NsObj oC mC) (ap : Apart I C D news) (hS : S ((l, o) :: news)) (k : Kp h₀ y ((l, o) :: news)) : CEnd L m s I oI C D ys mC S Kp y { s with heap := h, toks := tk } := by
  refine ⟨h₀, h, tk, (l, o) :: news, oC, rfl, F, fun p hp => N p ?_, oc, ⟨ap.1, ap.2.1, ap.2.2.1, fun p hp => ?_⟩, hS, k⟩
  · simp only [List.mem_cons] at hp ⊢
    rcases hp with h | h | h | h | h
    · exact .inr (.inl h)
    · exact .inr (.inr (.inl h))
    · exact .inr (.inr (.inr (.inl h)))
    · exact .inl h
    · exact .inr (.inr (.inr (.inr h)))
  · rcases List.mem_cons.mp hp with rfl | hp
    · exact ⟨neGt lt.1, neGt lt.2.1, neGt lt.2.2.1⟩
    · exact ap.2.2.2 p hp

/-- the common case: nothing of the ground turns, new objects may come, each result stands for itself -/
theorem Comp1.grow {env : Env} {elt : Expr} {x : Str} {scope : Scope} {cl : List (Str × Addr)} {Fin : Addr → Addr → Heap → List Value → List (Addr × Obj) → Shared → Prop} {xv : Value} {s₁ : Shared} {h₀ : Heap} {news : List (Addr × Obj)} {n : Nat} {P : Nat → Value → Prop} {S : List (Addr × Obj) → Prop}
    (R : Nat → List (Addr × Obj) → Value → Prop) (mono : ∀ i ex ex' v, (∀ p ∈ ex, p ∈ ex') → R i ex v → R i ex' v)
    (hh : A.handled = none) (F : Fr h₀ L s₁.heap m) (N : News h₀ L s₁.heap news) (c : Src s₁.heap news xv n P S) (hn : n ≤ sizeLine)
    (turn : ∀ I C D i v oI oC mC ys ex nw h tk E', I < D → D < C → i < n → P i v → ys.length = i → nw = ex ++ news → (∀ q ∈ news, q ∈ nw) → NsObj oC mC → mC x = some v → Fr h₀ L h m → News h₀ L h ((I, oI) :: (C, oC) :: (D, lst ys) :: nw) → Apart I C D nw → S nw → (∀ j u, ys[j]? = some u → R j ex u) →
      wpAny (model prog w) A (eval elt (compEnvC scope cl C env)) (CEnd L m { s₁ with heap := h, toks := tk } I oI C D ys mC S (fun g y nw' => g = h₀ ∧ ∃ ex', nw' = ex' ++ nw ∧ (∀ p ∈ ex', I < p.1) ∧ R i (ex' ++ ex) y)) E' { s₁ with heap := h, toks := tk })
    (fin : ∀ D ys ex nw h tk, ys.length = n → (∀ i v, ys[i]? = some v → R i ex v) → (∀ p ∈ ex, ∀ q ∈ news, q.1 < p.1) → (∀ q ∈ news, q.1 < D) → (∀ p ∈ ex, p.1 ≠ D) → nw = ex ++ news → (∀ q ∈ news, q ∈ nw) → Fin D L h₀ ys nw { s₁ with heap := h, toks := tk }) :
    Comp1 prog w A L m env elt x scope cl Fin xv s₁ := by
  refine ⟨h₀, news, n, P, S, fun I g i ys nw => g = h₀ ∧ (∀ q ∈ news, q.1 < I) ∧ ∃ ex, nw = ex ++ news ∧ (∀ p ∈ ex, I < p.1) ∧ ∀ j u, ys[j]? = some u → R j ex u, hh, F, N, c, hn, ?_, ?_, ?_⟩
  · exact fun I hI => ⟨rfl, hI, [], rfl, fun p hp => (nomatch hp), fun j u e => by simp at e⟩
  · rintro I C D _ i v oI oC mC ys nw h tk E' hID hDC hi hP hl ⟨rfl, hI, ex, hX, hE, hR⟩ oc hx F N ap hS
    refine wpAny_mono (turn I C D i v oI oC mC ys ex nw h tk E' hID hDC hi hP hl hX (fun q hq => hX ▸ List.mem_append_right _ hq) oc hx F N ap hS hR) (fun y s₂ h₂ => ?_) fun _ _ e => e
    obtain ⟨h₀', h', tk', nw', oC', e, F', N', oc', ap', hS', rfl, ex', hX', hE', hR'⟩ := h₂
    refine ⟨h₀', h', tk', nw', oC', e, F', N', oc', ap', hS', rfl, hI, ex' ++ ex, by rw [hX', hX, List.append_assoc], fun p hp => ?_, fun j u hu => ?_⟩
    · rcases List.mem_append.mp hp with hp | hp
      · exact hE' p hp
      · exact hE p hp
    · by_cases hj : j < ys.length
      · rw [List.getElem?_append_left hj] at hu
        exact mono _ _ _ _ (fun p hp => List.mem_append_right _ hp) (hR j u hu)
      · rw [List.getElem?_append_right (Nat.le_of_not_lt hj)] at hu
        cases hz : j - ys.length with
        | zero =>
          rw [hz] at hu
          simp at hu
          subst hu
          have : j = i := by omega
          subst this
          exact hR'
        | succ k => rw [hz] at hu; simp at hu
  · rintro I D _ ys nw h tk hID hl ⟨rfl, hI, ex, rfl, hE, hR⟩ off
    exact fin D ys ex _ h tk hl hR (fun p hp q hq => Nat.lt_trans (hI q hq) (hE p hp)) (fun q hq => Nat.lt_trans (hI q hq) hID) (fun p hp => off p (List.mem_append_left _ hp)) rfl fun q hq => List.mem_append_right _ hq
theorem news_ins {h₀ : Heap} {h : Heap} {a p : Addr × Obj} {nw news : List (Addr × Obj)} (N : News h₀ L h (a :: nw)) (hs : ∀ q ∈ p :: news, q ∈ nw) : News h₀ L h (a :: p :: nw) := fun q hq => by
  rcases List.mem_cons.mp hq with rfl | hq
  · exact N _ (List.mem_cons_self ..)
  · rcases List.mem_cons.mp hq with rfl | hq
    · exact N _ (List.mem_cons_of_mem _ (hs _ (List.mem_cons_self ..)))
    · exact N _ (List.mem_cons_of_mem _ hq)
end
end
section
open LCg (NsObj ns_obj lst lst_snoc fr_but news_but)
section
variable {prog : Program} {w : World} {A : Around} {E : Value → Shared → Prop} {s : Shared} {L : Addr} {m : Str → Option Value}
theorem Comp2.still {env : Env} {elt i2 : Expr} {x y : Str} {scope : Scope} {cl : List (Str × Addr)} {Fin : Addr → Addr → Heap → List Value → List (Addr × Obj) → Shared → Prop} {xv : Value} {s₁ : Shared} {h₀ : Heap} {news : List (Addr × Obj)} {n : Nat} {P : Nat → Value → Prop} {S : List (Addr × Obj) → Prop}
    (R : Nat → List Value → Prop) (hh : A.handled = none) (F : Fr h₀ L s₁.heap m) (N : News h₀ L s₁.heap news) (c : Src s₁.heap news xv n P S) (start : R 0 [])
    (turn : ∀ I C D i v oI oC mC ys nw h tk E', I < D → D < C → i < n → P i v → R i ys → (∀ q ∈ news, q ∈ nw) → NsObj oC mC → mC x = some v → Fr h₀ L h m → News h₀ L h ((I, oI) :: (C, oC) :: (D, lst ys) :: nw) → Apart I C D nw → S nw →
      wpAny (model prog w) A (eval i2 (compEnvC scope cl C env)) (Inner2 prog w A L m elt x y (compEnvC scope cl C env) I oI C D v ys mC S { s₁ with heap := h, toks := tk } (fun g ys' nw' => g = h₀ ∧ (∀ q ∈ news, q ∈ nw') ∧ R (i + 1) ys')) E' { s₁ with heap := h, toks := tk })
    (fin : ∀ D ys nw h tk, R n ys → (∀ q ∈ news, q ∈ nw) → (∀ q ∈ news, q.1 < D) → Fin D L h₀ ys nw { s₁ with heap := h, toks := tk }) :
    Comp2 prog w A L m env elt i2 x y scope cl Fin xv s₁ := by
  refine ⟨h₀, news, n, P, S, fun I g i ys nw => g = h₀ ∧ (∀ q ∈ news, q.1 < I) ∧ (∀ q ∈ news, q ∈ nw) ∧ R i ys, hh, F, N, c, ?_, ?_, ?_⟩
  · exact fun I hI => ⟨rfl, hI, fun q hq => hq, start⟩
  · rintro I C D _ i v oI oC mC ys nw h tk E' hID hDC hi hP ⟨rfl, hI, hs, hR⟩ oc hx F N ap hS
    refine wpAny_mono (turn I C D i v oI oC mC ys nw h tk E' hID hDC hi hP hR hs oc hx F N ap hS) (fun xv s₂ h₂ => ?_) fun _ _ e => e
    obtain ⟨h₀', h', tk', nw', oC', n2, P2, S2, J2, e, F', N', oc', ap', hS', c2, hJ2, turn2, done2⟩ := h₂
    exact ⟨h₀', h', tk', nw', oC', n2, P2, S2, J2, e, F', N', oc', ap', hS', c2, hJ2, turn2, fun g ys nw hJ => by
      obtain ⟨a, b, c⟩ := done2 g ys nw hJ
      exact ⟨a, hI, b, c⟩⟩
  · rintro I D _ ys nw h tk hID ⟨rfl, hI, hs, hR⟩ off
    exact fin D ys nw h tk hR hs fun q hq => Nat.lt_trans (hI q hq) hID

theorem Inner2.names {env : Env} {scope : Scope} {cl : List (Str × Addr)} {x y : Str} {py : Pos} {I C D : Addr} {oI oC : Obj} {v : Value} {ys₀ : List Value} {mC : Str → Option Value} {S : List (Addr × Obj) → Prop} {Go : Heap → List Value → List (Addr × Obj) → Prop} {xv : Value} {h₀ h' : Heap} {tk' : Nat} {news : List (Addr × Obj)} {n : Nat} {P : Nat → Value → Prop} {S₂ : List (Addr × Obj) → Prop}
    (F : Fr h₀ L h' m) (N : News h₀ L h' ((I, oI) :: (C, oC) :: (D, lst ys₀) :: news)) (oc : NsObj oC mC) (ap : Apart I C D news) (hS : S news) (c : Src h' ((I, oI) :: news) xv n P S₂) (hlen : ys₀.length + n ≤ sizeLine)
    (go : ∀ us, us.length = n → (∀ (i : Nat) v, us[i]? = some v → P i v) → Go h₀ (ys₀ ++ us) news)
    (hk : (compEnvC scope cl C env).scope.kind = .function := by rfl) (hl : (compEnvC scope cl C env).kindOf y = some .local := by rfl) (hd : (y == ("__debug__" : Str)) = false := by decide) :
    Inner2 prog w A L m (.Name y py) x y (compEnvC scope cl C env) I oI C D v ys₀ mC S s Go xv { s with heap := h', toks := tk' } := by
  refine ⟨h₀, h', tk', news, oC, n, P, S₂, fun g j ys nw => g = h₀ ∧ nw = news ∧ ∃ us, ys = ys₀ ++ us ∧ us.length = j ∧ ∀ (i : Nat) v, us[i]? = some v → P i v, rfl, F, N, oc, ap, hS, c, ⟨rfl, rfl, [], by simp, rfl, fun i v e => by simp at e⟩, ?_, ?_⟩
  · rintro _ i v₂ I₂ o₂ oC mC ys _ h tk E' hi hP ⟨rfl, rfl, us, rfl, hul, hus⟩ oc hx hy F N ap2 hS hS2
    refine ⟨by rw [List.length_append]; omega, ?_⟩
    refine LCgL.ld_own N (List.mem_cons_of_mem _ (List.mem_cons_self ..)) oc hy ?_ hk hl hd
    refine cend_same F N oc ap2 ⟨_, rfl, hS, hS2, ap⟩ fun news' e => ⟨rfl, by cases e; rfl, us ++ [v₂], by rw [List.append_assoc], by simp [hul], fun j u hu => ?_⟩
    by_cases hj : j < us.length
    · rw [List.getElem?_append_left hj] at hu
      exact hus j u hu
    · rw [List.getElem?_append_right (Nat.le_of_not_lt hj)] at hu
      cases hz : j - us.length with
      | zero =>
        rw [hz] at hu
        simp at hu
        subst hu
        have : j = i := by omega
        subst this
        exact hP
      | succ k => rw [hz] at hu; simp at hu
  · rintro _ ys _ ⟨rfl, rfl, us, rfl, hul, hus⟩
    exact go us hul hus

theorem compTurn_test (elt c : Expr) (x : Str) (px : Pos) (i1 : Expr) (scope : Scope) (pos : Pos) (it acc : Value) (env : Env) :
    compTurn (.ListComp elt [⟨.Name x px, i1, [c], 0⟩] scope pos) 0 it acc env = (standAt i1.pos >>= fun _ => pyNext it >>= fun r => match r with
      | none => pure (.done .next)
      | some v => letOwnedTupleGo (.Name x px) it v >>= fun _ => assign (.Name x px) env v >>= fun _ =>
        (isTrue c env (eval c env) >>= fun ok => if ok = true then (eval elt env >>= fun x => call (.builtin "list.append") [acc, x] >>= fun _ => pure ()) else pure ()) >>= fun _ =>
          again (.compLoop (.ListComp elt [⟨.Name x px, i1, [c], 0⟩] scope pos) 0 it acc env)) := by
  rw [compTurn_list]
  simp only [List.forIn_cons, List.forIn_nil, if_true, bind_assoc, pure_bind]
  congr
  funext _
  congr
  funext r
  cases r with
  | none => rfl
  | some v =>
    simp only [bind_assoc, pure_bind]
    congr
    funext _
    congr
    funext _
    congr
    funext ok
    cases ok <;> simp [bind_assoc]
/-- how a test ends -/
noncomputable def FEnd (L : Addr) (m : Str → Option Value) (s : Shared) (h₀ : Heap) (led : List (Addr × Obj)) (p : Bool) (ok : Bool) (s₂ : Shared) : Prop :=
  ok = p ∧ ∃ h' tk, s₂ = { s with heap := h', toks := tk } ∧ Fr h₀ L h' m ∧ News h₀ L h' led
/-- one clause with a test, the walked things themselves kept -/
noncomputable def CompF (prog : Program) (w : World) (A : Around) (L : Addr) (m : Str → Option Value) (env : Env) (ct : Expr) (x : Str) (scope : Scope) (cl : List (Str × Addr)) (Q : Value → Shared → Prop) (xv : Value) (s₁ : Shared) : Prop :=
  ∃ h₀ news n P S, ∃ p : Nat → Bool, A.handled = none ∧ Fr h₀ L s₁.heap m ∧ News h₀ L s₁.heap news ∧ Src s₁.heap news xv n P S ∧ n ≤ sizeLine ∧
    (∀ I C D i v oI oC mC ys h tk E', i < n → P i v → NsObj oC mC → mC x = some v → Fr h₀ L h m → News h₀ L h ((I, oI) :: (C, oC) :: (D, lst ys) :: news) → Apart I C D news → S news →
      wpAny (model prog w) A (isTrue ct (compEnvC scope cl C env) (eval ct (compEnvC scope cl C env))) (FEnd L m { s₁ with heap := h, toks := tk } h₀ ((I, oI) :: (C, oC) :: (D, lst ys) :: news) (p i)) E' { s₁ with heap := h, toks := tk }) ∧
    (∀ D ys h tk, (ys = [] ↔ ∀ i < n, p i = false) → (∀ q ∈ news, q.1 < D) → Fr h₀ L h m → News h₀ L h ((D, lst ys) :: news) → Q (.ref D) { s₁ with heap := h, toks := tk })
theorem CompF.intro {env : Env} {ct : Expr} {x : Str} {scope : Scope} {cl : List (Str × Addr)} {Q : Value → Shared → Prop} {xv : Value} {s₁ : Shared} {h₀ : Heap} {news : List (Addr × Obj)} {n : Nat} {P : Nat → Value → Prop} {S : List (Addr × Obj) → Prop} (p : Nat → Bool) (hh : A.handled = none) (F : Fr h₀ L s₁.heap m) (N : News h₀ L s₁.heap news) (c : Src s₁.heap news xv n P S) (hn : n ≤ sizeLine)
    (turn : ∀ I C D i v oI oC mC ys h tk E', i < n → P i v → NsObj oC mC → mC x = some v → Fr h₀ L h m → News h₀ L h ((I, oI) :: (C, oC) :: (D, lst ys) :: news) → Apart I C D news → S news →
      wpAny (model prog w) A (isTrue ct (compEnvC scope cl C env) (eval ct (compEnvC scope cl C env))) (FEnd L m { s₁ with heap := h, toks := tk } h₀ ((I, oI) :: (C, oC) :: (D, lst ys) :: news) (p i)) E' { s₁ with heap := h, toks := tk })
    (fin : ∀ D ys h tk, (ys = [] ↔ ∀ i < n, p i = false) → (∀ q ∈ news, q.1 < D) → Fr h₀ L h m → News h₀ L h ((D, lst ys) :: news) → Q (.ref D) { s₁ with heap := h, toks := tk }) :
    CompF prog w A L m env ct x scope cl Q xv s₁ := ⟨h₀, news, n, P, S, p, hh, F, N, c, hn, turn, fin⟩
theorem listcompF {h₉ : Heap} (_F₀ : Fr h₉ L s.heap m) {ct iter : Expr} {x : Str} {px pe : Pos} {scope : Scope} {cl : List (Str × Addr)} {pos : Pos} {env : Env} {Q : Value → Shared → Prop}
    (hclos : closureFor scope env = pure cl) (hcell : ∀ y ∈ scope.names, y.2 ≠ .cell) (hkind : scope.kind = .function)
    (hnames : ∀ y ∈ scope.names, y.2 = .local → scope.names.lookup y.1 = some .local) (hx : scope.names.lookup x = some .local) (hd : (x == ("__debug__" : Str)) = false)
    (h : wpAny (model prog w) A (eval iter env) (CompF prog w A L m env ct x scope cl Q) E s)
    (hs : ∀ x, foldedSetIterable iter env x = pure x := by intro _; rfl) :
    wpAny (model prog w) A (eval (.ListComp (.Name x pe) [⟨.Name x px, iter, [ct], 0⟩] scope pos) env) Q E s := by
  rw [eval_ListComp]
  refine wpAny_comprehension_free (use := none) rfl hs hclos hkind hnames (wpAny_mono h (fun xv s₁ h₁ => ?_) fun _ _ e => e)
  obtain ⟨h₀, news, n, P, S, p, hh, F, N, c, hn, turn, fin⟩ := h₁
  refine comp_block (RR := fun acc C r s' => compPost (model prog w) A E none Q acc C r s') hh rfl rfl hcell hkind F N c fun I C D oI oC St h tk W hst hlt hID hDC F N oc ap hS => ?_
  refine comp_loop (cenv := compEnvC scope cl C env) (x := x) (px := px) (fun g i ys mC nw => g = h₀ ∧ nw = news ∧ ys.length ≤ i ∧ (ys = [] ↔ ∀ j < i, p j = false)) (compTurn_test _ _ _ _ _ _ _ _ _ _) (lookup_relabel_local hx) (by simp [compEnvC, relabel, hkind]) rfl W hst F N oc ap hS ⟨rfl, rfl, Nat.le_refl _, by simp⟩ ?_ ?_
  · rintro _ i v oI oC mC ys _ h tk E' hi hP ⟨rfl, rfl, hyl, hye⟩ oc F N ap hS
    refine wpAny_bind (wpAny_mono (turn I C D i v oI oC _ ys h tk E' hi hP oc (by simp) F N ap hS) (fun ok s₂ h₂ => ?_) fun _ _ e => e)
    obtain ⟨rfl, h', tk', rfl, F', N'⟩ := h₂
    cases hp : p i with
    | false =>
      simp only [Bool.false_eq_true, if_false]
      refine wpAny_pure ⟨_, h', tk', ys, _, oC, _, rfl, F', N', oc, ap, hS, rfl, rfl, by omega, hye.trans ⟨fun h j hj => ?_, fun h j hj => h j (by omega)⟩⟩
      by_cases hji : j < i
      · exact h j hji
      · have : j = i := by omega
        rw [this]; exact hp
    | true =>
      simp only [if_true]
      refine comp_emit (J := fun g i ys mC nw => g = _ ∧ nw = _ ∧ ys.length ≤ i ∧ (ys = [] ↔ ∀ j < i, p j = false)) (ys := ys) (mC := fun y => if y = x then some v else mC y) (by omega) rfl ?_
      refine LCgL.ld_own (v := v) N' (List.mem_cons_of_mem _ (List.mem_cons_self ..)) oc (by simp) ?_ (by simp [compEnvC, relabel, hkind]) (lookup_relabel_local hx) hd
      refine cend_same F' N' oc ap hS ⟨rfl, rfl, by rw [List.length_append, List.length_singleton]; omega, ?_⟩
      constructor
      · intro e; simp at e
      · intro h'
        rw [h' i (by omega)] at hp
        cases hp
  · rintro _ oC mC ys _ h tk ⟨rfl, rfl, hyl, hye⟩ oc F N ap _
    exact comp_done F N oc ap.2.2.1 (fun q hq => (ap.2.2.2 q hq).2.1) fun h' F' N' => fin D ys h' tk hye (fun q hq => Nat.lt_trans (hlt q hq) hID) F' N'
theorem ne_empty {l b : Addr} {ys : List Value} {Q : Value → Shared → Prop} (hl : s.heap.IsList l ys.toArray) (hb : s.heap.IsList b #[]) (hu : A.units < cLine) (h : Q (.bool (decide (ys ≠ []))) s) :
    wpAny (model prog w) A (compareOp .NotEq (.ref l) (.ref b)) Q E s := by
  cases ys with
  | nil => exact PySem.SeqAt.RcNeAt.lists (e := fun _ => true) hl hb rfl hu (fun j h1 => absurd h1 (Nat.not_lt_zero _)) prog w E Q (by simpa using h)
  | cons y ys => exact PySem.SeqAt.RcNeAt.lists_lengths hl hb (by simp) hu prog w E Q (by simpa using h)
theorem any_false {α : Type} {f : α → Bool} {d : α} : ∀ {l : List α}, (∀ i < l.length, f (l.getD i d) = false) → l.any f = false
  | [], _ => rfl
  | a :: l, h => by
    rw [List.any_cons, any_false (l := l) (d := d) fun i hi => h (i + 1) (by simpa using hi)]
    have := h 0 (by simp)
    simpa using this
end
end
section
inductive All2 {α β : Type} (R : α → β → Prop) : List α → List β → Prop
  | nil : All2 R [] []
  | cons {a : α} {b : β} {l : List α} {l' : List β} : R a b → All2 R l l' → All2 R (a :: l) (b :: l')
theorem All2.length {α β : Type} {R : α → β → Prop} : ∀ {l : List α} {l' : List β}, All2 R l l' → l.length = l'.length
  | _, _, .nil => rfl
  | _, _, .cons _ h => congrArg (· + 1) h.length
theorem All2.get {α β : Type} {R : α → β → Prop} : ∀ {l : List α} {l' : List β}, All2 R l l' → ∀ {i : Nat} {a : α}, l[i]? = some a → ∃ b, l'[i]? = some b ∧ R a b
  | _, _, .nil, i, _, h => by simp at h
  | _, _, .cons h _, 0, _, e => by
    simp at e
    subst e
    exact ⟨_, rfl, h⟩
  | _, _, .cons _ h, i + 1, _, e => by
    simp at e
    obtain ⟨b, hb, r⟩ := h.get e
    exact ⟨b, by simpa using hb, r⟩
noncomputable def RunR (led : List (Addr × Obj)) (v : Value) (p : Int × Int) : Prop := ∃ a t u n, v = .ref a ∧ (a, W.listOf #[.int p.1 t, .int p.2 u] n) ∈ led
noncomputable def TabR (led : List (Addr × Obj)) (v : Value) (rs : List (Int × Int)) : Prop := ∃ a vs n, v = .ref a ∧ (a, W.listOf vs.toArray n) ∈ led ∧ All2 (RunR led) vs rs
theorem RunR.mono {led led' : List (Addr × Obj)} (hs : ∀ p ∈ led, p ∈ led') {v : Value} {p : Int × Int} (h : RunR led v p) : RunR led' v p := by
  obtain ⟨a, t, u, n, e, hm⟩ := h
  exact ⟨a, t, u, n, e, hs _ hm⟩
theorem forall₂_mono {α β : Type} {R R' : α → β → Prop} (h : ∀ a b, R a b → R' a b) : ∀ {l : List α} {l' : List β}, All2 R l l' → All2 R' l l'
  | _, _, .nil => .nil
  | _, _, .cons a b => .cons (h _ _ a) (forall₂_mono h b)
theorem forall₂_snoc {α β : Type} {R : α → β → Prop} {a : α} {b : β} (h : R a b) : ∀ {l : List α} {l' : List β}, All2 R l l' → All2 R (l ++ [a]) (l' ++ [b])
  | _, _, .nil => .cons h .nil
  | _, _, .cons x y => .cons x (forall₂_snoc h y)
noncomputable def nonch : List (Int × Int) := (List.range 17).map fun (k : Nat) => (65536 * (k : Int) + 65534, 65536 * (k : Int) + 65535)
noncomputable def runsD : List (List (Int × Int)) := [[(173, 173), (847, 847), (6150, 6150), (6155, 6157), (8203, 8205), (8288, 8288), (65024, 65039), (65279, 65279)], [(32, 32)], (64976, 65007) :: nonch, [(65529, 65533)], [(12272, 12283)], [(832, 833), (8206, 8207), (8234, 8238), (8298, 8303)], [(917505, 917505), (917536, 917631)]]
noncomputable def RunsPost (tl : List (Addr × Obj)) (r : Value) : Prop := ∃ a vs n, r = .ref a ∧ (a, W.listOf vs.toArray n) ∈ tl ∧ All2 (TabR tl) vs runsD
theorem all2_of {α : Type} {R : α → (Int × Int) → Prop} {f : Nat → Int × Int} : ∀ {ys : List α} {n k : Nat}, ys.length = n → (∀ i v, ys[i]? = some v → R v (f (k + i))) → All2 R ys ((List.range' k n).map f)
  | [], _, _, rfl, _ => .nil
  | y :: ys, _, k, rfl, h => by
    rw [List.length_cons, List.range'_succ, List.map_cons]
    refine .cons (h 0 y rfl) (all2_of rfl fun i v e => ?_)
    have := h (i + 1) v (by simpa using e)
    rwa [show k + (i + 1) = k + 1 + i by omega] at this
theorem nonch_of {led : List (Addr × Obj)} {ys : List Value} (hl : ys.length = 17) (h : ∀ (i : Nat) v, ys[i]? = some v → RunR led v (65536 * (i : Int) + 65534, 65536 * (i : Int) + 65535)) : All2 (RunR led) ys nonch := by
  unfold nonch
  rw [List.range_eq_range']
  exact all2_of hl fun i v e => by rw [Nat.zero_add]; exact h i v e
theorem news_regroup {h₀ h : Heap} {L : Addr} {Aa B ex nw news : List (Addr × Obj)} (N : News h₀ L h (Aa ++ nw)) (e : nw = ex ++ (B ++ news)) : News h₀ L h ((Aa ++ ex ++ B) ++ news) := by
  subst e
  rw [List.append_assoc, List.append_assoc]
  exact N
theorem ord_app {l l' news : List (Addr × Obj)} (h : ∀ p ∈ l, ∀ q ∈ news, q.1 < p.1) (h' : ∀ p ∈ l', ∀ q ∈ news, q.1 < p.1) : ∀ p ∈ l ++ l', ∀ q ∈ news, q.1 < p.1 := fun p hp => by
  rcases List.mem_append.mp hp with hp | hp
  · exact h p hp
  · exact h' p hp
theorem ord_cons {x : Addr × Obj} {l news : List (Addr × Obj)} (h : ∀ q ∈ news, q.1 < x.1) (h' : ∀ p ∈ l, ∀ q ∈ news, q.1 < p.1) : ∀ p ∈ x :: l, ∀ q ∈ news, q.1 < p.1 := fun p hp => by
  rcases List.mem_cons.mp hp with rfl | hp
  · exact h
  · exact h' p hp
theorem ord_nil {news : List (Addr × Obj)} : ∀ p ∈ ([] : List (Addr × Obj)), ∀ q ∈ news, q.1 < p.1 := fun _ h => nomatch h
theorem TabR.mono {led led' : List (Addr × Obj)} (hs : ∀ p ∈ led, p ∈ led') {v : Value} {rs : List (Int × Int)} (h : TabR led v rs) : TabR led' v rs := by
  obtain ⟨a, vs, n, e, hm, hr⟩ := h
  exact ⟨a, vs, n, e, hs _ hm, forall₂_mono (fun _ _ => RunR.mono hs) hr⟩
/-- the signs' numbers of a table -/
noncomputable def codes (rs : List (Int × Int)) : List Int := rs.flatMap fun p => (List.range (p.2 - p.1 + 1).toNat).map fun (i : Nat) => p.1 + i
noncomputable def membersOf (u : Nat) : List Int := codes (runsD.getD u [])
/-- a sign that says its unit -/
noncomputable def SignOk (u : Nat) (c : Nat) : Prop := c ≠ 34 ∧ c < 1114112 ∧ ∀ j < 7, tab c j = decide (u = j)
theorem members_ok : ∀ u < 7, ∀ c ∈ membersOf u, 0 ≤ c ∧ SignOk u c.toNat := by
  unfold SignOk
  decide +kernel
noncomputable def besideOf : List Int := runsD.flatten.flatMap fun p => [p.1 - 1, p.2 + 1]
noncomputable def inRuns (b : Int) : Bool := runsD.flatten.any fun p => decide (p.1 ≤ b) && decide (b ≤ p.2)
theorem beside_ok : ∀ b ∈ besideOf, 0 ≤ b ∧ (b ≤ 1114111 → inRuns b = false → SignOk 7 b.toNat) := by
  unfold SignOk
  decide +kernel
theorem bang_ok : SignOk 7 33 := by
  unfold SignOk
  decide +kernel
theorem runs_ok : ∀ u < 7, ∀ d ∈ runsD.getD u [], 0 ≤ d.1 ∧ d.1 ≤ d.2 ∧ d.2 < 1114112 := by decide +kernel
theorem members_len : ∀ u < 7, 0 < (membersOf u).length ∧ (membersOf u).length ≤ 100 := by decide +kernel
theorem codes_app (a b : List (Int × Int)) : codes (a ++ b) = codes a ++ codes b := by
  unfold codes
  rw [List.flatMap_append]
theorem codes_take_le (rs : List (Int × Int)) (k : Nat) : (codes (rs.take k)).length ≤ (codes rs).length := by
  conv => rhs; rw [← List.take_append_drop k rs, codes_app, List.length_append]
  omega
theorem codes_step {rs : List (Int × Int)} {i : Nat} {d : Int × Int} (h : rs[i]? = some d) : codes (rs.take (i + 1)) = codes (rs.take i) ++ (List.range (d.2 - d.1 + 1).toNat).map fun (i : Nat) => d.1 + i := by
  rw [List.take_add_one, h, codes_app]
  simp [codes]
theorem ints_of {f : Nat → Int} : ∀ {us : List Value} {n k : Nat}, us.length = n → (∀ (i : Nat) v, us[i]? = some v → ∃ t, v = .int (f (k + i)) t) → IntsAre us ((List.range' k n).map f)
  | [], _, _, rfl, _ => .nil
  | u :: us, _, k, rfl, h => by
    rw [List.length_cons, List.range'_succ, List.map_cons]
    obtain ⟨t, rfl⟩ := h 0 u rfl
    refine .cons _ t (ints_of rfl fun i v e => ?_)
    have := h (i + 1) v (by simpa using e)
    rwa [show k + (i + 1) = k + 1 + i by omega] at this
theorem ints_range {f : Nat → Int} {us : List Value} {n : Nat} (hl : us.length = n) (h : ∀ (i : Nat) v, us[i]? = some v → ∃ t, v = .int (f i) t) : IntsAre us ((List.range n).map f) := by
  rw [List.range_eq_range']
  exact ints_of hl fun i v e => by rw [Nat.zero_add]; exact h i v e
theorem ints_app : ∀ {vs us : List Value} {ns ms : List Int}, IntsAre vs ns → IntsAre us ms → IntsAre (vs ++ us) (ns ++ ms)
  | _, _, _, _, .nil, h => h
  | _, _, _, _, .cons x t h, h' => .cons x t (ints_app h h')
theorem runs_all : ∀ d ∈ runsD.flatten, 0 < d.1 ∧ d.1 ≤ d.2 ∧ d.2 < 1114112 := by decide +kernel
theorem runs_count : runsD.flatten.length = 35 := by decide +kernel
noncomputable def besides (rs : List (Int × Int)) : List Int := rs.flatMap fun p => [p.1 - 1, p.2 + 1]
theorem besides_step {rs : List (Int × Int)} {i : Nat} {d : Int × Int} (h : rs[i]? = some d) : besides (rs.take (i + 1)) = besides (rs.take i) ++ [d.1 - 1, d.2 + 1] := by
  rw [List.take_add_one, h]
  simp [besides, List.flatMap_append]
theorem besides_len (rs : List (Int × Int)) : (besides rs).length = 2 * rs.length := by
  induction rs with
  | nil => rfl
  | cons d rs ih =>
    have : besides (d :: rs) = [d.1 - 1, d.2 + 1] ++ besides rs := by simp [besides]
    rw [this, List.length_append, ih, List.length_cons]
    simp
    omega
theorem all2_app {α β : Type} {R : α → β → Prop} : ∀ {a : List α} {b : List β} {a' : List α} {b' : List β}, All2 R a b → All2 R a' b' → All2 R (a ++ a') (b ++ b')
  | _, _, _, _, .nil, h => h
  | _, _, _, _, .cons x y, h => .cons x (all2_app y h)
theorem list_same {us vs : List Value} (hl : us.length = vs.length) (h : ∀ (i : Nat) v, us[i]? = some v → vs[i]? = some v) : us = vs := by
  apply List.ext_getElem? fun i => ?_
  cases e : us[i]? with
  | some v => exact (h i v e).symm
  | none => rw [List.getElem?_eq_none_iff] at e; exact (List.getElem?_eq_none_iff.mpr (hl ▸ e)).symm
theorem flat_len (k : Nat) : ((runsD.take k).flatten).length ≤ 35 := by
  have h : ((runsD.take k).flatten).length + ((runsD.drop k).flatten).length = 35 := by
    rw [← List.length_append, ← List.flatten_append, List.take_append_drop, runs_count]
  omega
theorem flat_step {i : Nat} {d : List (Int × Int)} (h : runsD[i]? = some d) : (runsD.take (i + 1)).flatten = (runsD.take i).flatten ++ d := by
  rw [List.take_add_one, h, List.flatten_append]
  simp
end
section
noncomputable abbrev rowO (k : Nat) : Obj := W.listOf #[.bool (tab k 0), .bool (tab k 1), .bool (tab k 2), .bool (tab k 3), .bool (tab k 4), .bool (tab k 5), .bool (tab k 6)] 0
/-- law's body from its k-th statement on, the four lists being made -/
noncomputable def LawR (k : Nat) : Prop := ∀ (w : World) (mean : ExcName → Option Value) (mg mb : Str → Option Value) (dp un : Nat) (gd : Option (List Code)) (L fa : Addr) (cdv : Value) (A₀ : Around) (h₀ : Heap) (sa : Addr) (c0 c1 c2 c3 : Int) (k0 k1 k2 k3 : Nat) (ca ta ua da r0 r1 r2 r3 : Addr) (a0 a1 a2 a3 b0 b1 b2 b3 e0 e1 e2 e3 : Tok) (n1 n2 n3 n4 : Nat) (o1 o2 o3 o4 : Obj)  (s : Shared) (Q : Flow → Shared → Prop) (E : Value → Shared → Prop),
  Below A₀ h₀ [] h₀ → Fr h₀ L s.heap (fun z => if z = Str.ofString "typed" then some (.ref ta) else (fun y => if y = Str.ofString "script" then some (.ref sa) else none) z) → (K w.params).In h₀ → News h₀ L s.heap [(da, W.listOf #[.ref r0, .ref r1, .ref r2, .ref r3] n4), (r0, rowO k0), (r1, rowO k1), (r2, rowO k2), (r3, rowO k3), (ua, W.listOf #[.int (c0.fmod 8) e0, .int (c1.fmod 8) e1, .int (c2.fmod 8) e2, .int (c3.fmod 8) e3] n3), (ta, W.listOf #[.str ⟨#[k0]⟩ b0, .str ⟨#[k1]⟩ b1, .str ⟨#[k2]⟩ b2, .str ⟨#[k3]⟩ b3] n2), (ca, W.listOf #[.int c0 a0, .int c1 a1, .int c2 a2, .int c3 a3] n1), (L + 1 + 1 + 1 + 1, o4), (L + 1 + 1 + 1, o3), (L + 1 + 1, o2), (L + 1, o1)] → o4.data = .cell none → o3.data = .cell (some (.ref da)) → o2.data = .cell (some (.ref ua)) → o1.data = .cell (some (.ref ca)) → SignOk (c0.fmod 8).toNat k0 → SignOk (c1.fmod 8).toNat k1 → SignOk (c2.fmod 8).toNat k2 → SignOk (c3.fmod 8).toNat k3 → AllLt da [(L + 1 + 1 + 1 + 1, o4)] → AllLt r0 [(L + 1 + 1 + 1 + 1, o4)] → AllLt r1 [(L + 1 + 1 + 1 + 1, o4)] → AllLt r2 [(L + 1 + 1 + 1 + 1, o4)] → AllLt r3 [(L + 1 + 1 + 1 + 1, o4)] → AllLt ua [(L + 1 + 1 + 1 + 1, o4)] → AllLt ta [(L + 1 + 1 + 1 + 1, o4)] → AllLt ca [(L + 1 + 1 + 1 + 1, o4)] →  Top qv loose mean mg mb h₀ → dp + 20 < recursionLimit → un + 200 < cLine →
  (∀ (h' : Heap) (tk' : Nat) (m' : Str → Option Value), Fr h₀ L h' m' → Q (.ret (.bool true)) { s with heap := h', toks := tk' }) →
  wpAny (model pw w) (yTop none dp un gd (Str.ofString "law") (fnScope (stAt 45)) L fa cdv (cellsFrom (L + 1) (fnScope (stAt 45)).names []) []) (execs ((fnBody (stAt 45)).drop k) (envOfC (Str.ofString "law") (fnScope (stAt 45)) L fa cdv)) Q E s
end
section
theorem unr1g {h₀ : Heap} {L I : Addr} {it : Obj} {p : Addr × Obj} {news : List (Addr × Obj)} {rest : (Str → Option Value) → List (Addr × Obj) → Prop} {s₁ : Shared} {h' : Heap} {tk : Nat} {m' : Str → Option Value} (F : Fr h₀ L h' m') (N : News h₀ L h' ((I, it) :: p :: news)) (l : p.1 < I ∧ AllLt I news) (r : rest m' (p :: news)) : UnrEnd h₀ L s₁ I it rest { s₁ with heap := h', toks := tk } :=
  UnrEnd.intro F N (p :: news) (fun _ h => h) (fun q hq => by
    rcases List.mem_cons.mp hq with rfl | hq
    · exact Nat.ne_of_lt l.1
    · exact Nat.ne_of_lt (allLt_all l.2 q hq)) r
/-- a contract that asks something of the ground -/
noncomputable def ConG (Gd : Heap → Prop) (w : World) (D : Nat) (f : Addr) (vs : List Value) (news : List (Addr × Obj)) (Post : List (Addr × Obj) → Value → Prop) : Prop :=
  ∀ (mean : ExcName → Option Value) (mg mb : Str → Option Value) (hd : Option Value) (dp un : Nat) (gd : Option (List Code)) (cn : Str) (cs : Scope) (a : Addr) (ccd : Value) (cl : List (Str × Addr)) (outer : List Env) (A₀ : Around) (base h₀ : Heap) (L : Addr) (m : Str → Option Value) (s : Shared) (Q E : Value → Shared → Prop),
    Gd h₀ → Below A₀ base outer h₀ → Fr h₀ L s.heap m → (K w.params).In h₀ → News h₀ L s.heap news → Top qv loose mean mg mb h₀ → cs.kind = .function → hd = none → dp + D < recursionLimit → un + 8 * D < cLine →
    (∀ (r : Value) (tl : List (Addr × Obj)) (h' : Heap) (tk' : Nat), Post tl r → (∀ p ∈ tl, ∀ q ∈ news, q.1 < p.1) → Fr h₀ L h' m → News h₀ L h' (tl ++ news) → Q r { s with heap := h', toks := tk' }) →
    wpAny (model pw w) (yTop hd dp un gd cn cs L a ccd cl outer) (call (.ref f) vs) Q E s
section
variable {w : World} {D : Nat} {f : Addr} {vs : List Value} {news : List (Addr × Obj)} {mean : ExcName → Option Value} {mg mb : Str → Option Value} {dp un : Nat} {gd : Option (List Code)} {cn : Str} {cs : Scope} {a : Addr} {ccd : Value} {cl : List (Str × Addr)} {outer : List Env} {A₀ : Around} {base h₀ : Heap} {L : Addr} {m : Str → Option Value} {s : Shared} {Q E : Value → Shared → Prop}
theorem conG_use {Gd : Heap → Prop} {Post : List (Addr × Obj) → Value → Prop} (C : ConG Gd w D f vs news Post) (hG : Gd h₀) (B : Below A₀ base outer h₀) (F : Fr h₀ L s.heap m) (X : (K w.params).In h₀) (N : News h₀ L s.heap news) (Tp : Top qv loose mean mg mb h₀) (hk : cs.kind = .function) (hd1 : dp + D < recursionLimit) (hu : un + 8 * D < cLine)
    (ret : ∀ (r : Value) (tl : List (Addr × Obj)) (h' : Heap) (tk' : Nat), s.toks ≤ tk' → Post tl r → (∀ p ∈ tl, ∀ q ∈ news, q.1 < p.1) → Fr h₀ L h' m → News h₀ L h' (tl ++ news) → Q r { s with heap := h', toks := tk' }) :
    wpAny (model pw w) (yTop none dp un gd cn cs L a ccd cl outer) (call (.ref f) vs) Q E s :=
  wpAny_with_toks (Nat.le_refl _) (wpAny_mono (C _ _ _ _ _ _ _ _ _ _ _ _ _ _ _ _ _ _ _ (fun r s' => s.toks ≤ s'.toks → Q r s') (fun e s' => s.toks ≤ s'.toks → E e s') hG B F X N Tp hk rfl hd1 hu fun r tl h' tk' P' l' F' N' hk' => ret r tl h' tk' hk' P' l' F' N') (fun _ _ x => x) fun _ _ x => x)
end
section
variable {prog : Program} {w : World} {A : Around} {E : Value → Shared → Prop} {s : Shared} {g : Heap} {L sa : Addr} {m : Str → Option Value} {vs : List Value} {ns : List Int} {N : Nat}
theorem isL_keeps {h h' : Heap} {arr : Array Value} (k : ∀ b o, h.get? b = some o → h'.get? b = some o) (H : h.IsList sa arr) : h'.IsList sa arr := by
  obtain ⟨o, ho, r⟩ := H
  exact ⟨o, k _ _ ho, r⟩
theorem len_isL {Q : Value → Shared → Prop} (F : Fr g L s.heap m) (H : g.IsList sa vs.toArray) (hs : vs.toArray.size = N) (hN : N ≤ 63) (h : Q (.int (N : Nat) (s.toks + 1)) { s with toks := s.toks + 1 + 1 }) : wpAny (model prog w) A (call (.builtin "len") [.ref sa]) Q E s := by
  refine Calls.call_len_list (isL_keeps F.keep H) (by omega) ?_
  rw [hs]
  exact h
theorem sub_isL {value slice : PySem.Expr} {k : Int} {u : Tok} {Q : Value → Shared → Prop} (F : Fr g L s.heap m) (H : g.IsList sa vs.toArray) (hb : IntsAre vs ns) (h0 : 0 ≤ k) (h1 : k < ns.length) (hfit : k < 2 ^ 63) (h : ∀ z, Q (.int (ns.getD k.toNat 0) z) s)
    (hs : subscripted slice false (.ref sa) (.int k u) = operate [.ref sa, .int k u] (getItem (.ref sa) (.int k u)) := by with_unfolding_all rfl) :
    wpAny (model prog w) A (subscriptTail value slice (.ref sa) (.int k u)) Q E s := by
  have H' := isL_keeps F.keep H
  obtain ⟨z, hx⟩ := ints_at hb k.toNat (by omega)
  exact tail_any H'.typeIs slot_list_getitem.lookup (wpAny_getItem_list H' h0 hfit (by simpa using hx) (h z)) hs
end
set_option maxHeartbeats 4000000 in
theorem con_cellsG (w : World) (news : List (Addr × Obj)) (sa : Addr) (vs : List Value) (ns : List Int) (N : Nat) (hi : IntsAre vs ns) (hl : ns.length = N) (hN : N ≤ 63) (hsz : vs.toArray.size = N) : ConG (fun h => h.IsList sa vs.toArray) w 1 221 [.ref sa] news (fun tl r => ∃ a c0 c1 c2 c3 t0 t1 t2 t3 n, r = .ref a ∧ tl = [(a, W.listOf #[.int c0 t0, .int c1 t1, .int c2 t2, .int c3 t3] n)]) := by
  w_top off
  k_with_none
  k_with "y_room" => first | ((try simp only [depth_under_make, depth_under_kw, depth_in1, depth_deeper, depth_caller]); (try dsimp only [yTop]); first | exact lim2 (by assumption) rfl | exact lim1 (by assumption) rfl | exact lim0 (by assumption)) | ((try simp only [depth_under_make, depth_under_kw, depth_in1, depth_deeper, depth_caller] at *); (try dsimp only [yTop] at *); omega)
  k_with "y_units" => first | ((try simp only [units_in1, units_deeper, Around.mark_units, units_caller]); (try dsimp only [yTop]); first | exact lim2 (by assumption) rfl | exact lim1 (by assumption) rfl) | (have hcL9 := cLine_is; ((try simp only [units_in1, units_deeper, Around.mark_units, units_caller] at *); (try dsimp only [yTop] at *); omega))
  k_with "y_k5" => ((case k1 => k_asm); (case k2 => k_asm); (case k3 => k_asm); (case k4 => k_asm); (case k5 => k_asm))
  k_with "y_eC" => ((case kA => exact rfl); (case kF => exact rfl); (case kK => assumption); k_extra "y_k5"; (case k6 => k_is); (case k7 => k_is); (case k8 => ktr_room); (case k9 => exact BindsTo.of_eq rfl); (case c2 => exact rfl); (case c3 => exact rfl); (case c4 => exact rfl))
  k_with "y_e1" => (k_extra "y_eC"; (case c5 => decide); (case kB => exact locs rfl); k_whole; intro g' L' h' FG' F' N' B' X' T'; (try dsimp only); (try k_lift B'); (try k_fold))
  k_with "call builtin:len" => (k_here; k_dflt (refine' len_isL ?k1v0 ?k2v0 ?k3v0 ?k4v0 ?_; (case k1v0 => k_asm); (case k2v0 => exact isL_keeps (Fr.keep (by assumption : Fr _ _ _ _)) (by assumption)); (case k3v0 => assumption); (case k4v0 => assumption)); (try dsimp only); (try k_fold))
  k_with "last pyIter ref" => (k_here; refine stop_ ?_)
  k_with "subscriptTail Name Name ref int" => (k_here; k_dflt (refine' sub_isL ?k1v2 ?k2v2 ?k3v2 ?k4v2 ?k5v2 ?k6v2 ?_ ?k7v2; (case k1v2 => k_asm); (case k2v2 => exact isL_keeps (Fr.keep (by assumption : Fr _ _ _ _)) (by assumption)); (case k3v2 => with_reducible assumption); (case k4v2 => omega); (case k5v2 => omega); (case k6v2 => omega); (case k7v2 => with_unfolding_all rfl); intro z9; (try dsimp only); (try k_fold)))
  k_with "getItem ref int" => (k_here; k_dflt (refine' ints_get ?k1v3 ?k2v3 ?k3v3 ?k4v3 ?k5v3 ?k6v3 ?_; (case k1v3 => k_asm); (case k2v3 => first | exact List.mem_cons_self .. | exact List.mem_cons_of_mem _ (List.mem_cons_self ..)); (case k3v3 => assumption); (case k4v3 => (rw [Int.fmod_eq_emod_of_nonneg _ (by decide)]; omega)); (case k5v3 => (rw [Int.fmod_eq_emod_of_nonneg _ (by decide)]; omega)); (case k6v3 => (rw [Int.fmod_eq_emod_of_nonneg _ (by decide)]; omega)); intro z9; (try dsimp only); (try k_fold)))
  k_with "setItem ref int" => (k_here; k_dflt (refine' ints_put ?k1v4 ?k2v4 ?k8v4 ?k9v4 ?k3v4 ?k4v4 ?k5v4 ?k6v4 ?_; (case k1v4 => k_asm); (case k2v4 => k_asm); (case k8v4 => assumption); (case k9v4 => assumption); (case k3v4 => assumption); (case k4v4 => (rw [Int.fmod_eq_emod_of_nonneg _ (by decide)]; omega)); (case k5v4 => (rw [Int.fmod_eq_emod_of_nonneg _ (by decide)]; omega)); (case k6v4 => (rw [Int.fmod_eq_emod_of_nonneg _ (by decide)]; omega)); intro h9 F9 N9 I9 l9; (try dsimp only); (try k_fold)))
  unfold ConG
  intros
  rename_i hret
  rename_i hG _ _ _ _ _ _ hH _ _
  obtain rfl := hH
  refine wpAny_call ?_
  k_dflt (refine' code_def (binds := [(Str.ofString "script", .ref sa)]) ?k1 ?k2 ?k3 ?k4 ?k5 ?kA ?kF ?kK ?k6 ?k7 ?k8 ?k9 ?kB ?_ ?c2 ?c3 ?c4 ?c5; k_extra "y_e1")
  k_steps
  rename_i l' _ l1 _ _ _ _ _ _ _ _ R9 F9 N9 _
  unfold Stop
  refine iter_rangeJ (J := fun I i nw => ∃ vs ns n, IntsAre vs ns ∧ ns.length = 4 ∧ (l' < I ∧ AllLt I news) ∧ nw = (l', W.listOf vs.toArray n) :: news) rfl R9 rfl (by omega) F9 N9 ?st ?tu ?dn
  case st =>
    intro I hI
    exact ⟨_, [208, 1, 522, 774], _, .cons _ _ (.cons _ _ (.cons _ _ (.cons _ _ .nil))), rfl, ⟨hI _ (List.mem_cons_self ..), allLt_of fun p hp => hI p (List.mem_cons_of_mem _ hp)⟩, rfl⟩
  case tu =>
    rintro I i _ t h tk hin ⟨vs9, ns9, n9, iq9, L9, lq9, rfl⟩ F N
    clear N9 F9 R9
    k_steps
    refine unr1g (by assumption) (by assumption) lq9 ⟨fun y hy => if_neg hy, _, _, _, by assumption, ?_, lq9, rfl⟩
    omega
  case dn =>
    rintro I o _ h tk ⟨vs9, ns9, n9, iq9, L9, lq9, rfl⟩ F N
    clear N9 F9 R9
    obtain ⟨a, b, c, d, t, u, v, z, rfl⟩ := ints_four iq9 L9
    k_steps
    refine hret _ _ _ _ ⟨l', a, b, c, d, t, u, v, z, n9, rfl, rfl⟩ (ord1 l1) ?_ ?_
    k_asm
    k_asm
end
section
theorem lt_nw {l : Addr} {nw news : List (Addr × Obj)} (h : ∀ q ∈ nw, q.1 < l) (hs : ∀ q ∈ news, q ∈ nw) : ∀ q ∈ news, q.1 < l := fun q hq => h q (hs q hq)
set_option maxHeartbeats 4000000 in
theorem con_runs (w : World) (news : List (Addr × Obj))   : Con false 0 w 1 226 [] news (fun tl r => RunsPost tl r) := by
  w_top off
  k_with_none
  k_with "y_room" => first | ((try simp only [depth_under_make, depth_under_kw, depth_in1, depth_deeper, depth_caller]); (try dsimp only [yTop]); first | exact lim2 (by assumption) rfl | exact lim1 (by assumption) rfl | exact lim0 (by assumption)) | ((try simp only [depth_under_make, depth_under_kw, depth_in1, depth_deeper, depth_caller] at *); (try dsimp only [yTop] at *); omega)
  k_with "y_units" => first | ((try simp only [units_in1, units_deeper, Around.mark_units, units_caller]); (try dsimp only [yTop]); first | exact lim2 (by assumption) rfl | exact lim1 (by assumption) rfl) | (have hcL9 := cLine_is; ((try simp only [units_in1, units_deeper, Around.mark_units, units_caller] at *); (try dsimp only [yTop] at *); omega))
  k_with "y_k5" => ((case k1 => k_asm); (case k2 => k_asm); (case k3 => k_asm); (case k4 => k_asm); (case k5 => k_asm))
  k_with "y_eC" => ((case kA => exact rfl); (case kF => exact rfl); (case kK => assumption); k_extra "y_k5"; (case k6 => k_is); (case k7 => k_is); (case k8 => ktr_room); (case k9 => exact BindsTo.of_eq rfl); (case c2 => exact rfl); (case c3 => exact rfl); (case c4 => exact rfl))
  k_with "y_e1" => (k_extra "y_eC"; (case c5 => decide); (case kB => exact locs rfl); k_whole; intro g' L' h' FG' F' N' B' X' T'; (try dsimp only); (try k_lift B'); (try k_fold))
  k_with "eval ListComp" => (k_here; k_dflt (refine' listcomp1 (by k_asm : Fr _ _ _ _) ?c1v0 ?c2v0 ?c3v0 ?c4v0 ?c5v0 ?_ ?c6v0; (case c1v0 => with_unfolding_all rfl); (case c2v0 => decide); (case c3v0 => rfl); (case c4v0 => decide); (case c5v0 => rfl); (case c6v0 => (intro _; rfl))))
  k_with "binaryOp Add ref ref" => (k_here; k_dflt (refine' kmk_add_lit ?Fv1 ?Nv1 ?av1 ?bv1 ?ev1 ?_ ?zv1; (case Fv1 => k_asm); (case Nv1 => k_asm); (case av1 => kmk_list); (case bv1 => kmk_list); (case ev1 => exact rfl); (case zv1 => (simp only [List.length_cons, List.length_nil] at *; omega))); intro D9 h9 F9 N9 l1; (try k_lt l1))
  k_with "y_mem" => first | exact List.mem_cons_self .. | (refine List.mem_cons_of_mem _ ?_; k_extra "y_mem")
  k_with "y_lt" => first | assumption | exact allLt_all (by assumption : AllLt _ _) | exact allLt_all (by assumption : _ ∧ AllLt _ _).2 | exact allLt_all (by assumption : _ ∧ _ ∧ AllLt _ _).2.2 | exact allLt_all (by assumption : _ ∧ _ ∧ _ ∧ AllLt _ _).2.2.2 | exact allLt_all (by assumption : _ ∧ _ ∧ _ ∧ _ ∧ AllLt _ _).2.2.2.2 | exact allLt_all (by assumption : _ ∧ _ ∧ _ ∧ _ ∧ _ ∧ AllLt _ _).2.2.2.2.2 | exact allLt_all (by assumption : _ ∧ _ ∧ _ ∧ _ ∧ _ ∧ _ ∧ AllLt _ _).2.2.2.2.2.2 | exact allLt_all (by assumption : _ ∧ _ ∧ _ ∧ _ ∧ _ ∧ _ ∧ _ ∧ AllLt _ _).2.2.2.2.2.2.2 | exact allLt_all (by assumption : _ ∧ _ ∧ _ ∧ _ ∧ _ ∧ _ ∧ _ ∧ _ ∧ AllLt _ _).2.2.2.2.2.2.2.2 | exact allLt_all (by assumption : _ ∧ _ ∧ _ ∧ _ ∧ _ ∧ _ ∧ _ ∧ _ ∧ _ ∧ AllLt _ _).2.2.2.2.2.2.2.2.2 | exact allLt_all (by assumption : _ ∧ _ ∧ _ ∧ _ ∧ _ ∧ _ ∧ _ ∧ _ ∧ _ ∧ _ ∧ AllLt _ _).2.2.2.2.2.2.2.2.2.2 | exact allLt_all (by assumption : _ ∧ _ ∧ _ ∧ _ ∧ _ ∧ _ ∧ _ ∧ _ ∧ _ ∧ _ ∧ _ ∧ AllLt _ _).2.2.2.2.2.2.2.2.2.2.2 | exact allLt_all (by assumption : _ ∧ _ ∧ _ ∧ _ ∧ _ ∧ _ ∧ _ ∧ _ ∧ _ ∧ _ ∧ _ ∧ _ ∧ AllLt _ _).2.2.2.2.2.2.2.2.2.2.2.2 | exact allLt_all (by assumption : _ ∧ _ ∧ _ ∧ _ ∧ _ ∧ _ ∧ _ ∧ _ ∧ _ ∧ _ ∧ _ ∧ _ ∧ _ ∧ AllLt _ _).2.2.2.2.2.2.2.2.2.2.2.2.2 | exact allLt_all (by assumption : _ ∧ _ ∧ _ ∧ _ ∧ _ ∧ _ ∧ _ ∧ _ ∧ _ ∧ _ ∧ _ ∧ _ ∧ _ ∧ _ ∧ AllLt _ _).2.2.2.2.2.2.2.2.2.2.2.2.2.2 | exact allLt_all (by assumption : _ ∧ _ ∧ _ ∧ _ ∧ _ ∧ _ ∧ _ ∧ _ ∧ _ ∧ _ ∧ _ ∧ _ ∧ _ ∧ _ ∧ _ ∧ AllLt _ _).2.2.2.2.2.2.2.2.2.2.2.2.2.2.2 | exact allLt_all (by assumption : _ ∧ _ ∧ _ ∧ _ ∧ _ ∧ _ ∧ _ ∧ _ ∧ _ ∧ _ ∧ _ ∧ _ ∧ _ ∧ _ ∧ _ ∧ _ ∧ AllLt _ _).2.2.2.2.2.2.2.2.2.2.2.2.2.2.2.2 | exact allLt_all (by assumption : _ ∧ _ ∧ _ ∧ _ ∧ _ ∧ _ ∧ _ ∧ _ ∧ _ ∧ _ ∧ _ ∧ _ ∧ _ ∧ _ ∧ _ ∧ _ ∧ _ ∧ AllLt _ _).2.2.2.2.2.2.2.2.2.2.2.2.2.2.2.2.2 | exact allLt_all (by assumption : _ ∧ _ ∧ _ ∧ _ ∧ _ ∧ _ ∧ _ ∧ _ ∧ _ ∧ _ ∧ _ ∧ _ ∧ _ ∧ _ ∧ _ ∧ _ ∧ _ ∧ _ ∧ AllLt _ _).2.2.2.2.2.2.2.2.2.2.2.2.2.2.2.2.2.2 | exact allLt_all (by assumption : _ ∧ _ ∧ _ ∧ _ ∧ _ ∧ _ ∧ _ ∧ _ ∧ _ ∧ _ ∧ _ ∧ _ ∧ _ ∧ _ ∧ _ ∧ _ ∧ _ ∧ _ ∧ _ ∧ AllLt _ _).2.2.2.2.2.2.2.2.2.2.2.2.2.2.2.2.2.2.2 | exact allLt_all (by assumption : _ ∧ _ ∧ _ ∧ _ ∧ _ ∧ _ ∧ _ ∧ _ ∧ _ ∧ _ ∧ _ ∧ _ ∧ _ ∧ _ ∧ _ ∧ _ ∧ _ ∧ _ ∧ _ ∧ _ ∧ AllLt _ _).2.2.2.2.2.2.2.2.2.2.2.2.2.2.2.2.2.2.2.2 | exact allLt_all (by assumption : _ ∧ _ ∧ _ ∧ _ ∧ _ ∧ _ ∧ _ ∧ _ ∧ _ ∧ _ ∧ _ ∧ _ ∧ _ ∧ _ ∧ _ ∧ _ ∧ _ ∧ _ ∧ _ ∧ _ ∧ _ ∧ AllLt _ _).2.2.2.2.2.2.2.2.2.2.2.2.2.2.2.2.2.2.2.2.2 | exact allLt_all (by assumption : _ ∧ _ ∧ _ ∧ _ ∧ _ ∧ _ ∧ _ ∧ _ ∧ _ ∧ _ ∧ _ ∧ _ ∧ _ ∧ _ ∧ _ ∧ _ ∧ _ ∧ _ ∧ _ ∧ _ ∧ _ ∧ _ ∧ AllLt _ _).2.2.2.2.2.2.2.2.2.2.2.2.2.2.2.2.2.2.2.2.2.2 | exact allLt_all (by assumption : _ ∧ _ ∧ _ ∧ _ ∧ _ ∧ _ ∧ _ ∧ _ ∧ _ ∧ _ ∧ _ ∧ _ ∧ _ ∧ _ ∧ _ ∧ _ ∧ _ ∧ _ ∧ _ ∧ _ ∧ _ ∧ _ ∧ _ ∧ AllLt _ _).2.2.2.2.2.2.2.2.2.2.2.2.2.2.2.2.2.2.2.2.2.2.2 | exact allLt_all (by assumption : _ ∧ _ ∧ _ ∧ _ ∧ _ ∧ _ ∧ _ ∧ _ ∧ _ ∧ _ ∧ _ ∧ _ ∧ _ ∧ _ ∧ _ ∧ _ ∧ _ ∧ _ ∧ _ ∧ _ ∧ _ ∧ _ ∧ _ ∧ _ ∧ AllLt _ _).2.2.2.2.2.2.2.2.2.2.2.2.2.2.2.2.2.2.2.2.2.2.2.2 | exact allLt_all (by assumption : _ ∧ _ ∧ _ ∧ _ ∧ _ ∧ _ ∧ _ ∧ _ ∧ _ ∧ _ ∧ _ ∧ _ ∧ _ ∧ _ ∧ _ ∧ _ ∧ _ ∧ _ ∧ _ ∧ _ ∧ _ ∧ _ ∧ _ ∧ _ ∧ _ ∧ AllLt _ _).2.2.2.2.2.2.2.2.2.2.2.2.2.2.2.2.2.2.2.2.2.2.2.2.2 | exact allLt_all (by assumption : _ ∧ _ ∧ _ ∧ _ ∧ _ ∧ _ ∧ _ ∧ _ ∧ _ ∧ _ ∧ _ ∧ _ ∧ _ ∧ _ ∧ _ ∧ _ ∧ _ ∧ _ ∧ _ ∧ _ ∧ _ ∧ _ ∧ _ ∧ _ ∧ _ ∧ _ ∧ AllLt _ _).2.2.2.2.2.2.2.2.2.2.2.2.2.2.2.2.2.2.2.2.2.2.2.2.2.2 | exact allLt_all (by assumption : _ ∧ _ ∧ _ ∧ _ ∧ _ ∧ _ ∧ _ ∧ _ ∧ _ ∧ _ ∧ _ ∧ _ ∧ _ ∧ _ ∧ _ ∧ _ ∧ _ ∧ _ ∧ _ ∧ _ ∧ _ ∧ _ ∧ _ ∧ _ ∧ _ ∧ _ ∧ _ ∧ AllLt _ _).2.2.2.2.2.2.2.2.2.2.2.2.2.2.2.2.2.2.2.2.2.2.2.2.2.2.2 | exact allLt_all (by assumption : _ ∧ _ ∧ _ ∧ _ ∧ _ ∧ _ ∧ _ ∧ _ ∧ _ ∧ _ ∧ _ ∧ _ ∧ _ ∧ _ ∧ _ ∧ _ ∧ _ ∧ _ ∧ _ ∧ _ ∧ _ ∧ _ ∧ _ ∧ _ ∧ _ ∧ _ ∧ _ ∧ _ ∧ AllLt _ _).2.2.2.2.2.2.2.2.2.2.2.2.2.2.2.2.2.2.2.2.2.2.2.2.2.2.2.2 | exact allLt_all (by assumption : _ ∧ _ ∧ _ ∧ _ ∧ _ ∧ _ ∧ _ ∧ _ ∧ _ ∧ _ ∧ _ ∧ _ ∧ _ ∧ _ ∧ _ ∧ _ ∧ _ ∧ _ ∧ _ ∧ _ ∧ _ ∧ _ ∧ _ ∧ _ ∧ _ ∧ _ ∧ _ ∧ _ ∧ _ ∧ AllLt _ _).2.2.2.2.2.2.2.2.2.2.2.2.2.2.2.2.2.2.2.2.2.2.2.2.2.2.2.2.2 | exact allLt_all (by assumption : _ ∧ _ ∧ _ ∧ _ ∧ _ ∧ _ ∧ _ ∧ _ ∧ _ ∧ _ ∧ _ ∧ _ ∧ _ ∧ _ ∧ _ ∧ _ ∧ _ ∧ _ ∧ _ ∧ _ ∧ _ ∧ _ ∧ _ ∧ _ ∧ _ ∧ _ ∧ _ ∧ _ ∧ _ ∧ _ ∧ AllLt _ _).2.2.2.2.2.2.2.2.2.2.2.2.2.2.2.2.2.2.2.2.2.2.2.2.2.2.2.2.2.2
  k_with "y_memB" => first | (refine List.mem_append_left _ (List.mem_append_left _ ?_); k_extra "y_mem") | (refine List.mem_append_right _ ?_; k_extra "y_mem")
  k_with "y_runs" => first | exact All2.nil | (refine' All2.cons ⟨_, _, _, _, rfl, ?zmv5⟩ ?zrv5; (case zmv5 => k_extra "y_memB"); (case zrv5 => k_extra "y_runs"))
  k_with "y_sub" => first | assumption | (refine List.mem_cons_of_mem _ ?_; k_extra "y_sub")
  unfold Con
  intros
  rename_i hret
  rename_i hH hTk _ _
  obtain rfl := hH.resolve_left Bool.false_ne_true
  refine wpAny_call ?_
  k_dflt (refine' code_def (binds := []) ?k1 ?k2 ?k3 ?k4 ?k5 ?kA ?kF ?kK ?k6 ?k7 ?k8 ?k9 ?kB ?_ ?c2 ?c3 ?c4 ?c5; k_extra "y_e1")
  k_steps
  rename_i R9 F9 N9 _
  refine Comp1.grow (R := fun i ex v => RunR ex v (65536 * (i : Int) + 65534, 65536 * (i : Int) + 65535)) (fun i ex ex' v hs hr => hr.mono hs) rfl F9 N9 (.range R9 (n := 17) rfl rfl) (by decide) ?tu ?dn
  case tu =>
    rintro I C D i v oI oC mC ys ex nw h tk E' hID hDC hi ⟨t, rfl⟩ hl hX hsub oc hx F N ap _ _
    rw [Int.zero_add] at hx
    clear N9 F9 R9
    k_steps
    refine cend_new (by assumption) (by assumption) (by assumption) oc ap trivial ⟨rfl, [_], rfl, fun p hp => ?_, ?_⟩
    · rw [List.mem_singleton.mp hp]
      exact (by assumption : I < _ ∧ C < _ ∧ D < _ ∧ AllLt _ _).1
    · exact ⟨_, _, _, _, rfl, List.mem_cons_self ..⟩
  case dn =>
    intro D ys ex nw h tk hl hR hE hD off hX hsub F N
    have N2 := news_ins N hsub
    have hB : [Value.ref D].length + ys.length ≤ sizeLine := by show 1 + ys.length ≤ sizeLine; rw [hl]; decide
    have hs2 : ∀ q ∈ news, q ∈ nw := fun q hq => hsub q (by k_extra "y_sub")
    have hE2 : ∀ p ∈ ex, ∀ q ∈ news, q.1 < p.1 := fun p hp q hq => hE p hp q (by k_extra "y_sub")
    have hD2 : ∀ q ∈ news, q.1 < D := fun q hq => hD q (by k_extra "y_sub")
    clear N9 F9 R9 N
    k_steps
    refine' hret _ (([_, _, _, _, _, _, _, _, _, _, _, _, _, _, _, _] ++ ex) ++ [_, _, _, _, _, _, _, _, _, _, _, _, _]) _ _ ?zp ?zo ?zf ?zn
    case zn =>
      refine news_regroup ?_ (hX.trans ?_)
      · simp only [List.cons_append, List.nil_append]
        assumption
      · simp only [List.cons_append, List.nil_append]
        exact rfl
    case zf => k_asm
    case zo =>
      refine ord_app (ord_app ?_ hE2) ?_
      · repeat' (first | exact ord_nil | refine ord_cons ?_ ?_)
        all_goals first | exact hD2 | exact lt_nw (by k_extra "y_lt") hs2 | k_extra "y_lt"
      · repeat' (first | exact ord_nil | refine ord_cons ?_ ?_)
        all_goals k_extra "y_lt"
    case zp =>
      refine ⟨_, _, _, rfl, List.mem_append_left _ (List.mem_append_left _ (List.mem_cons_self ..)), ?_⟩
      refine .cons ⟨_, _, _, rfl, by k_extra "y_memB", by k_extra "y_runs"⟩ (.cons ⟨_, _, _, rfl, by k_extra "y_memB", by k_extra "y_runs"⟩ (.cons ⟨_, _, _, rfl, by k_extra "y_memB", .cons ⟨_, _, _, _, rfl, by k_extra "y_memB"⟩ (nonch_of hl fun i v e => (hR i v e).mono fun p hp => List.mem_append_left _ (List.mem_append_right _ hp))⟩ (.cons ⟨_, _, _, rfl, by k_extra "y_memB", by k_extra "y_runs"⟩ (.cons ⟨_, _, _, rfl, by k_extra "y_memB", by k_extra "y_runs"⟩ (.cons ⟨_, _, _, rfl, by k_extra "y_memB", by k_extra "y_runs"⟩ (.cons ⟨_, _, _, rfl, by k_extra "y_memB", by k_extra "y_runs"⟩ .nil))))))
end
section
theorem news_mid {h₀ h : Heap} {L : Addr} {x : Addr × Obj} {tl news : List (Addr × Obj)} (N : News h₀ L h (tl ++ x :: news)) : News h₀ L h (x :: (tl ++ news)) := fun p hp => N p (by
  simp only [List.mem_cons, List.mem_append] at hp ⊢
  rcases hp with h | h | h
  · exact .inr (.inl h)
  · exact .inl h
  · exact .inr (.inr h))
set_option maxHeartbeats 4000000 in
theorem con_signA (w : World) (news : List (Addr × Obj)) (c : Int) (t1 : Tok) (u : Nat) (hu : c.fmod 8 = (u : Int)) (hu7 : u < 7) : Con false 0 w 2 231 [.int c t1] news (fun tl r => (∃ k t, r = .str ⟨#[k]⟩ t ∧ SignOk u k) ∧ tl = []) := by
  w_top off
  k_with_none
  k_with "y_room" => first | ((try simp only [depth_under_make, depth_under_kw, depth_in1, depth_deeper, depth_caller]); (try dsimp only [yTop]); first | exact lim2 (by assumption) rfl | exact lim1 (by assumption) rfl | exact lim0 (by assumption)) | ((try simp only [depth_under_make, depth_under_kw, depth_in1, depth_deeper, depth_caller] at *); (try dsimp only [yTop] at *); omega)
  k_with "y_units" => first | ((try simp only [units_in1, units_deeper, Around.mark_units, units_caller]); (try dsimp only [yTop]); first | exact lim2 (by assumption) rfl | exact lim1 (by assumption) rfl) | (have hcL9 := cLine_is; ((try simp only [units_in1, units_deeper, Around.mark_units, units_caller] at *); (try dsimp only [yTop] at *); omega))
  k_with "y_k5" => ((case k1 => k_asm); (case k2 => k_asm); (case k3 => k_asm); (case k4 => k_asm); (case k5 => k_asm))
  k_with "y_args" => (k_extra "y_k5"; (case kK => first | exact rfl | assumption); (case kH => first | exact Or.inl rfl | exact Or.inr rfl | assumption); (case kT => first | exact Nat.zero_le _ | (dsimp only at *; omega)); (case kd => ktr_room); (case ku => ktr_units))
  k_with "y_eC" => ((case kA => exact rfl); (case kF => exact rfl); (case kK => assumption); k_extra "y_k5"; (case k6 => k_is); (case k7 => k_is); (case k8 => ktr_room); (case k9 => exact BindsTo.of_eq rfl); (case c2 => exact rfl); (case c3 => exact rfl); (case c4 => exact rfl))
  k_with "y_e2" => (k_extra "y_eC"; (case kB => exact rfl); (case kD => decide +kernel); k_whole; intro g' L' h' tk' cells' FG' F' N' Y' B' X' T' l1; (try k_lt l1); k_cells Y'; (try simp only [List.cons_append, List.nil_append] at N'); (try dsimp only); (try k_lift B'); (try k_fold))
  k_with "y_mm" => first | with_reducible assumption | (refine List.mem_cons_of_mem _ ?_; k_extra "y_mm")
  k_with "subscriptTail Name Constant ref int" => (k_here; k_dflt (refine' item_mem ?iNw ?iMw ?i0w ?i1w ?i2w ?_ ?i3w; (case iNw => k_asm); (case iMw => k_extra "y_mm"); (case i0w => decide); (case i1w => decide); (case i2w => rfl); (case i3w => with_unfolding_all rfl); (try dsimp only); (try k_fold)))
  k_with "call ref" => (k_here; k_dflt (refine' con_use (con_runs _ _) ?k1 ?k2 ?k3 ?k4 ?k5 ?kK ?kH ?kT ?kd ?ku ?_; k_extra "y_args"; intro r9 tl9 h9 tk9 T9 P9 l9 F9 N9; refine stop_ ?_))
  k_with "eval ListComp" => (k_here; refine stop_ ?_)
  k_with "exec Assign Name ListComp" => (k_here; refine stop_ ?_)
  k_with "call builtin:len" => (k_here; k_dflt (refine' KM.len_K ?k1v3 ?k2v3 ?k3v3 ?k4v3 ?_; (case k1v3 => k_asm); (case k2v3 => first | exact List.mem_cons_self .. | with_reducible assumption | (refine List.mem_cons_of_mem _ ?_; with_reducible assumption) | (refine List.mem_cons_of_mem _ (List.mem_cons_of_mem _ ?_); with_reducible assumption) | (refine List.mem_cons_of_mem _ (List.mem_cons_of_mem _ (List.mem_cons_of_mem _ ?_)); with_reducible assumption)); (case k3v3 => exact (by assumption : Array.size _ = _)); (case k4v3 => omega)); (try dsimp only); (try k_fold))
  unfold Con
  intros
  rename_i hret
  rename_i hH hTk _ _
  obtain rfl := hH.resolve_left Bool.false_ne_true
  refine wpAny_call ?_
  k_dflt (refine' code_defC (binds := [(Str.ofString "cell", .int c t1)]) ?k1 ?k2 ?k3 ?k4 ?k5 ?kA ?kF ?kK ?k6 ?k7 ?k8 ?k9 ?kB ?kD ?_ ?c2 ?c3 ?c4; k_extra "y_e2")
  k_steps
  rename_i r9 tl9 h9 tk9 T9 P9 l9 F9 N9
  obtain ⟨ra, rvs, rn, rfl, hrm, hra⟩ := P9
  have hT : ∀ q ∈ news, q ∈ tl9 ++ news := fun q hq => List.mem_append_right _ hq
  have hsT : ∀ q ∈ tl9, q ∈ tl9 ++ news := fun q hq => List.mem_append_left _ hq
  replace hrm := hsT _ hrm
  replace hra := forall₂_mono (fun _ _ h => TabR.mono hsT h) hra
  have N10 := news_mid N9
  clear N9
  generalize hX : tl9 ++ news = nT at N10 hrm hra hT
  unfold Stop
  k_steps
  rename Fr _ _ _ _ => lF'
  refine' listcomp2A lF' ?c1 ?c2 ?c3 ?c4 ?c5 ?c6 ?c7 ?c8 ?c9 ?c10 ?c11 ?c12 ?_ ?c13
  case c1 => exact rfl
  case c2 => exact rfl
  case c3 => with_unfolding_all rfl
  case c4 => decide
  case c5 => exact rfl
  case c6 => decide
  case c7 => exact rfl
  case c8 => exact rfl
  case c9 => decide
  case c10 => intro C z; rfl
  case c11 => exact rfl
  case c12 => exact rfl
  case c13 => intro z; rfl
  k_steps
  have hlen : rvs.length = 7 := hra.length
  obtain ⟨v, hv⟩ : ∃ v, rvs[u]? = some v := ⟨rvs[u], by simp⟩
  obtain ⟨rs, hrs, ta, tvs, tn, rfl, htm, htr⟩ := hra.get hv
  have hrs' : runsD.getD u [] = rs := by rw [List.getD_eq_getElem?_getD, hrs]; rfl
  have hrok := runs_ok u hu7
  have hmok := members_ok u hu7
  have hmlen := members_len u hu7
  unfold membersOf at hmok hmlen
  rw [hrs'] at hrok hmok hmlen
  (k_here; k_dflt (refine' item_mem ?iN (List.mem_cons_of_mem _ hrm) ?i0 ?i1 ?i2 ?_ ?i3; (case iN => k_asm); (case i0 => (rw [hu]; omega)); (case i1 => (rw [hu]; omega)); (case i2 => (rw [hu]; simpa using hv)); (case i3 => with_unfolding_all rfl)))
  rename News _ _ _ _ => lN'
  k_dflt (refine' Comp2.still (fun i ys => IntsAre ys (codes (rs.take i))) ?zh lF' lN' ?zl ?zn ?tu ?dn)
  case zh => exact rfl
  case zl => exact .list (List.mem_cons_of_mem _ htm)
  case zn => exact .nil
  case tu =>
    rintro I C D i v oI oC mC ys nw h tk E' hID hDC hi hP hR hsub oc hx F N ap hS
    obtain ⟨⟨lo, hh9⟩, hd, a, t, u', n', rfl, ham⟩ := htr.get (by simpa using hP : tvs[i]? = some v)
    have hm := hsub _ (List.mem_cons_of_mem _ ham)
    obtain ⟨b0, b1, b2⟩ := hrok _ (List.mem_of_getElem? hd)
    have hl9 := hR.length
    have hl8 := codes_take_le rs (i + 1)
    rw [codes_step hd, List.length_append, List.length_map, List.length_range] at hl8
    dsimp only at *
    clear lF' lN'
    k_steps
    k_dflt (refine' Inner2.names ?zf ?zn oc ap hS ?zc ?zl ?zg; (case zf => k_asm); (case zn => k_asm); (case zc => exact .range (n := (hh9 - lo + 1).toNat) (by assumption) (small_one (by omega) (by omega) (by omega) (by omega)) (by rw [rangeSize_one, if_pos (by omega)]; omega)))
    case zl => rw [hl9]; have : 100 ≤ sizeLine := by decide
               omega
    case zg =>
      intro us hul hus
      refine ⟨rfl, hsub, ?_⟩
      rw [codes_step hd]
      exact ints_app hR (ints_range hul hus)
  case dn =>
    intro D ys nw h tk hR hsub hD F N
    have N2 : News _ _ _ ((D, LCg.lst ys) :: _) := fun p hp => N p (by
      rcases List.mem_cons.mp hp with rfl | hp
      · exact List.mem_cons_self ..
      · exact List.mem_cons_of_mem _ (hsub _ hp))
    have hlt : tvs.toArray.size = rs.length := by rw [List.size_toArray]; exact htr.length
    rw [hlt, List.take_length] at hR
    clear lF' lN' N
    have hl9 := hR.length
    have hl8 : ys.toArray.size = (codes rs).length := by rw [List.size_toArray]; exact hl9
    have hq0 : 0 ≤ (c.fdiv 8).fmod ((codes rs).length : Int) := by rw [Int.fmod_eq_emod_of_nonneg _ (by omega)]; exact Int.emod_nonneg _ (by omega)
    have hq1 : (c.fdiv 8).fmod ((codes rs).length : Int) < (codes rs).length := by rw [Int.fmod_eq_emod_of_nonneg _ (by omega)]; exact Int.emod_lt_of_pos _ (by omega)
    obtain ⟨hk0, hk1⟩ := hmok ((codes rs).getD ((c.fdiv 8).fmod ((codes rs).length : Int)).toNat 0) (by
      rw [List.getD_eq_getElem?_getD, List.getElem?_eq_getElem (by omega)]
      exact List.getElem_mem ..)
    have hk2 : (codes rs).getD ((c.fdiv 8).fmod ((codes rs).length : Int)).toNat 0 ≤ 1114111 := by
      have := hk1.2.1
      omega
    k_steps
    refine' hret _ [] _ _ ⟨⟨_, _, rfl, hk1⟩, rfl⟩ ?zo ?zf ?zn
    case zo => exact ord_nil
    case zf => k_asm
    case zn => exact y_drop (by assumption) (by simp only [List.nil_append]; intro q hq; exact List.mem_cons_of_mem _ (List.mem_cons_of_mem _ (hT q hq)))
end
section
theorem off_cons {x : Addr × Obj} {c : Addr} {l : List (Addr × Obj)} (h : c < x.1) (h' : ∀ p ∈ l, p.1 ≠ c) : ∀ p ∈ x :: l, p.1 ≠ c := fun p hp => by
  rcases List.mem_cons.mp hp with rfl | hp
  · exact neGt h
  · exact h' p hp
theorem cell_off {c : Addr} {o : Obj} {tl news : List (Addr × Obj)} (l9 : ∀ p ∈ tl, ∀ q ∈ (c, o) :: news, q.1 < p.1) (l1 : ∀ p ∈ news, p.1 < c - 1) : ∀ p ∈ tl ++ news, p.1 ≠ c := fun p hp => by
  rcases List.mem_append.mp hp with hp | hp
  · exact neGt (l9 p hp _ (List.mem_cons_self ..))
  · exact Nat.ne_of_lt (Nat.lt_of_lt_of_le (l1 p hp) (Nat.sub_le ..))
theorem inner_news {h₀ h : Heap} {L I C D l : Addr} {o oI oC oD : Obj} {nw : List (Addr × Obj)} (N : News h₀ L h ((l, o) :: (I, oI) :: (C, oC) :: (D, oD) :: nw)) : News h₀ L h ((I, oI) :: (C, oC) :: (D, oD) :: (l, o) :: nw) := fun p hp => N p (by
  simp only [List.mem_cons] at hp ⊢
  rcases hp with h | h | h | h | h
  · exact .inr (.inl h)
  · exact .inr (.inr (.inl h))
  · exact .inr (.inr (.inr (.inl h)))
  · exact .inl h
  · exact .inr (.inr (.inr (.inr h))))
theorem inner_apart {I C D l : Addr} {o : Obj} {nw : List (Addr × Obj)} (lt : I < l ∧ C < l ∧ D < l ∧ AllLt l nw) (ap : Apart I C D nw) : Apart I C D ((l, o) :: nw) :=
  ⟨ap.1, ap.2.1, ap.2.2.1, fun p hp => by
    rcases List.mem_cons.mp hp with rfl | hp
    · exact ⟨neGt lt.1, neGt lt.2.1, neGt lt.2.2.1⟩
    · exact ap.2.2.2 p hp⟩
theorem bang_str (t : Tok) : Value.str (Str.ofString "!") t = Value.str ⟨#[33]⟩ t := by rw [show Str.ofString "!" = ⟨#[33]⟩ by decide]
theorem sign_free {us : List Value} {n : Nat} {b : Int} (hU : us = [] ↔ ∀ i < n, (decide ((runsD.flatten.getD i (0, 0)).1 ≤ b) && decide (b ≤ (runsD.flatten.getD i (0, 0)).2)) = false) (hn : n = runsD.flatten.length) (h : us = []) : inRuns b = false :=
  any_false (d := (0, 0)) fun i hi => hU.mp h i (hn ▸ hi)
set_option maxHeartbeats 4000000 in
theorem con_signB (w : World) (news : List (Addr × Obj)) (c : Int) (t1 : Tok) (hu : c.fmod 8 = 7) : Con false 0 w 2 231 [.int c t1] news (fun tl r => (∃ k t, r = .str ⟨#[k]⟩ t ∧ SignOk 7 k) ∧ tl = []) := by
  w_top off
  k_with_none
  k_with "y_room" => first | ((try simp only [depth_under_make, depth_under_kw, depth_in1, depth_deeper, depth_caller]); (try dsimp only [yTop]); first | exact lim2 (by assumption) rfl | exact lim1 (by assumption) rfl | exact lim0 (by assumption)) | ((try simp only [depth_under_make, depth_under_kw, depth_in1, depth_deeper, depth_caller] at *); (try dsimp only [yTop] at *); omega)
  k_with "y_units" => first | ((try simp only [units_in1, units_deeper, Around.mark_units, units_caller]); (try dsimp only [yTop]); first | exact lim2 (by assumption) rfl | exact lim1 (by assumption) rfl) | (have hcL9 := cLine_is; ((try simp only [units_in1, units_deeper, Around.mark_units, units_caller] at *); (try dsimp only [yTop] at *); omega))
  k_with "y_k5" => ((case k1 => k_asm); (case k2 => k_asm); (case k3 => k_asm); (case k4 => k_asm); (case k5 => k_asm))
  k_with "y_args" => (k_extra "y_k5"; (case kK => first | exact rfl | assumption); (case kH => first | exact Or.inl rfl | exact Or.inr rfl | assumption); (case kT => first | exact Nat.zero_le _ | (dsimp only at *; omega)); (case kd => ktr_room); (case ku => ktr_units))
  k_with "y_eC" => ((case kA => exact rfl); (case kF => exact rfl); (case kK => assumption); k_extra "y_k5"; (case k6 => k_is); (case k7 => k_is); (case k8 => ktr_room); (case k9 => exact BindsTo.of_eq rfl); (case c2 => exact rfl); (case c3 => exact rfl); (case c4 => exact rfl))
  k_with "y_e2" => (k_extra "y_eC"; (case kB => exact rfl); (case kD => decide +kernel); k_whole; intro g' L' h' tk' cells' FG' F' N' Y' B' X' T' l1; (try k_lt l1); k_cells Y'; (try simp only [List.cons_append, List.nil_append] at N'); (try dsimp only); (try k_lift B'); (try k_fold))
  k_with "y_subT" => first | exact (by assumption : ∀ q ∈ _, q ∈ _) _ (by assumption) | (refine List.mem_cons_of_mem _ ?_; k_extra "y_subT")
  k_with "call ref" => (k_here; k_dflt (refine' con_use (con_runs _ _) ?k1 ?k2 ?k3 ?k4 ?k5 ?kK ?kH ?kT ?kd ?ku ?_; k_extra "y_args"; intro r9 tl9 h9 tk9 T9 P9 l9 F9 N9; refine stop_ ?_))
  k_with "eval ListComp" => (k_here; refine stop_ ?_)
  k_with "exec Assign Name ListComp" => (k_here; refine stop_ ?_)
  k_with "call builtin:len" => (k_here; k_dflt (refine' KM.len_K ?k1v4 ?k2v4 ?k3v4 ?k4v4 ?_; (case k1v4 => k_asm); (case k2v4 => first | exact List.mem_cons_self .. | with_reducible assumption | (refine List.mem_cons_of_mem _ ?_; with_reducible assumption) | (refine List.mem_cons_of_mem _ (List.mem_cons_of_mem _ ?_); with_reducible assumption) | (refine List.mem_cons_of_mem _ (List.mem_cons_of_mem _ (List.mem_cons_of_mem _ ?_)); with_reducible assumption)); (case k3v4 => exact (by assumption : Array.size _ = _)); (case k4v4 => omega)); (try dsimp only); (try k_fold))
  k_with "subscriptTail ListComp BinOp ref int" => (k_here; k_dflt (refine' ints_sub ?k1v5 ?k2v5 ?k3v5 ?k4v5 ?k5v5 ?k6v5 ?_ ?k7v5; (case k1v5 => k_asm); (case k2v5 => first | with_reducible assumption | (refine List.mem_cons_of_mem _ ?_; with_reducible assumption) | (refine List.mem_cons_of_mem _ (List.mem_cons_of_mem _ ?_); with_reducible assumption) | (refine List.mem_cons_of_mem _ (List.mem_cons_of_mem _ (List.mem_cons_of_mem _ ?_)); with_reducible assumption)); (case k3v5 => with_reducible assumption); (case k4v5 => assumption); (case k5v5 => assumption); (case k6v5 => omega); (case k7v5 => with_unfolding_all rfl); intro z9; (try dsimp only); (try k_fold)))
  k_with "storeName" => (k_here; k_dflt (refine' stCN (own := []) ?Fv6 ?Nv6 ?cv6 ?dv6 ?h1v6 ?h2v6 ?_ ?hkv6 ?hlv6; (case Fv6 => k_asm); (case Nv6 => k_asm); (case cv6 => rfl); (case dv6 => assumption); (case h1v6 => exact (fun _ h => nomatch h)); (case h2v6 => assumption); (case hkv6 => rfl); (case hlv6 => rfl)); intro h' o' F' N' d'; (simp only [List.nil_append] at N'))
  k_with "y_sub" => first | with_reducible assumption | (refine List.mem_cons_of_mem _ ?_; k_extra "y_sub")
  k_with "subscriptTail Name Constant ref int" => (k_here; k_dflt (refine' item_mem ?iNv8 ?iMv8 ?i0v8 ?i1v8 ?i2v8 ?_ ?i3v8; (case iNv8 => k_asm); (case iMv8 => k_extra "y_sub"); (case i0v8 => decide); (case i1v8 => decide); (case i2v8 => rfl); (case i3v8 => with_unfolding_all rfl); (try dsimp only); (try k_fold)))
  k_with "compareOp NotEq ref ref" => (k_here; k_dflt (refine' ne_empty ?av9 ?bv9 ?uv9 ?_; (case av9 => kmk_list); (case bv9 => kmk_list); (case uv9 => ktr_units)))
  unfold Con
  intros
  rename_i hret
  rename_i hH hTk _ _
  obtain rfl := hH.resolve_left Bool.false_ne_true
  refine wpAny_call ?_
  k_dflt (refine' code_defC (binds := [(Str.ofString "cell", .int c t1)]) ?k1 ?k2 ?k3 ?k4 ?k5 ?kA ?kF ?kK ?k6 ?k7 ?k8 ?k9 ?kB ?kD ?_ ?c2 ?c3 ?c4; k_extra "y_e2")
  k_steps
  rename_i r9 tl9 h9 tk9 T9 P9 l9 F9 N9
  obtain ⟨ra, rvs, rn, rfl, hrm, hra⟩ := P9
  have hT : ∀ q ∈ news, q ∈ tl9 ++ news := fun q hq => List.mem_append_right _ hq
  have hsT : ∀ q ∈ tl9, q ∈ tl9 ++ news := fun q hq => List.mem_append_left _ hq
  replace hrm := hsT _ hrm
  replace hra := forall₂_mono (fun _ _ h => TabR.mono hsT h) hra
  have N10 := news_mid N9
  clear N9
  have hco := cell_off l9 (by assumption)
  generalize hX : tl9 ++ news = nT at N10 hrm hra hT hco
  unfold Stop
  k_steps
  rename Fr _ _ _ _ => lF'
  refine' listcomp2A lF' ?c1 ?c2 ?c3 ?c4 ?c5 ?c6 ?c7 ?c8 ?c9 ?c10 ?c11 ?c12 ?_ ?c13
  case c1 => exact rfl
  case c2 => exact rfl
  case c3 => with_unfolding_all rfl
  case c4 => decide
  case c5 => exact rfl
  case c6 => decide
  case c7 => exact rfl
  case c8 => exact rfl
  case c9 => decide
  case c10 => intro C z; rfl
  case c11 => exact rfl
  case c12 => exact rfl
  case c13 => intro z; rfl
  k_steps
  have hlen : rvs.length = 7 := hra.length
  rename News _ _ _ _ => lN'
  k_dflt (refine' Comp2.still (fun i ys => All2 (RunR nT) ys ((runsD.take i).flatten)) ?zh lF' lN' ?zl ?zn ?tu ?dn)
  case zh => exact rfl
  case zl => exact .list (List.mem_cons_of_mem _ hrm)
  case zn => exact .nil
  case tu =>
    rintro I C D i v oI oC mC ys nw h tk E' hID hDC hi hP hR hsub oc hx F N ap hS
    obtain ⟨rs, hrs, ta, tvs, tn, rfl, htm, htr⟩ := hra.get (by simpa using hP : rvs[i]? = some v)
    have hm := hsub _ (List.mem_cons_of_mem _ htm)
    have hl9 := hR.length
    have hl8 := flat_len (i + 1)
    rw [flat_step hrs, List.length_append, ← htr.length] at hl8
    clear lF' lN'
    k_steps
    k_dflt (refine' Inner2.names ?zf ?zn oc ap hS ?zc ?zl ?zg; (case zf => k_asm); (case zn => k_asm); (case zc => exact .list (List.mem_cons_of_mem _ hm)))
    case zl => rw [hl9, List.size_toArray]; have : 35 ≤ sizeLine := by decide
               omega
    case zg =>
      intro us hul hus
      refine ⟨rfl, hsub, ?_⟩
      rw [flat_step hrs]
      obtain rfl := list_same (by simpa using hul) (fun i v e => by simpa using hus i v e : ∀ (i : Nat) v, us[i]? = some v → tvs[i]? = some v)
      exact all2_app hR htr
  case dn =>
    intro D ys nw h tk hR hsub hD F N
    have N2 : News _ _ _ (_ :: (D, LCg.lst ys) :: nT) := fun p hp => N p (by
      rcases List.mem_cons.mp hp with rfl | hp
      · exact List.mem_cons_of_mem _ (hsub _ (List.mem_cons_self ..))
      · rcases List.mem_cons.mp hp with rfl | hp
        · exact List.mem_cons_self ..
        · exact List.mem_cons_of_mem _ (hsub _ (List.mem_cons_of_mem _ hp)))
    have hlt : rvs.toArray.size = runsD.length := by rw [List.size_toArray]; exact hra.length
    rw [hlt, List.take_length] at hR
    clear lF' lN' N
    have hl9 := hR.length
    have hl8 : ys.toArray.size = 35 := by rw [List.size_toArray, hl9, runs_count]
    k_steps
    unfold Stop

    rename Fr _ _ _ _ => lF'
    refine' listcomp2 lF' ?c3 ?c4 ?c5 ?c6 ?c7 ?c8 ?c9 ?c10 ?_ ?c13
    case c3 => with_unfolding_all rfl
    case c4 => decide
    case c5 => exact rfl
    case c6 => decide
    case c7 => exact rfl
    case c8 => exact rfl
    case c9 => decide
    case c10 => intro C z; rfl
    case c13 => intro z; rfl
    k_steps
    rename News _ _ _ _ => lN'
    k_dflt (refine' Comp2.still (fun i zs => IntsAre zs (besides (runsD.flatten.take i))) ?zh lF' lN' ?zl ?zn ?tu ?dn)
    case zh => exact rfl
    case zl => exact .list (List.mem_cons_of_mem _ (List.mem_cons_self ..))
    case zn => exact .nil
    case tu =>
      rintro I C D2 i v oI oC mC zs nw h tk E' hID hDC hi hP hR2 hsub2 oc hx F N ap hS
      obtain ⟨⟨lo, hh9⟩, hd, a, t, u', n', rfl, ham⟩ := hR.get (by simpa using hP : ys[i]? = some v)
      have hm := hsub2 _ (List.mem_cons_of_mem _ (List.mem_cons_of_mem _ ham))
      obtain ⟨b0, b1, b2⟩ := runs_all _ (List.mem_of_getElem? hd)
      have hz9 := hR2.length
      rw [besides_len] at hz9
      have hz8 : (List.take i runsD.flatten).length ≤ 35 := by rw [List.length_take, runs_count]; omega
      dsimp only at *
      clear lF' lN'
      k_steps
      k_dflt (refine' Inner2.names ?zf (inner_news ?zn) oc (inner_apart ?za ap) (List.mem_cons_of_mem _ hS) ?zc ?zl ?zg; (case zf => k_asm); (case zn => k_asm); (case za => assumption); (case zc => exact .list (List.mem_cons_of_mem _ (List.mem_cons_self ..))))
      case zl => rw [hz9]; have : 72 ≤ sizeLine := by decide
                 simp only [List.size_toArray, List.length_cons, List.length_nil]
                 omega
      case zg =>
        intro us hul hus
        refine ⟨rfl, fun q hq => List.mem_cons_of_mem _ (hsub2 q hq), ?_⟩
        rw [besides_step hd]
        obtain rfl := list_same (vs := [_, _]) (by simpa using hul) (fun i v e => by simpa using hus i v e)
        exact ints_app hR2 (.cons _ _ (.cons _ _ .nil))
    case dn =>
      intro D2 zs nw h tk hR2 hsub2 hD2 F N
      have N3 : News _ _ _ (_ :: (D2, LCg.lst zs) :: (D, LCg.lst ys) :: nT) := fun p hp => N p (by
        rcases List.mem_cons.mp hp with rfl | hp
        · exact List.mem_cons_of_mem _ (hsub2 _ (List.mem_cons_self ..))
        · rcases List.mem_cons.mp hp with rfl | hp
          · exact List.mem_cons_self ..
          · exact List.mem_cons_of_mem _ (hsub2 _ (List.mem_cons_of_mem _ hp)))
      have hz8 : (besides runsD.flatten).length = 70 := by rw [besides_len, runs_count]
      have ht : runsD.flatten.take ys.toArray.size = runsD.flatten := by rw [hl8, ← runs_count, List.take_length]
      rw [ht] at hR2
      have hq0 : 0 ≤ (c.fdiv 8).fmod (2 * ((35 : Nat) : Int)) := by rw [Int.fmod_eq_emod_of_nonneg _ (by omega)]; exact Int.emod_nonneg _ (by omega)
      have hq2 : (c.fdiv 8).fmod (2 * ((35 : Nat) : Int)) < 70 := by rw [Int.fmod_eq_emod_of_nonneg _ (by omega)]; exact Int.emod_lt_of_pos _ (by omega)
      have hq1 : (c.fdiv 8).fmod (2 * ((35 : Nat) : Int)) < ((besides runsD.flatten).length : Int) := by rw [hz8]; exact hq2
      obtain ⟨hb0, hb1⟩ := beside_ok ((besides runsD.flatten).getD ((c.fdiv 8).fmod (2 * ((35 : Nat) : Int))).toNat 0) (by
        rw [List.getD_eq_getElem?_getD, List.getElem?_eq_getElem (by omega)]
        exact List.getElem_mem ..)
      have h2c := off_cons (x := (D2, LCg.lst zs)) (hD2 _ (List.mem_cons_self ..)) (off_cons (x := (D, LCg.lst ys)) (hD _ (List.mem_cons_self ..)) hco)
      clear lN' N
      have h2c := off_cons (x := (D2, LCg.lst zs)) (hD2 _ (List.mem_cons_self ..)) (off_cons (x := (D, LCg.lst ys)) (hD _ (List.mem_cons_self ..)) hco)
      k_steps
      · refine' hret _ [] _ _ ⟨⟨_, _, bang_str _, bang_ok⟩, rfl⟩ ?zo ?zf ?zn
        case zo => exact ord_nil
        case zf => k_asm
        case zn => exact y_drop (by assumption) (by simp only [List.nil_append]; intro q hq; exact List.mem_cons_of_mem _ (List.mem_cons_of_mem _ (List.mem_cons_of_mem _ (hT q hq))))
      · unfold Stop
        clear hq0 hq1 hq2 hR2 hz8
        generalize (besides runsD.flatten).getD ((c.fdiv 8).fmod (2 * ((35 : Nat) : Int))).toNat 0 = b at *
        rename Fr _ _ _ _ => lF'
        refine' listcompF lF' ?c3 ?c4 ?c5 ?c6 ?c7 ?c8 ?_ ?c13
        case c3 => with_unfolding_all rfl
        case c4 => decide
        case c5 => exact rfl
        case c6 => decide
        case c7 => exact rfl
        case c8 => decide
        case c13 => intro z; rfl
        k_steps
        rename News _ _ _ _ => lN'
        k_dflt (refine' CompF.intro (fun i => decide ((runsD.flatten.getD i (0, 0)).1 ≤ b) && decide (b ≤ (runsD.flatten.getD i (0, 0)).2)) ?zh lF' lN' ?zl ?zs ?tu ?dn)
        case zh => exact rfl
        case zl => exact .list (List.mem_cons_of_mem _ (List.mem_cons_of_mem _ (List.mem_cons_self ..)))
        case zs => rw [hl8]; decide
        case tu =>
          intro I C D3 i v oI oC mC us h tk E' hi hP oc hx F N ap hS
          obtain ⟨⟨lo, hh9⟩, hd, a, t, u', n', rfl, ham⟩ := hR.get (by simpa using hP : ys[i]? = some v)
          have hdd : runsD.flatten.getD i (0, 0) = (lo, hh9) := by rw [List.getD_eq_getElem?_getD, hd]; rfl
          rw [hdd]
          dsimp only at *
          clear lF' lN'
          k_steps
          all_goals (refine ⟨?_, _, _, rfl, F, N⟩; first | (simp_all; done) | (simp_all; omega))
        case dn =>
          intro D3 us h tk hU hD3 F N
          clear lF' lN'
          k_steps
          · refine' hret _ [] _ _ ⟨⟨_, _, bang_str _, bang_ok⟩, rfl⟩ ?zo ?zf ?zn
            case zo => exact ord_nil
            case zf => k_asm
            case zn => exact y_drop (by assumption) (by simp only [List.nil_append]; intro q hq; k_extra "y_subT")
          · refine' hret _ [] _ _ ⟨⟨_, _, rfl, hb1 (by first | omega | simp_all) (sign_free hU (by rw [hl8, runs_count]) (by simp_all))⟩, rfl⟩ ?zo ?zf ?zn
            case zo => exact ord_nil
            case zf => k_asm
            case zn => exact y_drop (by assumption) (by simp only [List.nil_append]; intro q hq; k_extra "y_subT")
end
section
theorem con_sign (w : World) (news : List (Addr × Obj)) (c : Int) (t1 : Tok) : Con false 0 w 2 231 [.int c t1] news (fun tl r => (∃ k t, r = .str ⟨#[k]⟩ t ∧ SignOk (c.fmod 8).toNat k) ∧ tl = []) := by
  have h0 : 0 ≤ c.fmod 8 := by rw [Int.fmod_eq_emod_of_nonneg _ (by decide)]; exact Int.emod_nonneg _ (by decide)
  have h1 : c.fmod 8 < 8 := by rw [Int.fmod_eq_emod_of_nonneg _ (by decide)]; exact Int.emod_lt_of_pos _ (by decide)
  by_cases h : (c.fmod 8).toNat < 7
  · exact con_signA w news c t1 (c.fmod 8).toNat (Int.toNat_of_nonneg h0).symm h
  · have e : c.fmod 8 = 7 := by omega
    have := con_signB w news c t1 e
    rw [e]
    exact this
end
section
set_option maxHeartbeats 4000000 in
theorem con_b1 (w : World) (news : List (Addr × Obj)) (c : Nat) (t1 : Tok)  : ConV true 0 w 1 134 [.str ⟨#[c]⟩ t1] news (fun t => .bool (inS b1S c)) := by
  w_top off
  k_with_none
  k_with "y_room" => first | ((try simp only [depth_under_make, depth_under_kw, depth_in1, depth_deeper, depth_caller]); (try dsimp only [yTop]); first | exact lim2 (by assumption) rfl | exact lim1 (by assumption) rfl | exact lim0 (by assumption)) | ((try simp only [depth_under_make, depth_under_kw, depth_in1, depth_deeper, depth_caller] at *); (try dsimp only [yTop] at *); omega)
  k_with "y_units" => first | ((try simp only [units_in1, units_deeper, Around.mark_units, units_caller]); (try dsimp only [yTop]); first | exact lim2 (by assumption) rfl | exact lim1 (by assumption) rfl) | (have hcL9 := cLine_is; ((try simp only [units_in1, units_deeper, Around.mark_units, units_caller] at *); (try dsimp only [yTop] at *); omega))
  k_with "y_k5" => ((case k1 => k_asm); (case k2 => k_asm); (case k3 => k_asm); (case k4 => k_asm); (case k5 => k_asm))
  k_with "y_eC" => ((case kA => exact rfl); (case kF => exact rfl); (case kK => assumption); k_extra "y_k5"; (case k6 => k_is); (case k7 => k_is); (case k8 => ktr_room); (case k9 => exact BindsTo.of_eq rfl); (case c2 => exact rfl); (case c3 => exact rfl); (case c4 => exact rfl))
  k_with "y_e1" => (k_extra "y_eC"; (case c5 => decide); (case kB => exact locs rfl); k_whole; intro g' L' h' FG' F' N' B' X' T'; (try dsimp only); (try k_lift B'); (try k_fold))
  k_with "compareOp In int ref" => (k_here; k_dflt (refine' wpAny_inSet_of (knd := intKind _ _) (intKind_is _ _ _ _) rfl (set_b1 (Frag.In.keeps ?k1v0 (Fr.keep ?k2v0))) ?_; (case k1v0 => k_asm); (case k2v0 => k_asm)))
  unfold ConV
  intros
  rename_i hret
  rename_i hTk _ _
  refine wpAny_call ?_
  k_dflt (refine' code_def (binds := [(Str.ofString "code", .str ⟨#[c]⟩ t1)]) ?k1 ?k2 ?k3 ?k4 ?k5 ?kA ?kF ?kK ?k6 ?k7 ?k8 ?k9 ?kB ?_ ?c2 ?c3 ?c4 ?c5; k_extra "y_e1")
  k_steps
  all_goals (refine cb_retB hret ?e1 ?e2 ?e3; (case e2 => k_asm); (case e3 => first | k_asm | (refine' y_drop ?N ?S; (case N => k_asm); (case S => kcj_all))); (case e1 => rfl))
set_option maxHeartbeats 4000000 in
theorem con_c6 (w : World) (news : List (Addr × Obj)) (c : Nat) (t1 : Tok)  : ConV true 0 w 1 160 [.str ⟨#[c]⟩ t1] news (fun t => .bool (inS c6S c)) := by
  w_top off
  k_with_none
  k_with "y_room" => first | ((try simp only [depth_under_make, depth_under_kw, depth_in1, depth_deeper, depth_caller]); (try dsimp only [yTop]); first | exact lim2 (by assumption) rfl | exact lim1 (by assumption) rfl | exact lim0 (by assumption)) | ((try simp only [depth_under_make, depth_under_kw, depth_in1, depth_deeper, depth_caller] at *); (try dsimp only [yTop] at *); omega)
  k_with "y_units" => first | ((try simp only [units_in1, units_deeper, Around.mark_units, units_caller]); (try dsimp only [yTop]); first | exact lim2 (by assumption) rfl | exact lim1 (by assumption) rfl) | (have hcL9 := cLine_is; ((try simp only [units_in1, units_deeper, Around.mark_units, units_caller] at *); (try dsimp only [yTop] at *); omega))
  k_with "y_k5" => ((case k1 => k_asm); (case k2 => k_asm); (case k3 => k_asm); (case k4 => k_asm); (case k5 => k_asm))
  k_with "y_eC" => ((case kA => exact rfl); (case kF => exact rfl); (case kK => assumption); k_extra "y_k5"; (case k6 => k_is); (case k7 => k_is); (case k8 => ktr_room); (case k9 => exact BindsTo.of_eq rfl); (case c2 => exact rfl); (case c3 => exact rfl); (case c4 => exact rfl))
  k_with "y_e1" => (k_extra "y_eC"; (case c5 => decide); (case kB => exact locs rfl); k_whole; intro g' L' h' FG' F' N' B' X' T'; (try dsimp only); (try k_lift B'); (try k_fold))
  k_with "compareOp In int ref" => (k_here; k_dflt (refine' wpAny_inSet_of (knd := intKind _ _) (intKind_is _ _ _ _) rfl (set_b1 (Frag.In.keeps ?k1v0 (Fr.keep ?k2v0))) ?_; (case k1v0 => k_asm); (case k2v0 => k_asm)))
  k_with "compareOp In int ref" => (k_here; k_dflt (refine' wpAny_inSet_of (knd := intKind _ _) (intKind_is _ _ _ _) rfl (set_c6 (Frag.In.keeps ?k1v1 (Fr.keep ?k2v1))) ?_; (case k1v1 => k_asm); (case k2v1 => k_asm)))
  unfold ConV
  intros
  rename_i hret
  rename_i hTk _ _
  refine wpAny_call ?_
  k_dflt (refine' code_def (binds := [(Str.ofString "code", .str ⟨#[c]⟩ t1)]) ?k1 ?k2 ?k3 ?k4 ?k5 ?kA ?kF ?kK ?k6 ?k7 ?k8 ?k9 ?kB ?_ ?c2 ?c3 ?c4 ?c5; k_extra "y_e1")
  k_steps
  all_goals (refine cb_retB hret ?e1 ?e2 ?e3; (case e2 => k_asm); (case e3 => first | k_asm | (refine' y_drop ?N ?S; (case N => k_asm); (case S => kcj_all))); (case e1 => rfl))
set_option maxHeartbeats 4000000 in
theorem con_c7 (w : World) (news : List (Addr × Obj)) (c : Nat) (t1 : Tok)  : ConV true 0 w 1 172 [.str ⟨#[c]⟩ t1] news (fun t => .bool (inS c7S c)) := by
  w_top off
  k_with_none
  k_with "y_room" => first | ((try simp only [depth_under_make, depth_under_kw, depth_in1, depth_deeper, depth_caller]); (try dsimp only [yTop]); first | exact lim2 (by assumption) rfl | exact lim1 (by assumption) rfl | exact lim0 (by assumption)) | ((try simp only [depth_under_make, depth_under_kw, depth_in1, depth_deeper, depth_caller] at *); (try dsimp only [yTop] at *); omega)
  k_with "y_units" => first | ((try simp only [units_in1, units_deeper, Around.mark_units, units_caller]); (try dsimp only [yTop]); first | exact lim2 (by assumption) rfl | exact lim1 (by assumption) rfl) | (have hcL9 := cLine_is; ((try simp only [units_in1, units_deeper, Around.mark_units, units_caller] at *); (try dsimp only [yTop] at *); omega))
  k_with "y_k5" => ((case k1 => k_asm); (case k2 => k_asm); (case k3 => k_asm); (case k4 => k_asm); (case k5 => k_asm))
  k_with "y_eC" => ((case kA => exact rfl); (case kF => exact rfl); (case kK => assumption); k_extra "y_k5"; (case k6 => k_is); (case k7 => k_is); (case k8 => ktr_room); (case k9 => exact BindsTo.of_eq rfl); (case c2 => exact rfl); (case c3 => exact rfl); (case c4 => exact rfl))
  k_with "y_e1" => (k_extra "y_eC"; (case c5 => decide); (case kB => exact locs rfl); k_whole; intro g' L' h' FG' F' N' B' X' T'; (try dsimp only); (try k_lift B'); (try k_fold))
  k_with "compareOp In int ref" => (k_here; k_dflt (refine' wpAny_inSet_of (knd := intKind _ _) (intKind_is _ _ _ _) rfl (set_b1 (Frag.In.keeps ?k1v0 (Fr.keep ?k2v0))) ?_; (case k1v0 => k_asm); (case k2v0 => k_asm)))
  k_with "compareOp In int ref" => (k_here; k_dflt (refine' wpAny_inSet_of (knd := intKind _ _) (intKind_is _ _ _ _) rfl (set_c6 (Frag.In.keeps ?k1v1 (Fr.keep ?k2v1))) ?_; (case k1v1 => k_asm); (case k2v1 => k_asm)))
  k_with "compareOp In int ref" => (k_here; k_dflt (refine' wpAny_inSet_of (knd := intKind _ _) (intKind_is _ _ _ _) rfl (set_c7 (Frag.In.keeps ?k1v2 (Fr.keep ?k2v2))) ?_; (case k1v2 => k_asm); (case k2v2 => k_asm)))
  unfold ConV
  intros
  rename_i hret
  rename_i hTk _ _
  refine wpAny_call ?_
  k_dflt (refine' code_def (binds := [(Str.ofString "code", .str ⟨#[c]⟩ t1)]) ?k1 ?k2 ?k3 ?k4 ?k5 ?kA ?kF ?kK ?k6 ?k7 ?k8 ?k9 ?kB ?_ ?c2 ?c3 ?c4 ?c5; k_extra "y_e1")
  k_steps
  all_goals (refine cb_retB hret ?e1 ?e2 ?e3; (case e2 => k_asm); (case e3 => first | k_asm | (refine' y_drop ?N ?S; (case N => k_asm); (case S => kcj_all))); (case e1 => rfl))
set_option maxHeartbeats 4000000 in
theorem con_c8 (w : World) (news : List (Addr × Obj)) (c : Nat) (t1 : Tok)  : ConV true 0 w 1 196 [.str ⟨#[c]⟩ t1] news (fun t => .bool (inS c8S c)) := by
  w_top off
  k_with_none
  k_with "y_room" => first | ((try simp only [depth_under_make, depth_under_kw, depth_in1, depth_deeper, depth_caller]); (try dsimp only [yTop]); first | exact lim2 (by assumption) rfl | exact lim1 (by assumption) rfl | exact lim0 (by assumption)) | ((try simp only [depth_under_make, depth_under_kw, depth_in1, depth_deeper, depth_caller] at *); (try dsimp only [yTop] at *); omega)
  k_with "y_units" => first | ((try simp only [units_in1, units_deeper, Around.mark_units, units_caller]); (try dsimp only [yTop]); first | exact lim2 (by assumption) rfl | exact lim1 (by assumption) rfl) | (have hcL9 := cLine_is; ((try simp only [units_in1, units_deeper, Around.mark_units, units_caller] at *); (try dsimp only [yTop] at *); omega))
  k_with "y_k5" => ((case k1 => k_asm); (case k2 => k_asm); (case k3 => k_asm); (case k4 => k_asm); (case k5 => k_asm))
  k_with "y_eC" => ((case kA => exact rfl); (case kF => exact rfl); (case kK => assumption); k_extra "y_k5"; (case k6 => k_is); (case k7 => k_is); (case k8 => ktr_room); (case k9 => exact BindsTo.of_eq rfl); (case c2 => exact rfl); (case c3 => exact rfl); (case c4 => exact rfl))
  k_with "y_e1" => (k_extra "y_eC"; (case c5 => decide); (case kB => exact locs rfl); k_whole; intro g' L' h' FG' F' N' B' X' T'; (try dsimp only); (try k_lift B'); (try k_fold))
  k_with "compareOp In int ref" => (k_here; k_dflt (refine' wpAny_inSet_of (knd := intKind _ _) (intKind_is _ _ _ _) rfl (set_b1 (Frag.In.keeps ?k1v0 (Fr.keep ?k2v0))) ?_; (case k1v0 => k_asm); (case k2v0 => k_asm)))
  k_with "compareOp In int ref" => (k_here; k_dflt (refine' wpAny_inSet_of (knd := intKind _ _) (intKind_is _ _ _ _) rfl (set_c6 (Frag.In.keeps ?k1v1 (Fr.keep ?k2v1))) ?_; (case k1v1 => k_asm); (case k2v1 => k_asm)))
  k_with "compareOp In int ref" => (k_here; k_dflt (refine' wpAny_inSet_of (knd := intKind _ _) (intKind_is _ _ _ _) rfl (set_c7 (Frag.In.keeps ?k1v2 (Fr.keep ?k2v2))) ?_; (case k1v2 => k_asm); (case k2v2 => k_asm)))
  k_with "compareOp In int ref" => (k_here; k_dflt (refine' wpAny_inSet_of (knd := intKind _ _) (intKind_is _ _ _ _) rfl (set_c8 (Frag.In.keeps ?k1v3 (Fr.keep ?k2v3))) ?_; (case k1v3 => k_asm); (case k2v3 => k_asm)))
  unfold ConV
  intros
  rename_i hret
  rename_i hTk _ _
  refine wpAny_call ?_
  k_dflt (refine' code_def (binds := [(Str.ofString "code", .str ⟨#[c]⟩ t1)]) ?k1 ?k2 ?k3 ?k4 ?k5 ?kA ?kF ?kK ?k6 ?k7 ?k8 ?k9 ?kB ?_ ?c2 ?c3 ?c4 ?c5; k_extra "y_e1")
  k_steps
  all_goals (refine cb_retB hret ?e1 ?e2 ?e3; (case e2 => k_asm); (case e3 => first | k_asm | (refine' y_drop ?N ?S; (case N => k_asm); (case S => kcj_all))); (case e1 => rfl))
set_option maxHeartbeats 4000000 in
theorem con_c9 (w : World) (news : List (Addr × Obj)) (c : Nat) (t1 : Tok)  : ConV true 0 w 1 214 [.str ⟨#[c]⟩ t1] news (fun t => .bool (inS c9S c)) := by
  w_top off
  k_with_none
  k_with "y_room" => first | ((try simp only [depth_under_make, depth_under_kw, depth_in1, depth_deeper, depth_caller]); (try dsimp only [yTop]); first | exact lim2 (by assumption) rfl | exact lim1 (by assumption) rfl | exact lim0 (by assumption)) | ((try simp only [depth_under_make, depth_under_kw, depth_in1, depth_deeper, depth_caller] at *); (try dsimp only [yTop] at *); omega)
  k_with "y_units" => first | ((try simp only [units_in1, units_deeper, Around.mark_units, units_caller]); (try dsimp only [yTop]); first | exact lim2 (by assumption) rfl | exact lim1 (by assumption) rfl) | (have hcL9 := cLine_is; ((try simp only [units_in1, units_deeper, Around.mark_units, units_caller] at *); (try dsimp only [yTop] at *); omega))
  k_with "y_k5" => ((case k1 => k_asm); (case k2 => k_asm); (case k3 => k_asm); (case k4 => k_asm); (case k5 => k_asm))
  k_with "y_eC" => ((case kA => exact rfl); (case kF => exact rfl); (case kK => assumption); k_extra "y_k5"; (case k6 => k_is); (case k7 => k_is); (case k8 => ktr_room); (case k9 => exact BindsTo.of_eq rfl); (case c2 => exact rfl); (case c3 => exact rfl); (case c4 => exact rfl))
  k_with "y_e1" => (k_extra "y_eC"; (case c5 => decide); (case kB => exact locs rfl); k_whole; intro g' L' h' FG' F' N' B' X' T'; (try dsimp only); (try k_lift B'); (try k_fold))
  k_with "compareOp In int ref" => (k_here; k_dflt (refine' wpAny_inSet_of (knd := intKind _ _) (intKind_is _ _ _ _) rfl (set_b1 (Frag.In.keeps ?k1v0 (Fr.keep ?k2v0))) ?_; (case k1v0 => k_asm); (case k2v0 => k_asm)))
  k_with "compareOp In int ref" => (k_here; k_dflt (refine' wpAny_inSet_of (knd := intKind _ _) (intKind_is _ _ _ _) rfl (set_c6 (Frag.In.keeps ?k1v1 (Fr.keep ?k2v1))) ?_; (case k1v1 => k_asm); (case k2v1 => k_asm)))
  k_with "compareOp In int ref" => (k_here; k_dflt (refine' wpAny_inSet_of (knd := intKind _ _) (intKind_is _ _ _ _) rfl (set_c7 (Frag.In.keeps ?k1v2 (Fr.keep ?k2v2))) ?_; (case k1v2 => k_asm); (case k2v2 => k_asm)))
  k_with "compareOp In int ref" => (k_here; k_dflt (refine' wpAny_inSet_of (knd := intKind _ _) (intKind_is _ _ _ _) rfl (set_c8 (Frag.In.keeps ?k1v3 (Fr.keep ?k2v3))) ?_; (case k1v3 => k_asm); (case k2v3 => k_asm)))
  k_with "compareOp In int ref" => (k_here; k_dflt (refine' wpAny_inSet_of (knd := intKind _ _) (intKind_is _ _ _ _) rfl (set_c9 (Frag.In.keeps ?k1v4 (Fr.keep ?k2v4))) ?_; (case k1v4 => k_asm); (case k2v4 => k_asm)))
  unfold ConV
  intros
  rename_i hret
  rename_i hTk _ _
  refine wpAny_call ?_
  k_dflt (refine' code_def (binds := [(Str.ofString "code", .str ⟨#[c]⟩ t1)]) ?k1 ?k2 ?k3 ?k4 ?k5 ?kA ?kF ?kK ?k6 ?k7 ?k8 ?k9 ?kB ?_ ?c2 ?c3 ?c4 ?c5; k_extra "y_e1")
  k_steps
  all_goals (refine cb_retB hret ?e1 ?e2 ?e3; (case e2 => k_asm); (case e3 => first | k_asm | (refine' y_drop ?N ?S; (case N => k_asm); (case S => kcj_all))); (case e1 => rfl))
end
section
set_option maxHeartbeats 4000000 in
theorem con_c11 (w : World) (news : List (Addr × Obj)) (c : Nat) (t1 : Tok)  : ConV true 0 w 1 141 [.str ⟨#[c]⟩ t1] news (fun t => .bool (inC11 c)) := by
  w_top off
  k_with_none
  k_with "y_room" => first | ((try simp only [depth_under_make, depth_under_kw, depth_in1, depth_deeper, depth_caller]); (try dsimp only [yTop]); first | exact lim2 (by assumption) rfl | exact lim1 (by assumption) rfl | exact lim0 (by assumption)) | ((try simp only [depth_under_make, depth_under_kw, depth_in1, depth_deeper, depth_caller] at *); (try dsimp only [yTop] at *); omega)
  k_with "y_units" => first | ((try simp only [units_in1, units_deeper, Around.mark_units, units_caller]); (try dsimp only [yTop]); first | exact lim2 (by assumption) rfl | exact lim1 (by assumption) rfl) | (have hcL9 := cLine_is; ((try simp only [units_in1, units_deeper, Around.mark_units, units_caller] at *); (try dsimp only [yTop] at *); omega))
  k_with "y_k5" => ((case k1 => k_asm); (case k2 => k_asm); (case k3 => k_asm); (case k4 => k_asm); (case k5 => k_asm))
  k_with "y_eC" => ((case kA => exact rfl); (case kF => exact rfl); (case kK => assumption); k_extra "y_k5"; (case k6 => k_is); (case k7 => k_is); (case k8 => ktr_room); (case k9 => exact BindsTo.of_eq rfl); (case c2 => exact rfl); (case c3 => exact rfl); (case c4 => exact rfl))
  k_with "y_e1" => (k_extra "y_eC"; (case c5 => decide); (case kB => exact locs rfl); k_whole; intro g' L' h' FG' F' N' B' X' T'; (try dsimp only); (try k_lift B'); (try k_fold))
  unfold ConV
  intros
  rename_i hret
  rename_i hTk _ _
  refine wpAny_call ?_
  k_dflt (refine' code_def (binds := [(Str.ofString "code", .str ⟨#[c]⟩ t1)]) ?k1 ?k2 ?k3 ?k4 ?k5 ?kA ?kF ?kK ?k6 ?k7 ?k8 ?k9 ?kB ?_ ?c2 ?c3 ?c4 ?c5; k_extra "y_e1")
  k_steps
  all_goals (refine cb_retB hret ?e1 ?e2 ?e3; (case e2 => k_asm); (case e3 => first | k_asm | (refine' y_drop ?N ?S; (case N => k_asm); (case S => kcj_all))); (case e1 => rfl))
set_option maxHeartbeats 4000000 in
theorem con_c4 (w : World) (news : List (Addr × Obj)) (c : Nat) (t1 : Tok) (hc : c < 1114112) : ConV true 0 w 1 148 [.str ⟨#[c]⟩ t1] news (fun t => .bool (inC4 c)) := by
  w_top off
  k_with_none
  k_with "y_room" => first | ((try simp only [depth_under_make, depth_under_kw, depth_in1, depth_deeper, depth_caller]); (try dsimp only [yTop]); first | exact lim2 (by assumption) rfl | exact lim1 (by assumption) rfl | exact lim0 (by assumption)) | ((try simp only [depth_under_make, depth_under_kw, depth_in1, depth_deeper, depth_caller] at *); (try dsimp only [yTop] at *); omega)
  k_with "y_units" => first | ((try simp only [units_in1, units_deeper, Around.mark_units, units_caller]); (try dsimp only [yTop]); first | exact lim2 (by assumption) rfl | exact lim1 (by assumption) rfl) | (have hcL9 := cLine_is; ((try simp only [units_in1, units_deeper, Around.mark_units, units_caller] at *); (try dsimp only [yTop] at *); omega))
  k_with "y_k5" => ((case k1 => k_asm); (case k2 => k_asm); (case k3 => k_asm); (case k4 => k_asm); (case k5 => k_asm))
  k_with "y_eC" => ((case kA => exact rfl); (case kF => exact rfl); (case kK => assumption); k_extra "y_k5"; (case k6 => k_is); (case k7 => k_is); (case k8 => ktr_room); (case k9 => exact BindsTo.of_eq rfl); (case c2 => exact rfl); (case c3 => exact rfl); (case c4 => exact rfl))
  k_with "y_e1" => (k_extra "y_eC"; (case c5 => decide); (case kB => exact locs rfl); k_whole; intro g' L' h' FG' F' N' B' X' T'; (try dsimp only); (try k_lift B'); (try k_fold))
  unfold ConV
  intros
  rename_i hret
  rename_i hTk _ _
  refine wpAny_call ?_
  k_dflt (refine' code_def (binds := [(Str.ofString "code", .str ⟨#[c]⟩ t1)]) ?k1 ?k2 ?k3 ?k4 ?k5 ?kA ?kF ?kK ?k6 ?k7 ?k8 ?k9 ?kB ?_ ?c2 ?c3 ?c4 ?c5; k_extra "y_e1")
  k_steps
  all_goals (refine cb_retB hret ?e1 ?e2 ?e3; (case e2 => k_asm); (case e3 => first | k_asm | (refine' y_drop ?N ?S; (case N => k_asm); (case S => kcj_all))); (case e1 => (unfold inC4; (repeat' split) <;> first | rfl | omega | (simp_all; done) | (simp_all; omega))))
end
section
set_option maxHeartbeats 4000000 in
theorem con_answers (w : World) (news : List (Addr × Obj)) (c : Nat) (t1 : Tok) (hcode : c < 1114112) : Con true 0 w 3 252 [.str ⟨#[c]⟩ t1] news (fun tl r => ∃ x, r = .ref x ∧ tl = [(x, W.listOf #[.bool (tab c 0), .bool (tab c 1), .bool (tab c 2), .bool (tab c 3), .bool (tab c 4), .bool (tab c 5), .bool (tab c 6)] 0)]) := by
  w_top off
  k_with_none
  k_with "y_room" => first | ((try simp only [depth_under_make, depth_under_kw, depth_in1, depth_deeper, depth_caller]); (try dsimp only [yTop]); first | exact lim2 (by assumption) rfl | exact lim1 (by assumption) rfl | exact lim0 (by assumption)) | ((try simp only [depth_under_make, depth_under_kw, depth_in1, depth_deeper, depth_caller] at *); (try dsimp only [yTop] at *); omega)
  k_with "y_units" => first | ((try simp only [units_in1, units_deeper, Around.mark_units, units_caller]); (try dsimp only [yTop]); first | exact lim2 (by assumption) rfl | exact lim1 (by assumption) rfl) | (have hcL9 := cLine_is; ((try simp only [units_in1, units_deeper, Around.mark_units, units_caller] at *); (try dsimp only [yTop] at *); omega))
  k_with "y_k5" => ((case k1 => k_asm); (case k2 => k_asm); (case k3 => k_asm); (case k4 => k_asm); (case k5 => k_asm))
  k_with "y_args" => (k_extra "y_k5"; (case kK => first | exact rfl | assumption); (case kH => first | exact Or.inl rfl | exact Or.inr rfl | assumption); (case kT => first | exact Nat.zero_le _ | (dsimp only at *; omega)); (case kd => ktr_room); (case ku => ktr_units))
  k_with "y_eC" => ((case kA => exact rfl); (case kF => exact rfl); (case kK => assumption); k_extra "y_k5"; (case k6 => k_is); (case k7 => k_is); (case k8 => ktr_room); (case k9 => exact BindsTo.of_eq rfl); (case c2 => exact rfl); (case c3 => exact rfl); (case c4 => exact rfl))
  k_with "y_e1" => (k_extra "y_eC"; (case c5 => decide); (case kB => exact locs rfl); k_whole; intro g' L' h' FG' F' N' B' X' T'; (try dsimp only); (try k_lift B'); (try k_fold))
  k_with "call ref" => (k_here; k_dflt (refine' conV_use (con_b1 _ _ _ _) ?k1 ?k2 ?k3 ?k4 ?k5 ?kK ?kH ?kT ?kd ?ku ?_; k_extra "y_args"; intro t9 h9 tk9 T9 F9 N9; (try dsimp only); (try k_fold)))
  k_with "call ref" => (k_here; k_dflt (refine' conV_use (con_c11 _ _ _ _) ?k1 ?k2 ?k3 ?k4 ?k5 ?kK ?kH ?kT ?kd ?ku ?_; k_extra "y_args"; intro t9 h9 tk9 T9 F9 N9; (try dsimp only); (try k_fold)))
  k_with "call ref" => (k_here; k_dflt (refine' conV_use (con_c4 _ _ _ _ (by assumption)) ?k1 ?k2 ?k3 ?k4 ?k5 ?kK ?kH ?kT ?kd ?ku ?_; k_extra "y_args"; intro t9 h9 tk9 T9 F9 N9; (try dsimp only); (try k_fold)))
  k_with "call ref" => (k_here; k_dflt (refine' conV_use (con_c6 _ _ _ _) ?k1 ?k2 ?k3 ?k4 ?k5 ?kK ?kH ?kT ?kd ?ku ?_; k_extra "y_args"; intro t9 h9 tk9 T9 F9 N9; (try dsimp only); (try k_fold)))
  k_with "call ref" => (k_here; k_dflt (refine' conV_use (con_c7 _ _ _ _) ?k1 ?k2 ?k3 ?k4 ?k5 ?kK ?kH ?kT ?kd ?ku ?_; k_extra "y_args"; intro t9 h9 tk9 T9 F9 N9; (try dsimp only); (try k_fold)))
  k_with "call ref" => (k_here; k_dflt (refine' conV_use (con_c8 _ _ _ _) ?k1 ?k2 ?k3 ?k4 ?k5 ?kK ?kH ?kT ?kd ?ku ?_; k_extra "y_args"; intro t9 h9 tk9 T9 F9 N9; (try dsimp only); (try k_fold)))
  k_with "call ref" => (k_here; k_dflt (refine' conV_use (con_c9 _ _ _ _) ?k1 ?k2 ?k3 ?k4 ?k5 ?kK ?kH ?kT ?kd ?ku ?_; k_extra "y_args"; intro t9 h9 tk9 T9 F9 N9; (try dsimp only); (try k_fold)))
  unfold Con
  intros
  rename_i hret
  rename_i hTk _ _
  refine wpAny_call ?_
  k_dflt (refine' code_def (binds := [(Str.ofString "sign", .str ⟨#[c]⟩ t1)]) ?k1 ?k2 ?k3 ?k4 ?k5 ?kA ?kF ?kK ?k6 ?k7 ?k8 ?k9 ?kB ?_ ?c2 ?c3 ?c4 ?c5; k_extra "y_e1")
  k_steps
  all_goals (refine hret _ _ _ _ ⟨_, rfl, rfl⟩ (ord1 (by assumption)) ?f ?n; (case f => k_asm); (case n => k_asm))
end
section
set_option maxHeartbeats 4000000 in
theorem con_parse (w : World) (news : List (Addr × Obj)) (x : Str) (t1 : Tok) (hx : x.length ≤ 1000) (hp : Txt.slice x none (some 3) = Str.ofString "257") (hq : Txt.slice x (some 3) (some 5) = Str.ofString " \"") : ConV false 0 w 1 116 [.str x t1] news (fun t => .str ⟨(pScan (x.cps.toList.drop 5)).toArray⟩ t) := by
  w_top off
  k_with_none
  k_with "y_room" => first | ((try simp only [depth_under_make, depth_under_kw, depth_in1, depth_deeper, depth_caller]); (try dsimp only [yTop]); first | exact lim2 (by assumption) rfl | exact lim1 (by assumption) rfl | exact lim0 (by assumption)) | ((try simp only [depth_under_make, depth_under_kw, depth_in1, depth_deeper, depth_caller] at *); (try dsimp only [yTop] at *); omega)
  k_with "y_units" => first | ((try simp only [units_in1, units_deeper, Around.mark_units, units_caller]); (try dsimp only [yTop]); first | exact lim2 (by assumption) rfl | exact lim1 (by assumption) rfl) | (have hcL9 := cLine_is; ((try simp only [units_in1, units_deeper, Around.mark_units, units_caller] at *); (try dsimp only [yTop] at *); omega))
  k_with "y_k5" => ((case k1 => k_asm); (case k2 => k_asm); (case k3 => k_asm); (case k4 => k_asm); (case k5 => k_asm))
  k_with "y_eC" => ((case kA => exact rfl); (case kF => exact rfl); (case kK => assumption); k_extra "y_k5"; (case k6 => k_is); (case k7 => k_is); (case k8 => ktr_room); (case k9 => exact BindsTo.of_eq rfl); (case c2 => exact rfl); (case c3 => exact rfl); (case c4 => exact rfl))
  k_with "y_e1" => (k_extra "y_eC"; (case c5 => decide); (case kB => exact locs rfl); k_whole; intro g' L' h' FG' F' N' B' X' T'; (try dsimp only); (try k_lift B'); (try k_fold))
  k_with "exec While Compare cons nil" => (k_here; refine stop_ ?_)
  unfold ConV
  intros
  rename_i hret
  rename_i hH hTk _ _
  obtain rfl := hH.resolve_left Bool.false_ne_true
  refine wpAny_call ?_
  k_dflt (refine' code_def (binds := [(Str.ofString "resp", .str x t1)]) ?k1 ?k2 ?k3 ?k4 ?k5 ?kA ?kF ?kK ?k6 ?k7 ?k8 ?k9 ?kB ?_ ?c2 ?c3 ?c4 ?c5; k_extra "y_e1")
  k_steps
  all_goals first | (exfalso; simp_all; done) | skip
  all_goals (unfold Stop; (rename Fr _ _ _ _ => lF'); (rename News _ _ _ _ => lN'); refine While_inv2 (JP x t1 news (pScan (x.cps.toList.drop 5))) (n₀ := x.length - 5) lF' lN' ?j0 ?j1)
  case j0 => exact ⟨rfl, _, 5, 5, _, Str.ofString "", _, none, mp_start .., rfl, len_of_slice5 hq, rfl, rfl, by decide⟩
  case j1 =>
    intro n m₁ news₁ h₁ tk₁ F₁ N₁ hJ
    try k_fold
    obtain ⟨rfl, tn, i, iz, ti, d, td, oc, rfl, hz, hi, hn, ht, hd⟩ := hJ
    unfold MP at F₁
    k_steps
    all_goals subst hz
    all_goals first
      | (refine ⟨_, _, _, _, x.length - (i + 2), rfl, by k_asm, by k_asm, by omega, rfl, _, i + 2, _, _, _, _, _, mp_turn1 .., by omega, by omega, rfl, scan_quote2 (by omega) (by assumption) (by first | assumption | (simp only [bne, Bool.not_eq_false'] at *; assumption)) ht, by omega⟩; done)
      | (refine ⟨_, _, _, _, x.length - (i + 1), rfl, by k_asm, by k_asm, by omega, rfl, _, i + 1, _, _, _, _, _, mp_turn2 .., by omega, by omega, rfl, scan_plain (by omega) (by first | assumption | (simp only [bne, Bool.not_eq_true', Bool.not_eq_true] at *; assumption)) ht, by omega⟩; done)
      | (dsimp only [WhileStep2]; k_steps; done)
      | (dsimp only [WhileStep2]; k_steps)
      | skip
    all_goals (refine cb_retS hret ?e1 ?e2 ?e3; (case e2 => k_asm); (case e3 => k_asm); (case e1 => first | exact scan_over (by assumption) ht | exact scan_end (by omega) (by assumption) (fun h9 => absurd (by assumption) h9) ht | exact scan_end (by omega) (by assumption) (fun h9 => (by first | assumption | (simp only [bne, Bool.not_eq_true', Bool.not_eq_true] at *; assumption))) ht))
end
section
set_option maxHeartbeats 4000000 in
theorem con_parseR (w : World) (news : List (Addr × Obj)) (x : Str) (t1 : Tok) (hx : x.length ≤ 1000) (hp : Txt.slice x none (some 3) ≠ Str.ofString "257") : ConR false 0 w 1 116 [.str x t1] news (.ref 107) [.str x t1] := by
  w_top off
  k_with_none
  k_with "y_room" => first | ((try simp only [depth_under_make, depth_under_kw, depth_in1, depth_deeper, depth_caller]); (try dsimp only [yTop]); first | exact lim2 (by assumption) rfl | exact lim1 (by assumption) rfl | exact lim0 (by assumption)) | ((try simp only [depth_under_make, depth_under_kw, depth_in1, depth_deeper, depth_caller] at *); (try dsimp only [yTop] at *); omega)
  k_with "y_units" => first | ((try simp only [units_in1, units_deeper, Around.mark_units, units_caller]); (try dsimp only [yTop]); first | exact lim2 (by assumption) rfl | exact lim1 (by assumption) rfl) | (have hcL9 := cLine_is; ((try simp only [units_in1, units_deeper, Around.mark_units, units_caller] at *); (try dsimp only [yTop] at *); omega))
  k_with "y_k5" => ((case k1 => k_asm); (case k2 => k_asm); (case k3 => k_asm); (case k4 => k_asm); (case k5 => k_asm))
  k_with "y_eC" => ((case kA => exact rfl); (case kF => exact rfl); (case kK => assumption); k_extra "y_k5"; (case k6 => k_is); (case k7 => k_is); (case k8 => ktr_room); (case k9 => exact BindsTo.of_eq rfl); (case c2 => exact rfl); (case c3 => exact rfl); (case c4 => exact rfl))
  k_with "y_e1" => (k_extra "y_eC"; (case c5 => decide); (case kB => exact locs rfl); k_whole; intro g' L' h' FG' F' N' B' X' T'; (try dsimp only); (try k_lift B'); (try k_fold))
  k_with "exec While Compare cons nil" => (k_here; refine stop_ ?_)
  k_with "leaving ref" => (k_here; (refine' leave_raiseC ?k1v1 ?k0v1 ?k2v1 ?k3v1 ?_; (case k0v1 => first | assumption | exact Heap.MadeExc.of (by assumption)); (case k2v1 => assumption); (case k1v1 => assumption); (case k3v1 => k_asm); k_whole; intro h' t' S' C' U'; (try dsimp only at S' C' U' ⊢)))
  unfold ConR
  intros
  rename_i hret
  rename_i hH hTk _ _
  obtain rfl := hH.resolve_left Bool.false_ne_true
  have kd9 : KtsDicts [] ({} : Heap) := ktsDicts_nil
  refine wpAny_call ?_
  k_dflt (refine' code_def (binds := [(Str.ofString "resp", .str x t1)]) ?k1 ?k2 ?k3 ?k4 ?k5 ?kA ?kF ?kK ?k6 ?k7 ?k8 ?k9 ?kB ?_ ?c2 ?c3 ?c4 ?c5; k_extra "y_e1")
  k_steps
  all_goals first | (exfalso; simp_all; done) | skip
  all_goals (refine' hret _ _ _ _ _ ?f ?u ?r ?cc; (case r => assumption); (case cc => assumption); (case u => assumption); (case f => k_asm))
end
section
set_option maxHeartbeats 4000000 in
theorem con_parseE (w : World) (news : List (Addr × Obj)) (x : Str) (t1 : Tok) (hx : x.length ≤ 1000) (hp : Txt.slice x none (some 3) = Str.ofString "257") (hq : Txt.slice x (some 3) (some 5) ≠ Str.ofString " \"") : ConV false 0 w 1 116 [.str x t1] news (fun t => .str (Str.ofString "") t) := by
  w_top off
  k_with_none
  k_with "y_room" => first | ((try simp only [depth_under_make, depth_under_kw, depth_in1, depth_deeper, depth_caller]); (try dsimp only [yTop]); first | exact lim2 (by assumption) rfl | exact lim1 (by assumption) rfl | exact lim0 (by assumption)) | ((try simp only [depth_under_make, depth_under_kw, depth_in1, depth_deeper, depth_caller] at *); (try dsimp only [yTop] at *); omega)
  k_with "y_units" => first | ((try simp only [units_in1, units_deeper, Around.mark_units, units_caller]); (try dsimp only [yTop]); first | exact lim2 (by assumption) rfl | exact lim1 (by assumption) rfl) | (have hcL9 := cLine_is; ((try simp only [units_in1, units_deeper, Around.mark_units, units_caller] at *); (try dsimp only [yTop] at *); omega))
  k_with "y_k5" => ((case k1 => k_asm); (case k2 => k_asm); (case k3 => k_asm); (case k4 => k_asm); (case k5 => k_asm))
  k_with "y_eC" => ((case kA => exact rfl); (case kF => exact rfl); (case kK => assumption); k_extra "y_k5"; (case k6 => k_is); (case k7 => k_is); (case k8 => ktr_room); (case k9 => exact BindsTo.of_eq rfl); (case c2 => exact rfl); (case c3 => exact rfl); (case c4 => exact rfl))
  k_with "y_e1" => (k_extra "y_eC"; (case c5 => decide); (case kB => exact locs rfl); k_whole; intro g' L' h' FG' F' N' B' X' T'; (try dsimp only); (try k_lift B'); (try k_fold))
  k_with "exec While Compare cons nil" => (k_here; refine stop_ ?_)
  unfold ConV
  intros
  rename_i hret
  rename_i hH hTk _ _
  obtain rfl := hH.resolve_left Bool.false_ne_true
  refine wpAny_call ?_
  k_dflt (refine' code_def (binds := [(Str.ofString "resp", .str x t1)]) ?k1 ?k2 ?k3 ?k4 ?k5 ?kA ?kF ?kK ?k6 ?k7 ?k8 ?k9 ?kB ?_ ?c2 ?c3 ?c4 ?c5; k_extra "y_e1")
  k_steps
  all_goals first | (exfalso; simp_all; done) | skip
  all_goals (refine cb_retS hret ?e1 ?e2 ?e3; (case e2 => k_asm); (case e3 => first | k_asm | (refine' y_drop ?N ?S; (case N => k_asm); (case S => kcj_all))); (case e1 => rfl))
end
section
section
variable {prog : Program} {w : World} {A₀ A : Around} {s : Shared} {base h₀ : Heap} {env : Env} {outer : List Env} {L : Addr} {m : Str → Option Value} {news : List (Addr × Obj)} {KF : Frag} {p : Program} {lo : List Str} {mean : ExcName → Option Value} {mg mb : Str → Option Value}
    {R : Result → Shared → Prop} {name qual : Str} {params : Arguments} {body : List Stmt} {scope : Scope} {dV kV doc pm cdv ct oc : Value} {an od : Option Addr} {osl : Array (Option Value)} {f : Addr} {args : Args} {binds : List (Str × Value)}
theorem frames_of {b : Addr} (hf : env.frame = some L) (hm : b ∈ (env :: outer).filterMap (·.frame)) : b = L ∨ b ∈ outer.filterMap (·.frame) := by
  rw [List.filterMap_cons, hf] at hm
  exact (List.mem_cons.mp hm)
/-- a def with a try, entered from any frame of a def (with cells or without) -/
theorem code_defX (B : Below A₀ base outer h₀) (F : Fr h₀ L s.heap m) (X₀ : KF.In h₀) (N : News h₀ L s.heap news) (T : Top p lo mean mg mb h₀) (XB : KF.In base) (TB : Top p lo mean mg mb base) (D : KtsDicts (outer.filterMap (·.frame)) h₀)
    (hA : A.frames = some (env :: outer)) (hf : env.frame = some L) (hke : env.scope.kind = .function)
    (ho : KF.lookup f = some ⟨oc, od, .func (fnOf name qual params body scope dV kV doc pm an cdv ct), osl⟩) (hcd : codeIn KF cdv qual = true) (hroom : A.depth < recursionLimit)
    (hbind : BindsTo s (fnOf name qual params body scope dV kV doc pm an cdv ct) args binds) (hloc : ∀ y ∈ binds, scope.names.lookup y.1 = some .local)
    (h : ∀ g L' h₁, Fr h₀ L g m → Fr g L' h₁ (fun y => binds.reverse.lookup y) → News g L' h₁ news → Below A base (env :: outer) g → KF.In g → Top p lo mean mg mb g → KtsDicts ((env :: outer).filterMap (·.frame)) g →
      wpAny (model prog w) (A.deeper (envOf qual scope L' f cdv)) (execs body (envOf qual scope L' f cdv))
        (fun fl s' => LeaveS ((env :: outer).filterMap (·.frame)) A₀ base outer KF p lo mean mg mb h₀ h₀ L m g R (match fl with | .ret v => v | _ => .none) s')
        (fun e s' => wpAny (model prog w) (A.deeper (envOf qual scope L' f cdv)) (leaving (envOf qual scope L' f cdv) e) (fun _ s'' => R (.error e) s'') (fun e' s'' => R (.error e') s'') s')
        { s with heap := h₁, toks := s.toks + binds.length })
    (hco : scope.isCoroutine = false) (hgen : scope.isGenerator = false) (hk : scope.kind = .function)
    (hcell : ∀ x ∈ scope.names, x.2 ≠ .cell) : codeAny (model prog w) A (.call (.ref f) args) R s := by
  obtain ⟨FG, BG, st, _⟩ := groundX (R := R) B F N hA hf hke
  have X := X₀.keeps F.keep
  refine codeAny_call_def (fd := fnOf name qual params body scope dV kV doc pm an cdv ct) (body := body) (binds := binds) hroom (X _ _ ho) rfl (T.nolimit.keeps F.keep) (codeRec_of X hcd) rfl hbind hcell hloc (fun h₁ hns hk₁ => ?_) hco hgen hk
  obtain ⟨oL, es, ep, hLg, hLd, hLk, hLf⟩ := FG.ns
  have nL₀ : h₀.get? L = none := kts_self F
  refine wpAny_mono (h _ s.heap.objs.size h₁ FG ⟨hns, fun b o e => hk₁ b o (of_hideAll _ e), Nat.le_of_eq (hideAll_size _ _)⟩
    (fun q hq => ⟨hk₁ _ _ (N q hq).1, Nat.ne_of_lt (Heap.lt_size (N q hq).1), hideAll_none _ (List.mem_map_of_mem hq)⟩) BG (X₀.keeps st) (T.keeps st) (fun b hb => by
      rcases frames_of hf hb with rfl | hb
      · exact ⟨oL, es, ep, hLg, hLd⟩
      · obtain ⟨o, es', n', ho', hd'⟩ := D b hb
        exact ⟨o, es', n', st b o ho', hd'⟩)) (fun fl s' hl => ?_) fun _ _ y => y
  rcases hl with ⟨L', m', news', F', N', k⟩ | ⟨g', L', m', news', T', F', N', k⟩
  · refine k ⟨⟨oL, es, ep, F'.keep _ _ hLg, hLd, hLk, hLf⟩, fun b o e => F'.keep b o (st b o e), F.above⟩ fun q hq => ⟨(N' q hq).1, fun z => ?_, ?_⟩
    · have := (N' q hq).2.2; rw [z, hLg] at this; cases this
    · cases z : h₀.get? q.1 with
      | none => rfl
      | some o => have := (N' q hq).2.2; rw [st _ _ z] at this; cases this
  obtain ⟨sl, hs⟩ := T'.up hLg
  obtain ⟨T₁, S₁⟩ := kts_turn_at (h := s'.heap) (fs := outer.filterMap (·.frame)) (g := h₀)
    (fun b hb => by
      obtain ⟨_, o, ho', _⟩ := B.frames.mem hb
      exact ⟨o, ho'⟩)
    (fun b o e nmem => F'.keep b o (T'.other b o (st b o e) (fun z => by
      rcases frames_of hf z with z | z
      · rw [z, nL₀] at e
        cases e
      · exact nmem z)))
    (fun b o e hm => by
      obtain ⟨sl', hs'⟩ := T'.up (st b o e)
      exact ⟨sl', F'.keep _ _ hs'⟩)
  have B₃ : Below A₀ base outer (ktsHeap s'.heap (outer.filterMap (·.frame)) h₀) := ⟨B.stack, fun b o e => T₁.other b o (B.stays b o e) (fun hm => by
    rw [(B.frames.mem hm).1] at e
    cases e), B.frames.of_keeps fun b o e _ => by
    obtain ⟨sl', hs'⟩ := T₁.up e
    exact ⟨_, hs', rfl⟩⟩
  refine k _ T₁ ⟨⟨_, es, ep, F'.keep _ _ hs, hLd, hLk, hLf⟩, S₁, by rw [T₁.size]; exact F.above⟩ (fun q hq => ⟨(N' q hq).1, fun z => ?_, ?_⟩) B₃ (XB.keeps B₃.stays) (TB.keeps B₃.stays) (D.turn T₁)
  · have := (N' q hq).2.2; rw [z, hs] at this; cases this
  · refine T₁.none_ _ ?_
    cases z : h₀.get? q.1 with
    | none => rfl
    | some o =>
      obtain ⟨sl', hs'⟩ := T'.up (st _ _ z)
      have := (N' q hq).2.2
      rw [hs'] at this
      cases this
end
/-- a contract of a def that catches: the frames below may be marked (KtsTurn) -/
noncomputable def ConS (g : Bool) (T : Nat) (w : World) (D : Nat) (f : Addr) (vs : List Value) (news : List (Addr × Obj)) (Post : List (Addr × Obj) → Value → Prop) : Prop :=
  ∀ (mean : ExcName → Option Value) (mg mb : Str → Option Value) (hd : Option Value) (dp un : Nat) (gd : Option (List Code)) (cn : Str) (cs : Scope) (a : Addr) (ccd : Value) (cl : List (Str × Addr)) (outer : List Env) (A₀ : Around) (base h₀ : Heap) (L : Addr) (m : Str → Option Value) (s : Shared) (Q E : Value → Shared → Prop),
    Below A₀ base outer h₀ → Fr h₀ L s.heap m → (K w.params).In h₀ → News h₀ L s.heap news → Top qv loose mean mg mb h₀ → (K w.params).In base → Top qv loose mean mg mb base → KtsDicts (outer.filterMap (·.frame)) h₀ → cs.kind = .function → (g = true ∨ hd = none) → T ≤ s.toks → dp + D < recursionLimit → un + 8 * D < cLine →
    (∀ (r : Value) (tl : List (Addr × Obj)) (h' h₀' : Heap) (tk' : Nat), Post tl r → (∀ p ∈ tl, ∀ q ∈ news, q.1 < p.1) → KtsTurn (outer.filterMap (·.frame)) h₀ h₀' → Fr h₀' L h' m → News h₀' L h' (tl ++ news) → Below A₀ base outer h₀' → (K w.params).In h₀' → Top qv loose mean mg mb h₀' → KtsDicts (outer.filterMap (·.frame)) h₀' → Q r { s with heap := h', toks := tk' }) →
    wpAny (model pw w) (yTop hd dp un gd cn cs L a ccd cl outer) (call (.ref f) vs) Q E s
section
variable {g : Bool} {T : Nat} {w : World} {D : Nat} {f : Addr} {vs : List Value} {news : List (Addr × Obj)} {mean : ExcName → Option Value} {mg mb : Str → Option Value} {hd : Option Value} {dp un : Nat} {gd : Option (List Code)} {cn : Str} {cs : Scope} {a : Addr} {ccd : Value} {cl : List (Str × Addr)} {outer : List Env} {A₀ : Around} {base h₀ : Heap} {L : Addr} {m : Str → Option Value} {s : Shared} {Q E : Value → Shared → Prop} {Post : List (Addr × Obj) → Value → Prop}
/-- used by a def that is itself entered so -/
theorem conS_use {g₀ : Heap} (C : ConS g T w D f vs news Post) (B : Below A₀ base outer h₀) (F : Fr h₀ L s.heap m) (X : (K w.params).In h₀) (N : News h₀ L s.heap news) (Tp : Top qv loose mean mg mb h₀) (XB : (K w.params).In base) (TB : Top qv loose mean mg mb base) (DD : KtsDicts (outer.filterMap (·.frame)) h₀) (T0 : KtsTurn (outer.filterMap (·.frame)) g₀ h₀) (hk : cs.kind = .function) (hH : g = true ∨ hd = none) (hT : T ≤ s.toks) (hd1 : dp + D < recursionLimit) (hu : un + 8 * D < cLine)
    (ret : ∀ (r : Value) (tl : List (Addr × Obj)) (h' h₀' : Heap) (tk' : Nat), s.toks ≤ tk' → Post tl r → (∀ p ∈ tl, ∀ q ∈ news, q.1 < p.1) → KtsTurn (outer.filterMap (·.frame)) g₀ h₀' → Fr h₀' L h' m → News h₀' L h' (tl ++ news) → Below A₀ base outer h₀' → (K w.params).In h₀' → Top qv loose mean mg mb h₀' → KtsDicts (outer.filterMap (·.frame)) h₀' → Q r { s with heap := h', toks := tk' }) :
    wpAny (model pw w) (yTop hd dp un gd cn cs L a ccd cl outer) (call (.ref f) vs) Q E s :=
  wpAny_with_toks (Nat.le_refl _) (wpAny_mono (C _ _ _ _ _ _ _ _ _ _ _ _ _ _ _ _ _ _ _ (fun r s' => s.toks ≤ s'.toks → Q r s') (fun e s' => s.toks ≤ s'.toks → E e s') B F X N Tp XB TB DD hk hH hT hd1 hu fun r tl h' h₀' tk' P' l' T' F' N' B' X' P2 D' hk' => ret r tl h' h₀' tk' hk' P' l' (T0.trans T') F' N' B' X' P2 D') (fun _ _ x => x) fun _ _ x => x)
theorem turn_nil {h h' : Heap} (T : KtsTurn [] h h') : ∀ b o, h.get? b = some o → h'.get? b = some o := fun b o e => T.other b o e (fun q => nomatch q)
theorem turn_nil_back {h h' : Heap} (T : KtsTurn [] h h') : ∀ b o, h'.get? b = some o → h.get? b = some o := fun b o e => by
  cases q : h.get? b with
  | none => rw [T.none_ b q] at e; cases e
  | some o' => rw [turn_nil T b o' q] at e; exact e
/-- used by the outermost def: nothing of its ground turns -/
theorem conS_top (C : ConS g T w D f vs news Post) (B : Below A₀ base [] h₀) (F : Fr h₀ L s.heap m) (X : (K w.params).In h₀) (N : News h₀ L s.heap news) (Tp : Top qv loose mean mg mb h₀) (XB : (K w.params).In base) (TB : Top qv loose mean mg mb base) (hk : cs.kind = .function) (hH : g = true ∨ hd = none) (hT : T ≤ s.toks) (hd1 : dp + D < recursionLimit) (hu : un + 8 * D < cLine)
    (ret : ∀ (r : Value) (tl : List (Addr × Obj)) (h' : Heap) (tk' : Nat), s.toks ≤ tk' → Post tl r → (∀ p ∈ tl, ∀ q ∈ news, q.1 < p.1) → Fr h₀ L h' m → News h₀ L h' (tl ++ news) → Q r { s with heap := h', toks := tk' }) :
    wpAny (model pw w) (yTop hd dp un gd cn cs L a ccd cl []) (call (.ref f) vs) Q E s :=
  conS_use C B F X N Tp XB TB ktsDicts_nil KtsTurn.refl hk hH hT hd1 hu fun r tl h' h₀' tk' T' P' l' K' F' N' _ _ _ _ =>
    ret r tl h' tk' T' P' l' ⟨F'.ns, fun b o e => F'.keep b o (turn_nil K' b o e), K'.size ▸ F'.above⟩ fun q hq => ⟨(N' q hq).1, (N' q hq).2.1, by
      cases z : h₀.get? q.1 with
      | none => rfl
      | some o => have := turn_nil K' _ _ z; rw [(N' q hq).2.2] at this; cases this⟩
end
end
section
open PySem.Builtin PySem.Builtin.Str
noncomputable def ExcO (h : Heap) (e t0 C : Addr) : Prop := ∃ o vs, h.get? e = some o ∧ o.cls = .ref C ∧ o.data = .fields vs ∧ vs[0]? = some (.ref t0)
section
variable {prog : Program} {M : Model} {w : World} {A : Around} {E : Value → Shared → Prop} {s : Shared} {KF : Frag} {e t0 C : Addr} {h₀ : Heap} {L : Addr} {news : List (Addr × Obj)}
theorem ExcO.looks {h : Heap} (x : ExcO h e t0 C) : Looks M h (typeOf (.ref e)) (.ref C) := fun A Q E s k q => by
  obtain ⟨o, vs, ho, hc, _⟩ := x
  exact wpAny_bind (wpAny_loadPart (k _ _ ho) (by rw [hc]; exact wpAny_pure q))
theorem ownSpecial {name : Str} {id : String} {args : List Value} {Q : Option Value → Shared → Prop} (X : KF.In s.heap) (x : ExcO s.heap e t0 C) (hs : findIn KF (.ref C) name = some (some (.builtin id)))
    (hb : ∀ self, bindSpecial (.builtin id) self = pure (.builtin id, [self])) (h : wpAny M A (call (.builtin id) (.ref e :: args)) (fun v => Q (some v)) E s) : wpAny M A (callSpecial? (.ref e) name args) Q E s :=
  wpAny_bind (wpAny_bind (x.looks.here ((looks_findIn X hs).here (wpAny_holding (wpAny_bind ((Looks.of_pure (hb _)).here (wpAny_bind (wpAny_mono h (fun _ _ z => wpAny_pure z) fun _ _ z => z))))))))
theorem ownStrEntry {m : Str} {tk : Tok} {Q : Fin → Shared → Prop} (x : ExcO s.heap e t0 C) (ht : s.heap.TupAt t0 [.str m tk]) (hq : Q (.done (.ret (.str m tk))) s) :
    wpAny (model prog w) A (Builtin.«BaseException.__str__» ⟨[.ref e], []⟩) Q E s := by
  obtain ⟨o, vs, ho, _, hd, h0⟩ := x
  obtain ⟨ot, k, hto, _, htd⟩ := ht
  have ba : ∀ {Q' : Value × List Value → Shared → Prop} {A' : Around} {E' : Value → Shared → Prop}, Q' (.ref t0, [.str m tk]) s → wpAny (model prog w) A' (Builtin.BaseException.bexcArgs (.ref e)) Q' E' s := by
    intro Q' A' E' hq'
    unfold Builtin.BaseException.bexcArgs
    refine wpAny_bind (wpAny_field ho hd h0 (wpAny_bind (wpAny_seqItems hto htd ?_)))
    exact wpAny_pure hq'
  unfold Builtin.«BaseException.__str__»
  repeat (first | with_reducible refine ba ?_ | wp_step)
  exact hq
theorem ownStrCall {m : Str} {tk : Tok} {Q : Value → Shared → Prop} (X : KF.In s.heap) (x : ExcO s.heap e t0 C) (hm : mroIn KF C (.type "BaseException") = some true) (ht : s.heap.TupAt t0 [.str m tk]) (hq : Q (.str m tk) s) :
    wpAny (model prog w) A (call (.builtin "BaseException.__str__") [.ref e]) Q E s :=
  wpAny_call (codeAny_call_builtin (by decide +kernel) F.entry_bexc_str (check_slot (i := "BaseException.__str__") (owner := "BaseException") (n := "__str__") (by decide +kernel) (by decide +kernel) (x.looks.andThen (looks_mroIn X hm)) (F.args_bexc_str _) (ownStrEntry x ht hq)))
theorem ownStrOf {m : Str} {tk : Tok} {Q : Value → Shared → Prop} (hu : A.units < cLine) (X : KF.In s.heap) (x : ExcO s.heap e t0 C) (hs : findIn KF (.ref C) (Str.ofString "__str__") = some (some (.builtin "BaseException.__str__"))) (hm : mroIn KF C (.type "BaseException") = some true) (ht : s.heap.TupAt t0 [.str m tk]) (hq : Q (.str m tk) s) :
    wpAny (model prog w) A (Builtin.Str.strOf (.ref e)) Q E s := by
  have FX := PySem.F.excStr_ValueError
  unfold Builtin.Str.strOf
  repeat (first | with_reducible refine wpAny_cRoomFor hu ?_ | with_reducible refine ownSpecial X x hs FX.str.bind (ownStrCall X x hm ht ?_) | wp_step)
  exact hq
theorem strOwn {m : Str} {tk : Tok} {Q : Value → Shared → Prop} (hu : A.units + 2 < cLine) (X : KF.In s.heap) (x : ExcO s.heap e t0 C) (hs : findIn KF (.ref C) (Str.ofString "__str__") = some (some (.builtin "BaseException.__str__"))) (hm : mroIn KF C (.type "BaseException") = some true) (ht : s.heap.TupAt t0 [.str m tk]) (h : Q (.str m tk) s) :
    wpAny (model prog w) A (call (.type "str") [.ref e]) Q E s :=
  callType_new F.called_str (by decide) (F.typeCall_str_1 _) (F.newCall_str_1 _) (fun obj => F.args_object_init_2 obj _) F.entry_str_new
    (meets_str_new (S := fun A' R s' => A'.units + 1 < cLine ∧ KF.In s'.heap ∧ ExcO s'.heap e t0 C ∧ s'.heap.TupAt t0 [.str m tk] ∧ R (.ok (.ret (.str m tk))) s')
      fun _ _ A' _ _ hq => ownStrOf (A := A'.in1) hq.1 hq.2.1 hq.2.2.1 hs hm hq.2.2.2.1 hq.2.2.2.2)
    ⟨(show A.units + 1 + 1 < cLine from hu), X, x, ht, typeIs_str _ _ _, h⟩
theorem strOwn_got {m : Str} {tk : Tok} {Q : Value → Shared → Prop} (hu : A.units + 2 < cLine) (X : KF.In s.heap) (N : News h₀ L s.heap news) (G : Got news e t0 (.ref C) [.str m tk]) (hs : findIn KF (.ref C) (Str.ofString "__str__") = some (some (.builtin "BaseException.__str__"))) (hm : mroIn KF C (.type "BaseException") = some true) (h : Q (.str m tk) s) :
    wpAny (model prog w) A (call (.type "str") [.ref e]) Q E s := by
  obtain ⟨oe, ot, ws, nt, h1, h2, h3, h4, h5, h6, h7⟩ := G
  exact strOwn hu X ⟨oe, ws, (N _ h1).1, h3, h4, h5⟩ hs hm ⟨ot, nt, (N _ h2).1, h6, h7⟩ h
end
end
section
theorem noneOrd {news : List (Addr × Obj)} : ∀ p ∈ ([] : List (Addr × Obj)), ∀ q ∈ news, q.1 < p.1 := fun _ h => nomatch h
set_option maxHeartbeats 4000000 in
theorem con_readR (w : World) (news : List (Addr × Obj)) (x : Str) (t1 : Tok) (hx : x.length ≤ 1000) (hp : Txt.slice x none (some 3) ≠ Str.ofString "257") : ConS false 0 w 3 280 [.str x t1] news (fun tl r => ∃ a tk, r = .ref a ∧ tl = [(a, W.listOf #[.str x tk] 0)]) := by
  w_top off
  k_with_none
  k_with "y_room" => first | ((try simp only [depth_under_make, depth_under_kw, depth_in1, depth_deeper, depth_caller]); (try dsimp only [yTop]); first | exact lim2 (by assumption) rfl | exact lim1 (by assumption) rfl | exact lim0 (by assumption)) | ((try simp only [depth_under_make, depth_under_kw, depth_in1, depth_deeper, depth_caller] at *); (try dsimp only [yTop] at *); omega)
  k_with "y_units" => first | ((try simp only [units_in1, units_deeper, Around.mark_units, units_caller]); (try dsimp only [yTop]); first | exact lim2 (by assumption) rfl | exact lim1 (by assumption) rfl) | (have hcL9 := cLine_is; ((try simp only [units_in1, units_deeper, Around.mark_units, units_caller] at *); (try dsimp only [yTop] at *); omega))
  k_with "y_k5" => ((case k1 => k_asm); (case k2 => k_asm); (case k3 => k_asm); (case k4 => k_asm); (case k5 => k_asm))
  k_with "y_args" => (k_extra "y_k5"; (case kK => first | exact rfl | assumption); (case kH => first | exact Or.inl rfl | exact Or.inr rfl | assumption); (case kT => first | exact Nat.zero_le _ | (dsimp only at *; omega)); (case kd => ktr_room); (case ku => ktr_units))
  k_with "y_eC" => ((case kA => exact rfl); (case kF => exact rfl); (case kK => assumption); k_extra "y_k5"; (case k6 => k_is); (case k7 => k_is); (case k8 => ktr_room); (case k9 => exact BindsTo.of_eq rfl); (case c2 => exact rfl); (case c3 => exact rfl); (case c4 => exact rfl))
  k_with "y_eS" => ((case XB => assumption); (case TB => assumption); (case DD => assumption); k_extra "y_eC"; (case c5 => decide); (case kB => exact locs rfl); k_whole; intro g' L' h' FG' F' N' B' X' T' D'; (try dsimp only); (try k_lift B'); (try k_fold))
  k_with "y_ord" => first | exact ord1 (by assumption) | exact ord1 (allLt_all (by assumption : _ ∧ AllLt _ _).2) | exact ord1 (allLt_all (by assumption : _ ∧ _ ∧ AllLt _ _).2.2) | exact ord1 (allLt_all (by assumption : _ ∧ _ ∧ _ ∧ AllLt _ _).2.2.2) | exact ord1 (allLt_all (by assumption : _ ∧ _ ∧ _ ∧ _ ∧ AllLt _ _).2.2.2.2) | exact ord1 (allLt_all (by assumption : _ ∧ _ ∧ _ ∧ _ ∧ _ ∧ AllLt _ _).2.2.2.2.2)
  k_with "call ref" => (k_here; k_dflt (refine' conR_use (con_parseR _ _ _ _ (by assumption) (by assumption)) ?k1 ?k2 ?k3 ?k4 ?k5 ?kK ?kH ?kT ?kd ?ku ?_; k_extra "y_args"; intro e9 t9 g9 h9 tk9 T9 F9 U9 R9; (try dsimp only); (try k_fold)))
  k_with "call type:str" => (k_here; (with_reducible show wpAny _ _ (call (Value.type "str") [Value.ref _]) _ _ _); k_dflt (refine' strOwn_got ?sUv1 ?sXv1 ?sNv1 ?sGv1 ?sSv1 ?sMv1 ?_; (case sGv1 => assumption); (case sNv1 => assumption); (case sXv1 => k_in); (case sUv1 => (have hcL9 := cLine_is; (try simp only [units_in1, units_deeper, Around.mark_units, units_caller] at *); (try dsimp only [yTop] at *); omega)); (case sSv1 => k_is); (case sMv1 => k_is); (try dsimp only); (try k_fold)))
  unfold ConS
  intros
  rename_i hret
  rename_i hH hTk _ _
  obtain rfl := hH.resolve_left Bool.false_ne_true
  refine wpAny_call ?_
  k_dflt (refine' code_defX (binds := [(Str.ofString "reply", .str x t1)]) ?k1 ?k2 ?k3 ?k4 ?k5 ?XB ?TB ?DD ?kA ?kF ?kK ?k6 ?k7 ?k8 ?k9 ?kB ?_ ?c2 ?c3 ?c4 ?c5; k_extra "y_eS")
  k_steps
  all_goals (refine' hret _ _ _ _ _ ⟨_, _, rfl, rfl⟩ ?zo ?zt ?zf ?zn ?zb ?zx ?zp ?zd; (case zt => first | assumption | exact KtsTurn.refl); (case zb => first | k_asm | (exact KtsDicts.nil)); (case zx => k_asm); (case zp => k_asm); (case zd => first | assumption | k_asm); (case zo => first | k_extra "y_ord" | exact noneOrd); (case zf => k_asm); (case zn => first | k_asm | (rw [List.nil_append]; k_asm)))
end
section
theorem noneOrd2 {news : List (Addr × Obj)} : ∀ p ∈ ([] : List (Addr × Obj)), ∀ q ∈ news, q.1 < p.1 := fun _ h => nomatch h
set_option maxHeartbeats 4000000 in
theorem con_readO (w : World) (news : List (Addr × Obj)) (x : Str) (t1 : Tok) (hx : x.length ≤ 1000) (hp : Txt.slice x none (some 3) = Str.ofString "257") (hq : Txt.slice x (some 3) (some 5) = Str.ofString " \"") : ConS false 0 w 3 280 [.str x t1] news (fun tl r => ∃ t, r = .str ⟨(pScan (x.cps.toList.drop 5)).toArray⟩ t ∧ tl = []) := by
  w_top off
  k_with_none
  k_with "y_room" => first | ((try simp only [depth_under_make, depth_under_kw, depth_in1, depth_deeper, depth_caller]); (try dsimp only [yTop]); first | exact lim2 (by assumption) rfl | exact lim1 (by assumption) rfl | exact lim0 (by assumption)) | ((try simp only [depth_under_make, depth_under_kw, depth_in1, depth_deeper, depth_caller] at *); (try dsimp only [yTop] at *); omega)
  k_with "y_units" => first | ((try simp only [units_in1, units_deeper, Around.mark_units, units_caller]); (try dsimp only [yTop]); first | exact lim2 (by assumption) rfl | exact lim1 (by assumption) rfl) | (have hcL9 := cLine_is; ((try simp only [units_in1, units_deeper, Around.mark_units, units_caller] at *); (try dsimp only [yTop] at *); omega))
  k_with "y_k5" => ((case k1 => k_asm); (case k2 => k_asm); (case k3 => k_asm); (case k4 => k_asm); (case k5 => k_asm))
  k_with "y_args" => (k_extra "y_k5"; (case kK => first | exact rfl | assumption); (case kH => first | exact Or.inl rfl | exact Or.inr rfl | assumption); (case kT => first | exact Nat.zero_le _ | (dsimp only at *; omega)); (case kd => ktr_room); (case ku => ktr_units))
  k_with "y_eC" => ((case kA => exact rfl); (case kF => exact rfl); (case kK => assumption); k_extra "y_k5"; (case k6 => k_is); (case k7 => k_is); (case k8 => ktr_room); (case k9 => exact BindsTo.of_eq rfl); (case c2 => exact rfl); (case c3 => exact rfl); (case c4 => exact rfl))
  k_with "y_eS" => ((case XB => assumption); (case TB => assumption); (case DD => assumption); k_extra "y_eC"; (case c5 => decide); (case kB => exact locs rfl); k_whole; intro g' L' h' FG' F' N' B' X' T' D'; (try dsimp only); (try k_lift B'); (try k_fold))
  k_with "y_ord" => first | exact ord1 (by assumption) | exact ord1 (allLt_all (by assumption : _ ∧ AllLt _ _).2) | exact ord1 (allLt_all (by assumption : _ ∧ _ ∧ AllLt _ _).2.2) | exact ord1 (allLt_all (by assumption : _ ∧ _ ∧ _ ∧ AllLt _ _).2.2.2) | exact ord1 (allLt_all (by assumption : _ ∧ _ ∧ _ ∧ _ ∧ AllLt _ _).2.2.2.2) | exact ord1 (allLt_all (by assumption : _ ∧ _ ∧ _ ∧ _ ∧ _ ∧ AllLt _ _).2.2.2.2.2)
  k_with "call ref" => (k_here; k_dflt (refine' conV_use (con_parse _ _ _ _ (by assumption) (by assumption) (by assumption)) ?k1 ?k2 ?k3 ?k4 ?k5 ?kK ?kH ?kT ?kd ?ku ?_; k_extra "y_args"; intro t9 h9 tk9 T9 F9 N9; (try dsimp only); (try k_fold)))
  unfold ConS
  intros
  rename_i hret
  rename_i hH hTk _ _
  obtain rfl := hH.resolve_left Bool.false_ne_true
  refine wpAny_call ?_
  k_dflt (refine' code_defX (binds := [(Str.ofString "reply", .str x t1)]) ?k1 ?k2 ?k3 ?k4 ?k5 ?XB ?TB ?DD ?kA ?kF ?kK ?k6 ?k7 ?k8 ?k9 ?kB ?_ ?c2 ?c3 ?c4 ?c5; k_extra "y_eS")
  k_steps
  all_goals (refine' hret _ [] _ _ _ ⟨_, rfl, rfl⟩ ?zo ?zt ?zf ?zn ?zb ?zx ?zp ?zd; (case zt => first | assumption | exact KtsTurn.refl); (case zb => first | k_asm | (exact KtsDicts.nil)); (case zx => k_asm); (case zp => k_asm); (case zd => first | assumption | k_asm); (case zo => first | k_extra "y_ord" | exact noneOrd2); (case zf => k_asm); (case zn => first | k_asm | (rw [List.nil_append]; k_asm)))
end
section
theorem noneOrd3 {news : List (Addr × Obj)} : ∀ p ∈ ([] : List (Addr × Obj)), ∀ q ∈ news, q.1 < p.1 := fun _ h => nomatch h
set_option maxHeartbeats 4000000 in
theorem con_readE (w : World) (news : List (Addr × Obj)) (x : Str) (t1 : Tok) (hx : x.length ≤ 1000) (hp : Txt.slice x none (some 3) = Str.ofString "257") (hq : Txt.slice x (some 3) (some 5) ≠ Str.ofString " \"") : ConS false 0 w 3 280 [.str x t1] news (fun tl r => ∃ t, r = .str (Str.ofString "") t ∧ tl = []) := by
  w_top off
  k_with_none
  k_with "y_room" => first | ((try simp only [depth_under_make, depth_under_kw, depth_in1, depth_deeper, depth_caller]); (try dsimp only [yTop]); first | exact lim2 (by assumption) rfl | exact lim1 (by assumption) rfl | exact lim0 (by assumption)) | ((try simp only [depth_under_make, depth_under_kw, depth_in1, depth_deeper, depth_caller] at *); (try dsimp only [yTop] at *); omega)
  k_with "y_units" => first | ((try simp only [units_in1, units_deeper, Around.mark_units, units_caller]); (try dsimp only [yTop]); first | exact lim2 (by assumption) rfl | exact lim1 (by assumption) rfl) | (have hcL9 := cLine_is; ((try simp only [units_in1, units_deeper, Around.mark_units, units_caller] at *); (try dsimp only [yTop] at *); omega))
  k_with "y_k5" => ((case k1 => k_asm); (case k2 => k_asm); (case k3 => k_asm); (case k4 => k_asm); (case k5 => k_asm))
  k_with "y_args" => (k_extra "y_k5"; (case kK => first | exact rfl | assumption); (case kH => first | exact Or.inl rfl | exact Or.inr rfl | assumption); (case kT => first | exact Nat.zero_le _ | (dsimp only at *; omega)); (case kd => ktr_room); (case ku => ktr_units))
  k_with "y_eC" => ((case kA => exact rfl); (case kF => exact rfl); (case kK => assumption); k_extra "y_k5"; (case k6 => k_is); (case k7 => k_is); (case k8 => ktr_room); (case k9 => exact BindsTo.of_eq rfl); (case c2 => exact rfl); (case c3 => exact rfl); (case c4 => exact rfl))
  k_with "y_eS" => ((case XB => assumption); (case TB => assumption); (case DD => assumption); k_extra "y_eC"; (case c5 => decide); (case kB => exact locs rfl); k_whole; intro g' L' h' FG' F' N' B' X' T' D'; (try dsimp only); (try k_lift B'); (try k_fold))
  k_with "y_ord" => first | exact ord1 (by assumption) | exact ord1 (allLt_all (by assumption : _ ∧ AllLt _ _).2) | exact ord1 (allLt_all (by assumption : _ ∧ _ ∧ AllLt _ _).2.2) | exact ord1 (allLt_all (by assumption : _ ∧ _ ∧ _ ∧ AllLt _ _).2.2.2) | exact ord1 (allLt_all (by assumption : _ ∧ _ ∧ _ ∧ _ ∧ AllLt _ _).2.2.2.2) | exact ord1 (allLt_all (by assumption : _ ∧ _ ∧ _ ∧ _ ∧ _ ∧ AllLt _ _).2.2.2.2.2)
  k_with "call ref" => (k_here; k_dflt (refine' conV_use (con_parseE _ _ _ _ (by assumption) (by assumption) (by assumption)) ?k1 ?k2 ?k3 ?k4 ?k5 ?kK ?kH ?kT ?kd ?ku ?_; k_extra "y_args"; intro t9 h9 tk9 T9 F9 N9; (try dsimp only); (try k_fold)))
  unfold ConS
  intros
  rename_i hret
  rename_i hH hTk _ _
  obtain rfl := hH.resolve_left Bool.false_ne_true
  refine wpAny_call ?_
  k_dflt (refine' code_defX (binds := [(Str.ofString "reply", .str x t1)]) ?k1 ?k2 ?k3 ?k4 ?k5 ?XB ?TB ?DD ?kA ?kF ?kK ?k6 ?k7 ?k8 ?k9 ?kB ?_ ?c2 ?c3 ?c4 ?c5; k_extra "y_eS")
  k_steps
  all_goals (refine' hret _ [] _ _ _ ⟨_, rfl, rfl⟩ ?zo ?zt ?zf ?zn ?zb ?zx ?zp ?zd; (case zt => first | assumption | exact KtsTurn.refl); (case zb => first | k_asm | (exact KtsDicts.nil)); (case zx => k_asm); (case zp => k_asm); (case zd => first | assumption | k_asm); (case zo => first | k_extra "y_ord" | exact noneOrd3); (case zf => k_asm); (case zn => first | k_asm | (rw [List.nil_append]; k_asm)))
end
section
open LCg (NsObj ns_obj lst lst_snoc fr_but news_but)
section
variable {prog : Program} {w : World} {A : Around} {E : Value → Shared → Prop} {s : Shared} {L : Addr} {m : Str → Option Value}
/-- a comprehension whose element calls may mark the frames below: the ground is one of G -/
theorem Comp1.growG {env : Env} {elt : Expr} {x : Str} {scope : Scope} {cl : List (Str × Addr)} {Fin : Addr → Addr → Heap → List Value → List (Addr × Obj) → Shared → Prop} {xv : Value} {s₁ : Shared} {h₀ : Heap} {news : List (Addr × Obj)} {n : Nat} {P : Nat → Value → Prop} {S : List (Addr × Obj) → Prop}
    (G : Heap → Prop) (hG : G h₀) (R : Nat → List (Addr × Obj) → Value → Prop) (mono : ∀ i ex ex' v, (∀ p ∈ ex, p ∈ ex') → R i ex v → R i ex' v)
    (hh : A.handled = none) (F : Fr h₀ L s₁.heap m) (N : News h₀ L s₁.heap news) (c : Src s₁.heap news xv n P S) (hn : n ≤ sizeLine)
    (turn : ∀ I C D i v oI oC mC ys ex nw g h tk E', G g → I < D → D < C → i < n → P i v → ys.length = i → nw = ex ++ news → (∀ q ∈ news, q ∈ nw) → NsObj oC mC → mC x = some v → Fr g L h m → News g L h ((I, oI) :: (C, oC) :: (D, lst ys) :: nw) → Apart I C D nw → S nw → (∀ j u, ys[j]? = some u → R j ex u) →
      wpAny (model prog w) A (eval elt (compEnvC scope cl C env)) (CEnd L m { s₁ with heap := h, toks := tk } I oI C D ys mC S (fun g y nw' => G g ∧ ∃ ex', nw' = ex' ++ nw ∧ (∀ p ∈ ex', I < p.1) ∧ R i (ex' ++ ex) y)) E' { s₁ with heap := h, toks := tk })
    (fin : ∀ D ys ex nw g h tk, G g → ys.length = n → (∀ i v, ys[i]? = some v → R i ex v) → (∀ p ∈ ex, ∀ q ∈ news, q.1 < p.1) → (∀ q ∈ news, q.1 < D) → (∀ p ∈ ex, p.1 ≠ D) → nw = ex ++ news → (∀ q ∈ news, q ∈ nw) → Fin D L g ys nw { s₁ with heap := h, toks := tk }) :
    Comp1 prog w A L m env elt x scope cl Fin xv s₁ := by
  refine ⟨h₀, news, n, P, S, fun I g i ys nw => G g ∧ (∀ q ∈ news, q.1 < I) ∧ ∃ ex, nw = ex ++ news ∧ (∀ p ∈ ex, I < p.1) ∧ ∀ j u, ys[j]? = some u → R j ex u, hh, F, N, c, hn, ?_, ?_, ?_⟩
  · exact fun I hI => ⟨hG, hI, [], rfl, fun p hp => (nomatch hp), fun j u e => by simp at e⟩
  · rintro I C D g i v oI oC mC ys nw h tk E' hID hDC hi hP hl ⟨hg, hI, ex, hX, hE, hR⟩ oc hx F N ap hS
    refine wpAny_mono (turn I C D i v oI oC mC ys ex nw g h tk E' hg hID hDC hi hP hl hX (fun q hq => hX ▸ List.mem_append_right _ hq) oc hx F N ap hS hR) (fun y s₂ h₂ => ?_) fun _ _ e => e
    obtain ⟨h₀', h', tk', nw', oC', e, F', N', oc', ap', hS', hg', ex', hX', hE', hR'⟩ := h₂
    refine ⟨h₀', h', tk', nw', oC', e, F', N', oc', ap', hS', hg', hI, ex' ++ ex, by rw [hX', hX, List.append_assoc], fun p hp => ?_, fun j u hu => ?_⟩
    · rcases List.mem_append.mp hp with hp | hp
      · exact hE' p hp
      · exact hE p hp
    · by_cases hj : j < ys.length
      · rw [List.getElem?_append_left hj] at hu
        exact mono _ _ _ _ (fun p hp => List.mem_append_right _ hp) (hR j u hu)
      · rw [List.getElem?_append_right (Nat.le_of_not_lt hj)] at hu
        cases hz : j - ys.length with
        | zero =>
          rw [hz] at hu
          simp at hu
          subst hu
          have : j = i := by omega
          subst this
          exact hR'
        | succ k => rw [hz] at hu; simp at hu
  · rintro I D g ys nw h tk hID hl ⟨hg, hI, ex, rfl, hE, hR⟩ off
    exact fin D ys ex _ g h tk hg hl hR (fun p hp q hq => Nat.lt_trans (hI q hq) (hE p hp)) (fun q hq => Nat.lt_trans (hI q hq) hID) (fun p hp => off p (List.mem_append_left _ hp)) rfl fun q hq => List.mem_append_right _ hq
/-- the grounds that a def's frame may stand on, the frames below marked or not -/
noncomputable def Grounds (w : World) (mean : ExcName → Option Value) (mg mb : Str → Option Value) (fs : List Addr) (A₀ : Around) (base : Heap) (outer : List Env) (g₀ g : Heap) : Prop :=
  KtsTurn fs g₀ g ∧ Below A₀ base outer g ∧ (K w.params).In g ∧ Top qv loose mean mg mb g ∧ KtsDicts fs g
end
end
section
open LCg (NsObj ns_obj lst lst_snoc fr_but news_but)
section
variable {prog : Program} {w : World} {A : Around} {E : Value → Shared → Prop} {s : Shared} {L : Addr} {m : Str → Option Value}
/-- a second clause whose element makes no new thing -/
theorem Inner2.mapped {elt : Expr} {env : Env} {scope : Scope} {cl : List (Str × Addr)} {x y : Str} {I C D : Addr} {oI oC : Obj} {v : Value} {ys₀ : List Value} {mC : Str → Option Value} {S : List (Addr × Obj) → Prop} {Go : Heap → List Value → List (Addr × Obj) → Prop} {xv : Value} {h₀ h' : Heap} {tk' : Nat} {news : List (Addr × Obj)} {n : Nat} {P : Nat → Value → Prop} {S₂ : List (Addr × Obj) → Prop}
    (f : Nat → Value → Prop)
    (F : Fr h₀ L h' m) (N : News h₀ L h' ((I, oI) :: (C, oC) :: (D, lst ys₀) :: news)) (oc : NsObj oC mC) (ap : Apart I C D news) (hS : S news) (c : Src h' ((I, oI) :: news) xv n P S₂) (hlen : ys₀.length + n ≤ sizeLine)
    (turn : ∀ i v₂ I₂ o₂ oC mC ys h tk E', i < n → P i v₂ → NsObj oC mC → mC x = some v → mC y = some v₂ → Fr h₀ L h m → News h₀ L h ((I₂, o₂) :: (C, oC) :: (D, lst ys) :: (I, oI) :: news) → Apart I₂ C D ((I, oI) :: news) → S news → S₂ ((I, oI) :: news) →
      wpAny (model prog w) A (eval elt (compEnvC scope cl C env)) (fun z s₂ => f i z ∧ ∃ h₂ tk₂, s₂ = { s with heap := h₂, toks := tk₂ } ∧ Fr h₀ L h₂ m ∧ News h₀ L h₂ ((I₂, o₂) :: (C, oC) :: (D, lst ys) :: (I, oI) :: news)) E' { s with heap := h, toks := tk })
    (go : ∀ us, us.length = n → (∀ (i : Nat) v, us[i]? = some v → f i v) → Go h₀ (ys₀ ++ us) news) :
    Inner2 prog w A L m elt x y (compEnvC scope cl C env) I oI C D v ys₀ mC S s Go xv { s with heap := h', toks := tk' } := by
  refine ⟨h₀, h', tk', news, oC, n, P, S₂, fun g j ys nw => g = h₀ ∧ nw = news ∧ ∃ us, ys = ys₀ ++ us ∧ us.length = j ∧ ∀ (i : Nat) v, us[i]? = some v → f i v, rfl, F, N, oc, ap, hS, c, ⟨rfl, rfl, [], by simp, rfl, fun i v e => by simp at e⟩, ?_, ?_⟩
  · rintro _ i v₂ I₂ o₂ oC mC ys _ h tk E' hi hP ⟨rfl, rfl, us, rfl, hul, hus⟩ oc hx hy F N ap2 hS hS2
    refine ⟨by rw [List.length_append]; omega, ?_⟩
    refine wpAny_mono (turn i v₂ I₂ o₂ oC mC _ h tk E' hi hP oc hx hy F N ap2 hS hS2) (fun z s₂ h₂ => ?_) fun _ _ e => e
    obtain ⟨hf, h₃, tk₃, rfl, F₃, N₃⟩ := h₂
    refine cend_same F₃ N₃ oc ap2 ⟨_, rfl, hS, hS2, ap⟩ fun news' e => ⟨rfl, by cases e; rfl, us ++ [z], by rw [List.append_assoc], by simp [hul], fun j u hu => ?_⟩
    by_cases hj : j < us.length
    · rw [List.getElem?_append_left hj] at hu
      exact hus j u hu
    · rw [List.getElem?_append_right (Nat.le_of_not_lt hj)] at hu
      cases hz : j - us.length with
      | zero =>
        rw [hz] at hu
        simp at hu
        subst hu
        have : j = i := by omega
        subst this
        exact hf
      | succ k => rw [hz] at hu; simp at hu
  · rintro _ ys _ ⟨rfl, rfl, us, rfl, hul, hus⟩
    exact go us hul hus
/-- values that are the strs of a list -/
noncomputable def StrsAre (vs : List Value) (ss : List Str) : Prop := All2 (fun v s => ∃ t, v = .str s t) vs ss
end
end
section
section
variable {prog : Program} {w : World} {A₀ A : Around} {s : Shared} {base h₀ : Heap} {env : Env} {outer : List Env} {L : Addr} {m : Str → Option Value} {news : List (Addr × Obj)} {KF : Frag} {p : Program} {lo : List Str} {mean : ExcName → Option Value} {mg mb : Str → Option Value}
    {R : Result → Shared → Prop} {name qual : Str} {params : Arguments} {body : List Stmt} {scope : Scope} {dV kV doc pm cdv ct oc : Value} {an od : Option Addr} {osl : Array (Option Value)} {f : Addr} {args : Args} {binds : List (Str × Value)}
/-- what a def that may mark the frames below hands back -/
theorem leave_X (B : Below A₀ base outer h₀) (F : Fr h₀ L s.heap m) (N : News h₀ L s.heap news) (XB : KF.In base) (TB : Top p lo mean mg mb base) (D : KtsDicts (outer.filterMap (·.frame)) h₀)
    (hA : A.frames = some (env :: outer)) (hf : env.frame = some L) (hke : env.scope.kind = .function) {v : Value} {s' : Shared}
    (hl : LeaveS ((env :: outer).filterMap (·.frame)) A₀ base outer KF p lo mean mg mb h₀ h₀ L m (hideAll s.heap (news.map (·.1))) R v s') : R (.ok (.ret v)) s' := by
  obtain ⟨FG, BG, st, _⟩ := groundX (R := R) B F N hA hf hke
  obtain ⟨oL, es, ep, hLg, hLd, hLk, hLf⟩ := FG.ns
  have nL₀ : h₀.get? L = none := kts_self F
  rcases hl with ⟨L', m', news', F', N', k⟩ | ⟨g', L', m', news', T', F', N', k⟩
  · refine k ⟨⟨oL, es, ep, F'.keep _ _ hLg, hLd, hLk, hLf⟩, fun b o e => F'.keep b o (st b o e), F.above⟩ fun q hq => ⟨(N' q hq).1, fun z => ?_, ?_⟩
    · have := (N' q hq).2.2; rw [z, hLg] at this; cases this
    · cases z : h₀.get? q.1 with
      | none => rfl
      | some o => have := (N' q hq).2.2; rw [st _ _ z] at this; cases this
  obtain ⟨sl, hs⟩ := T'.up hLg
  obtain ⟨T₁, S₁⟩ := kts_turn_at (h := s'.heap) (fs := outer.filterMap (·.frame)) (g := h₀)
    (fun b hb => by
      obtain ⟨_, o, ho', _⟩ := B.frames.mem hb
      exact ⟨o, ho'⟩)
    (fun b o e nmem => F'.keep b o (T'.other b o (st b o e) (fun z => by
      rcases frames_of hf z with z | z
      · rw [z, nL₀] at e
        cases e
      · exact nmem z)))
    (fun b o e hm => by
      obtain ⟨sl', hs'⟩ := T'.up (st b o e)
      exact ⟨sl', F'.keep _ _ hs'⟩)
  have B₃ : Below A₀ base outer (ktsHeap s'.heap (outer.filterMap (·.frame)) h₀) := ⟨B.stack, fun b o e => T₁.other b o (B.stays b o e) (fun hm => by
    rw [(B.frames.mem hm).1] at e
    cases e), B.frames.of_keeps fun b o e _ => by
    obtain ⟨sl', hs'⟩ := T₁.up e
    exact ⟨_, hs', rfl⟩⟩
  refine k _ T₁ ⟨⟨_, es, ep, F'.keep _ _ hs, hLd, hLk, hLf⟩, S₁, by rw [T₁.size]; exact F.above⟩ (fun q hq => ⟨(N' q hq).1, fun z => ?_, ?_⟩) B₃ (XB.keeps B₃.stays) (TB.keeps B₃.stays) (D.turn T₁)
  · have := (N' q hq).2.2; rw [z, hs] at this; cases this
  · refine T₁.none_ _ ?_
    cases z : h₀.get? q.1 with
    | none => rfl
    | some o =>
      obtain ⟨sl', hs'⟩ := T'.up (st _ _ z)
      have := (N' q hq).2.2
      rw [hs'] at this
      cases this

/-- the same as code_defX for a def with cells -/
theorem code_defXC (B : Below A₀ base outer h₀) (F : Fr h₀ L s.heap m) (X₀ : KF.In h₀) (N : News h₀ L s.heap news) (T : Top p lo mean mg mb h₀) (XB : KF.In base) (TB : Top p lo mean mg mb base) (D : KtsDicts (outer.filterMap (·.frame)) h₀)
    (hA : A.frames = some (env :: outer)) (hf : env.frame = some L) (hke : env.scope.kind = .function)
    (ho : KF.lookup f = some ⟨oc, od, .func (fnOf name qual params body scope dV kV doc pm an cdv ct), osl⟩) (hcd : codeIn KF cdv qual = true) (hroom : A.depth < recursionLimit)
    (hbind : BindsTo s (fnOf name qual params body scope dV kV doc pm an cdv ct) args binds)
    (hkind : (binds.all fun y => scope.names.lookup y.1 == some .local || scope.names.lookup y.1 == some .cell) = true)
    (hnd : ((cellsFrom 0 scope.names []).map (·.1)).Nodup)
    (h : ∀ g L' h₁ tk cells, Fr h₀ L g m → Fr g L' h₁ (bindL (envOfC qual scope L' f cdv).kindOf binds fun _ => none) → News g L' h₁ (cells ++ news) →
      CellsAre (bindC (envOfC qual scope L' f cdv).kindOf binds fun _ => none) (cellsFrom (L' + 1) scope.names []) cells → Below A base (env :: outer) g → KF.In g → Top p lo mean mg mb g → KtsDicts ((env :: outer).filterMap (·.frame)) g → (∀ p ∈ news, p.1 < L') →
      wpAny (model prog w) (A.deeper (envOfC qual scope L' f cdv)) (execs body (envOfC qual scope L' f cdv))
        (fun fl s' => LeaveS ((env :: outer).filterMap (·.frame)) A₀ base outer KF p lo mean mg mb h₀ h₀ L m g R (match fl with | .ret v => v | _ => .none) s')
        (fun e s' => wpAny (model prog w) (A.deeper (envOfC qual scope L' f cdv)) (leaving (envOfC qual scope L' f cdv) e) (fun _ s'' => R (.error e) s'') (fun e' s'' => R (.error e') s'') s')
        { s with heap := h₁, toks := tk })
    (hco : scope.isCoroutine = false := by rfl) (hgen : scope.isGenerator = false := by rfl) (hk : scope.kind = .function := by rfl) : codeAny (model prog w) A (.call (.ref f) args) R s := by
  obtain ⟨FG, BG, st, _⟩ := groundX (R := R) B F N hA hf hke
  have X := X₀.keeps F.keep
  obtain ⟨oL, es, ep, hLg, hLd, hLk, hLf⟩ := FG.ns
  refine codeAny_call_function hroom (X _ _ ho) rfl hco hgen rfl (codeRec_of X hcd) (hbind _ _ _ _ ?_)
  refine wpAny_newFunctionEnv_cells hk (kindsX hkind _) fun env' he s' x => ?_
  subst he
  refine ⟨(T.nolimit.keeps F.keep).keeps x.toInCall.keep, codeAny_func ?_⟩
  obtain ⟨h₁, tk, rfl, _⟩ := x.done
  have hk₁ := x.toInCall.keep
  obtain ⟨cells, NC, Y⟩ := Cl.news (h₀ := s.heap) (Nat.le_refl _) fun n c hm => ⟨x.cell n c (lookup_of_mem_nodup (cellsFrom_names scope.names 0 (s.heap.objs.size + 1) [] [] rfl ▸ hnd) hm), x.above n c hm⟩
  refine wpAny_mono (h _ s.heap.objs.size h₁ tk cells FG ⟨x.toInCall.ns, fun b o e => hk₁ b o (of_hideAll _ e), Nat.le_of_eq (hideAll_size _ _)⟩ (fun q hq => ?_) Y BG (X₀.keeps st) (T.keeps st) (fun b hb => ?_) (fun q hq => Heap.lt_size (N q hq).1)) (fun fl s' hl => leave_X B F N XB TB D hA hf hke hl) fun _ _ y => y
  · rcases List.mem_append.mp hq with hq | hq
    · refine ⟨(NC q hq).1, (NC q hq).2.1, ?_⟩
      cases z : (hideAll s.heap (news.map (·.1))).get? q.1 with
      | none => rfl
      | some o => have := of_hideAll _ z; rw [(NC q hq).2.2] at this; cases this
    · exact ⟨hk₁ _ _ (N q hq).1, Nat.ne_of_lt (Heap.lt_size (N q hq).1), hideAll_none _ (List.mem_map_of_mem hq)⟩
  · rcases frames_of hf hb with rfl | hb
    · exact ⟨oL, es, ep, hLg, hLd⟩
    · obtain ⟨o, es', n', ho', hd'⟩ := D b hb
      exact ⟨o, es', n', st b o ho', hd'⟩
end
end
section
open LCg (NsObj ns_obj lst lst_snoc fr_but news_but)
/-- what a reply is read as: none: refused -/
noncomputable def ReadOk (x : Str) : Option Str → Prop
  | none => Txt.slice x none (some 3) ≠ Str.ofString "257"
  | some y => Txt.slice x none (some 3) = Str.ofString "257" ∧ ((Txt.slice x (some 3) (some 5) ≠ Str.ofString " \"" ∧ y = Str.ofString "") ∨ (Txt.slice x (some 3) (some 5) = Str.ofString " \"" ∧ y = ⟨(pScan (x.cps.toList.drop 5)).toArray⟩))
noncomputable def datR (x : Str) : Option Str → Dat
  | none => .list [.str x]
  | some y => .str y
theorem con_read (w : World) (news : List (Addr × Obj)) (x : Str) (t1 : Tok) (o : Option Str) (hx : x.length ≤ 1000) (ho : ReadOk x o) : ConS false 0 w 3 280 [.str x t1] news (fun tl r => DatIn tl r (datR x o)) := by
  cases o with
  | none =>
    have C := con_readR w news x t1 hx ho
    unfold ConS at C ⊢
    intro mean mg mb hd dp un gd cn cs a ccd cl outer A₀ base h₀ L m s Q E b1 b2 b3 b4 b5 b6 b7 b8 b9 b10 b11 b12 b13 ret
    refine C mean mg mb hd dp un gd cn cs a ccd cl outer A₀ base h₀ L m s Q E b1 b2 b3 b4 b5 b6 b7 b8 b9 b10 b11 b12 b13 fun r tl h' h₀' tk' P => ?_
    obtain ⟨a, tk, rfl, rfl⟩ := P
    exact ret _ _ _ _ _ (.list (vs := [.str x tk]) (List.mem_cons_self ..) (.cons (.str _ _) .nil))
  | some y =>
    obtain ⟨h1, h2 | h2⟩ := ho
    · obtain ⟨h2, rfl⟩ := h2
      have C := con_readE w news x t1 hx h1 h2
      unfold ConS at C ⊢
      intro mean mg mb hd dp un gd cn cs a ccd cl outer A₀ base h₀ L m s Q E b1 b2 b3 b4 b5 b6 b7 b8 b9 b10 b11 b12 b13 ret
      refine C mean mg mb hd dp un gd cn cs a ccd cl outer A₀ base h₀ L m s Q E b1 b2 b3 b4 b5 b6 b7 b8 b9 b10 b11 b12 b13 fun r tl h' h₀' tk' P => ?_
      obtain ⟨t, rfl, rfl⟩ := P
      exact ret _ _ _ _ _ (.str _ _)
    · obtain ⟨h2, rfl⟩ := h2
      have C := con_readO w news x t1 hx h1 h2
      unfold ConS at C ⊢
      intro mean mg mb hd dp un gd cn cs a ccd cl outer A₀ base h₀ L m s Q E b1 b2 b3 b4 b5 b6 b7 b8 b9 b10 b11 b12 b13 ret
      refine C mean mg mb hd dp un gd cn cs a ccd cl outer A₀ base h₀ L m s Q E b1 b2 b3 b4 b5 b6 b7 b8 b9 b10 b11 b12 b13 fun r tl h' h₀' tk' P => ?_
      obtain ⟨t, rfl, rfl⟩ := P
      exact ret _ _ _ _ _ (.str _ _)
section
variable {prog : Program} {w : World} {A : Around} {E : Value → Shared → Prop} {s : Shared} {L : Addr} {m : Str → Option Value}
/-- a turn's own expression was a call that made things -/
theorem cend_calls {h₀ : Heap} {I C D : Addr} {oI oC : Obj} {ys : List Value} {mC : Str → Option Value} {S : List (Addr × Obj) → Prop} {Kp : Heap → Value → List (Addr × Obj) → Prop} {y : Value} {h : Heap} {tk : Nat} {tl news : List (Addr × Obj)}
    (F : Fr h₀ L h m) (N : News h₀ L h (tl ++ (I, oI) :: (C, oC) :: (D, lst ys) :: news)) (lt : ∀ p ∈ tl, ∀ q ∈ (I, oI) :: (C, oC) :: (D, lst ys) :: news, q.1 < p.1) (oc : NsObj oC mC) (ap : Apart I C D news) (hS : S (tl ++ news)) (k : Kp h₀ y (tl ++ news)) : CEnd L m s I oI C D ys mC S Kp y { s with heap := h, toks := tk } := by
  refine ⟨h₀, h, tk, tl ++ news, oC, rfl, F, fun p hp => N p ?_, oc, ⟨ap.1, ap.2.1, ap.2.2.1, fun p hp => ?_⟩, hS, k⟩
  · simp only [List.mem_cons, List.mem_append] at hp ⊢
    rcases hp with h | h | h | h | h
    · exact .inr (.inl h)
    · exact .inr (.inr (.inl h))
    · exact .inr (.inr (.inr (.inl h)))
    · exact .inl h
    · exact .inr (.inr (.inr (.inr h)))
  · rcases List.mem_append.mp hp with hp | hp
    · exact ⟨neGt (lt p hp _ (List.mem_cons_self ..)), neGt (lt p hp _ (List.mem_cons_of_mem _ (List.mem_cons_self ..))), neGt (lt p hp _ (List.mem_cons_of_mem _ (List.mem_cons_of_mem _ (List.mem_cons_self ..))))⟩
    · exact ap.2.2.2 p hp
end
theorem datAll_of {nw : List (Addr × Obj)} : ∀ {vs : List Value} {ds : List Dat}, vs.length = ds.length → (∀ (i : Nat) v, vs[i]? = some v → ∃ d, ds[i]? = some d ∧ DatIn nw v d) → DatAll nw vs ds
  | [], [], _, _ => .nil
  | [], _ :: _, h, _ => by simp at h
  | _ :: _, [], h, _ => by simp at h
  | v :: vs, d :: ds, h, k => by
    obtain ⟨d', e, q⟩ := k 0 v rfl
    cases e
    exact .cons q (datAll_of (by simpa using h) fun i v e => k (i + 1) v e)
end
section
theorem lst_eqA (ys : List Value) : LCg.lst ys = W.listOf ys.toArray ys.length := rfl
theorem cons_of {n : Nat} : ∀ {ys : List Value}, ys.length = n + 1 → ∃ a r, ys = a :: r ∧ r.length = n
  | a :: r, h => ⟨a, r, rfl, Nat.succ.inj h⟩
theorem nil_of : ∀ {ys : List Value}, ys.length = 0 → ys = []
  | [], _ => rfl
theorem four_of {R : Nat → Value → Prop} {ys : List Value} (hl : ys.length = 4) (h : ∀ i v, ys[i]? = some v → R i v) : ∃ a b c d, ys = [a, b, c, d] ∧ R 0 a ∧ R 1 b ∧ R 2 c ∧ R 3 d := by
  obtain ⟨a, r1, rfl, h1⟩ := cons_of hl
  obtain ⟨b, r2, rfl, h2⟩ := cons_of h1
  obtain ⟨c, r3, rfl, h3⟩ := cons_of h2
  obtain ⟨d, r4, rfl, h4⟩ := cons_of h3
  obtain rfl := nil_of h4
  exact ⟨a, b, c, d, rfl, h 0 a rfl, h 1 b rfl, h 2 c rfl, h 3 d rfl⟩
theorem four_at {a b c d v : Value} {i : Nat} {P : Nat → Value → Prop} (h : (#[a, b, c, d] : Array Value)[i]? = some v) (ha : P 0 a) (hb : P 1 b) (hc : P 2 c) (hd : P 3 d) : P i v := by
  rcases i with _ | _ | _ | _ | i
  · cases h; exact ha
  · cases h; exact hb
  · cases h; exact hc
  · cases h; exact hd
  · simp at h
/-- the i-th of four -/
noncomputable def nth4 {α : Type} (a b c d : α) : Nat → α
  | 0 => a
  | 1 => b
  | 2 => c
  | _ => d
theorem told_news {h₀ h : Heap} {L : Addr} {x r0 r1 r2 r3 : Addr × Obj} {ex news nw : List (Addr × Obj)} (N : News h₀ L h (x :: nw)) (hX : nw = ex ++ news) (m0 : r0 ∈ ex) (m1 : r1 ∈ ex) (m2 : r2 ∈ ex) (m3 : r3 ∈ ex) : News h₀ L h (x :: r0 :: r1 :: r2 :: r3 :: news) := fun p hp => N p (by
  subst hX
  simp only [List.mem_cons, List.mem_append] at hp ⊢
  rcases hp with h | h | h | h | h | h
  · exact .inl h
  · exact .inr (.inl (h ▸ m0))
  · exact .inr (.inl (h ▸ m1))
  · exact .inr (.inl (h ▸ m2))
  · exact .inr (.inl (h ▸ m3))
  · exact .inr (.inr h))
noncomputable def TellR (k0 k1 k2 k3 : Nat) (i : Nat) (ex : List (Addr × Obj)) (v : Value) : Prop := ∃ a, v = .ref a ∧ (a, rowO (nth4 k0 k1 k2 k3 i)) ∈ ex
set_option maxHeartbeats 4000000 in
theorem stage_a (SB : LawR 4) : LawWalk := by
  w_top off
  k_with_none
  k_with "y_room" => first | ((try simp only [depth_under_make, depth_under_kw, depth_in1, depth_deeper, depth_caller]); (try dsimp only [yTop]); first | exact lim2 (by assumption) rfl | exact lim1 (by assumption) rfl | exact lim0 (by assumption)) | ((try simp only [depth_under_make, depth_under_kw, depth_in1, depth_deeper, depth_caller] at *); (try dsimp only [yTop] at *); omega)
  k_with "y_units" => first | ((try simp only [units_in1, units_deeper, Around.mark_units, units_caller]); (try dsimp only [yTop]); first | exact lim2 (by assumption) rfl | exact lim1 (by assumption) rfl) | (have hcL9 := cLine_is; ((try simp only [units_in1, units_deeper, Around.mark_units, units_caller] at *); (try dsimp only [yTop] at *); omega))
  k_with "y_k5" => ((case k1 => k_asm); (case k2 => k_asm); (case k3 => k_asm); (case k4 => k_asm); (case k5 => k_asm))
  k_with "y_args" => (k_extra "y_k5"; (case kK => first | exact rfl | assumption); (case kH => first | exact Or.inl rfl | exact Or.inr rfl | assumption); (case kT => first | exact Nat.zero_le _ | (dsimp only at *; omega)); (case kd => ktr_room); (case ku => ktr_units))
  k_with "eval ListComp" => (k_here; refine stop_ ?_)
  k_with "exec Assign cons ListComp" => (k_here; (fail_if_success (with_reducible show wpAny _ _ (exec (PySem.Stmt.Assign [PySem.Expr.Name (PySem.Str.ofString "units") _] _ _) _) _ _ _)); (fail_if_success (with_reducible show wpAny _ _ (exec (PySem.Stmt.Assign [PySem.Expr.Name (PySem.Str.ofString "told") _] _ _) _) _ _ _)); refine stop_ ?_)
  k_with "execs cons" => (k_here; (with_reducible show wpAny _ _ (execs (PySem.Stmt.If _ _ _ _ :: _) _) _ _ _); refine stop_ ?_)
  k_with "call ref" => (k_here; (try k_fold); k_dflt (refine' conG_use (con_cellsG _ _ _ _ _ _ (by assumption) rfl (by assumption) (by assumption)) ?kGv3 ?k1v3 ?k2v3 ?k3v3 ?k4v3 ?k5v3 ?kKv3 ?kdv3 ?kuv3 ?_; (case kGv3 => assumption); (case k1v3 => k_asm); (case k2v3 => k_asm); (case k3v3 => k_asm); (case k4v3 => k_asm); (case k5v3 => k_asm); (case kKv3 => exact rfl); (case kdv3 => ktr_room); (case kuv3 => ktr_units); intro r9 tl9 h9 tk9 T9 P9 lca F9 N9; obtain ⟨ca, c0, c1, c2, c3, a0, a1, a2, a3, n1, e8, e9⟩ := P9; subst e8; subst e9; (replace lca := lca _ (List.mem_cons_self ..)); (try k_lt lca); (try simp only [List.cons_append, List.nil_append] at N9); (try dsimp only); (try k_fold)))
  k_with "call ref" => (k_here; k_dflt (refine' con_use (con_sign _ _ _ _) ?k1 ?k2 ?k3 ?k4 ?k5 ?kK ?kH ?kT ?kd ?ku ?_; k_extra "y_args"; intro r9 tl9 h9 tk9 T9 P9 l9 F9 N9; (try dsimp only); refine stop_ ?_))
  k_with "call ref" => (k_here; k_dflt (refine' con_use (con_answers _ _ _ _ (by assumption)) ?k1 ?k2 ?k3 ?k4 ?k5 ?kK ?kH ?kT ?kd ?ku ?_; k_extra "y_args"; intro r9 tl9 h9 tk9 T9 P9 l9 F9 N9; (try dsimp only); refine stop_ ?_))
  unfold LawWalk
  intro w mean mg mb dp un gd L fa cdv A₀ h₀ sa vs ns o1 o2 o3 o4 s Q E B F X N d4 d3 d2 d1 Tp hL hI hl hdp hun hret
  have hsz : vs.toArray.size = ns.length := by rw [List.size_toArray]; exact hI.length
  k_steps
  unfold Stop
  rename_i _ o1' F1 N1 d1'
  rename Fr _ _ _ _ => lF'
  refine' listcomp1A lF' ?c1 ?c2 ?c3 ?c4 ?c5 ?c6 ?c7 ?c8 ?c9 ?_ ?c10
  case c1 => exact rfl
  case c2 => with_unfolding_all rfl
  case c3 => with_unfolding_all rfl
  case c4 => decide
  case c5 => exact rfl
  case c6 => decide
  case c7 => exact rfl
  case c8 => exact rfl
  case c9 => exact rfl
  case c10 => intro z; rfl
  k_steps
  rename News _ _ _ _ => lN'
  rename Fr _ _ _ _ => lF8
  k_dflt (refine' Comp1.grow (fun i ex v => ∃ k t, v = .str ⟨#[k]⟩ t ∧ SignOk ((nth4 c0 c1 c2 c3 i).fmod 8).toNat k) ?zm ?zh lF8 lN' ?zl ?zn ?tu ?dn)
  case zm => exact fun i ex ex' v hs h => h
  case zh => exact rfl
  case zl => exact .list (List.mem_cons_self ..)
  case zn => exact (by decide : 4 ≤ sizeLine)
  case tu =>
    rintro I C D i v oI oC mC ys ex nw h tk E' hID hDC hi hP hl9 hX hsub oc hx F N ap hS hR2
    obtain ⟨t, rfl⟩ : ∃ t, v = .int (nth4 c0 c1 c2 c3 i) t := four_at (P := fun i v => ∃ t, v = .int (nth4 c0 c1 c2 c3 i) t) hP ⟨_, rfl⟩ ⟨_, rfl⟩ ⟨_, rfl⟩ ⟨_, rfl⟩
    clear lF8 lN' hsub SB hret
    dsimp only at *
    k_steps
    obtain ⟨hk, rfl⟩ := P9
    obtain ⟨k, t9, rfl, hk⟩ := hk
    unfold Stop
    exact cend_same F9 (by simpa using N9) oc ap hS ⟨rfl, [], rfl, (fun p hp => nomatch hp), k, t9, rfl, hk⟩
  case dn =>
    intro ta ys ex nw h tk hl9 hR hlt hta off hX hsub F N
    obtain ⟨x0, x1, x2, x3, rfl, ⟨k0, b0, rfl, g0⟩, ⟨k1, b1, rfl, g1⟩, ⟨k2, b2, rfl, g2⟩, ⟨k3, b3, rfl, g3⟩⟩ := four_of (R := fun i v => ∃ k t, v = .str ⟨#[k]⟩ t ∧ SignOk ((nth4 c0 c1 c2 c3 i).fmod 8).toNat k) hl9 hR
    have N2 : News _ _ _ ((ta, W.listOf #[.str ⟨#[k0]⟩ b0, .str ⟨#[k1]⟩ b1, .str ⟨#[k2]⟩ b2, .str ⟨#[k3]⟩ b3] 4) :: _) := fun p hp => N p (by
      rcases List.mem_cons.mp hp with rfl | hp
      · exact List.mem_cons_self ..
      · exact List.mem_cons_of_mem _ (hsub _ hp))
    clear lF8 lN' N hsub hR hlt off hX
    replace hta := allLt_of hta
    simp only [AllLt, and_true] at hta
    dsimp only at *
    k_steps
    unfold Stop
    rename Fr _ _ _ _ => lF'
    refine' listcomp1 lF' ?c1 ?c2 ?c3 ?c4 ?c5 ?_ ?c6
    case c1 => with_unfolding_all rfl
    case c2 => decide
    case c3 => exact rfl
    case c4 => decide
    case c5 => exact rfl
    case c6 => intro z; rfl
    k_steps
    rename News _ _ _ _ => lN'
    rename Fr _ _ _ _ => lF8
    k_dflt (refine' Comp1.grow (fun i ex v => ∃ t, v = .int ((nth4 c0 c1 c2 c3 i).fmod 8) t) ?zm ?zh lF8 lN' ?zl ?zn ?tu ?dn)
    case zm => exact fun i ex ex' v hs h => h
    case zh => exact rfl
    case zl => exact .list (List.mem_cons_of_mem _ (List.mem_cons_self ..))
    case zn => exact (by decide : 4 ≤ sizeLine)
    case tu =>
      rintro I C D i v oI oC mC ys ex nw h tk E' hID hDC hi hP hl9 hX hsub oc hx F N ap hS hR2
      obtain ⟨t, rfl⟩ : ∃ t, v = .int (nth4 c0 c1 c2 c3 i) t := four_at (P := fun i v => ∃ t, v = .int (nth4 c0 c1 c2 c3 i) t) hP ⟨_, rfl⟩ ⟨_, rfl⟩ ⟨_, rfl⟩ ⟨_, rfl⟩
      clear lF8 lN' hsub SB hret
      dsimp only at *
      k_steps
      exact cend_same (by assumption) (by assumption) oc ap hS ⟨rfl, [], rfl, (fun p hp => nomatch hp), _, rfl⟩
    case dn =>
      intro ua ys ex nw h tk hl9 hR hlt hua off hX hsub F N
      obtain ⟨x0, x1, x2, x3, rfl, ⟨e0, rfl⟩, ⟨e1, rfl⟩, ⟨e2, rfl⟩, ⟨e3, rfl⟩⟩ := four_of (R := fun i v => ∃ t, v = .int ((nth4 c0 c1 c2 c3 i).fmod 8) t) hl9 hR
      have N2 : News _ _ _ ((ua, W.listOf #[.int (c0.fmod 8) e0, .int (c1.fmod 8) e1, .int (c2.fmod 8) e2, .int (c3.fmod 8) e3] 4) :: _) := fun p hp => N p (by
        rcases List.mem_cons.mp hp with rfl | hp
        · exact List.mem_cons_self ..
        · exact List.mem_cons_of_mem _ (hsub _ hp))
      clear lF8 lN' N hsub hR hlt off hX
      replace hua := allLt_of hua
      simp only [AllLt, and_true] at hua
      dsimp only at *
      k_steps
      rename_i o2' F1 N1 d2'
      unfold Stop
      rename Fr _ _ _ _ => lF'
      refine' listcomp1 lF' ?c1 ?c2 ?c3 ?c4 ?c5 ?_ ?c6
      case c1 => with_unfolding_all rfl
      case c2 => decide
      case c3 => exact rfl
      case c4 => decide
      case c5 => exact rfl
      case c6 => intro z; rfl
      k_steps
      rename News _ _ _ _ => lN'
      rename Fr _ _ _ _ => lF8
      k_dflt (refine' Comp1.grow (TellR k0 k1 k2 k3) ?zm ?zh lF8 lN' ?zl ?zn ?tu ?dn)
      case zm =>
        rintro i ex ex' v hs ⟨a, e, hm⟩
        exact ⟨a, e, hs _ hm⟩
      case zh => exact rfl
      case zl => exact .list (List.mem_cons_of_mem _ (List.mem_cons_self ..))
      case zn => exact (by decide : 4 ≤ sizeLine)
      case tu =>
        rintro I C D i v oI oC mC ys ex nw h tk E' hID hDC hi hP hl9 hX hsub oc hx F N ap hS hR2
        obtain ⟨t, rfl⟩ : ∃ t, v = .str ⟨#[nth4 k0 k1 k2 k3 i]⟩ t := four_at (P := fun i v => ∃ t, v = .str ⟨#[nth4 k0 k1 k2 k3 i]⟩ t) hP ⟨_, rfl⟩ ⟨_, rfl⟩ ⟨_, rfl⟩ ⟨_, rfl⟩
        have hcode : nth4 k0 k1 k2 k3 i < 1114112 := by
          rcases i with _ | _ | _ | i
          · exact g0.2.1
          · exact g1.2.1
          · exact g2.2.1
          · exact g3.2.1
        clear lF8 lN' hsub SB hret
        dsimp only at *
        k_steps
        obtain ⟨x9, rfl, rfl⟩ := P9
        unfold Stop
        exact cend_calls F9 N9 l9 oc ap (List.mem_append_right _ hS) ⟨rfl, _, rfl, (fun p hp => l9 p hp _ (List.mem_cons_self ..)), x9, rfl, List.mem_cons_self ..⟩
      case dn =>
        intro da ys ex nw h tk hl9 hR hlt hda off hX hsub F N
        obtain ⟨x0, x1, x2, x3, rfl, ⟨r0, rfl, m0⟩, ⟨r1, rfl, m1⟩, ⟨r2, rfl, m2⟩, ⟨r3, rfl, m3⟩⟩ := four_of (R := TellR k0 k1 k2 k3 |> fun R i v => R i ex v) hl9 hR
        have q0 := allLt_of (fun q hq => hlt _ m0 q hq)
        have q1 := allLt_of (fun q hq => hlt _ m1 q hq)
        have q2 := allLt_of (fun q hq => hlt _ m2 q hq)
        have q3 := allLt_of (fun q hq => hlt _ m3 q hq)
        simp only [AllLt, and_true] at q0 q1 q2 q3
        have N2 := told_news N hX m0 m1 m2 m3
        rw [lst_eqA] at N2
        clear lF8 lN' N hsub hR hlt off hX m0 m1 m2 m3
        replace hda := allLt_of hda
        simp only [AllLt, and_true] at hda
        dsimp only at *
        k_steps
        unfold Stop
        rename_i o3' F1 N1 d3'
        exact SB w mean mg mb dp un gd L fa cdv A₀ h₀ sa c0 c1 c2 c3 k0 k1 k2 k3 ca ta ua da r0 r1 r2 r3 a0 a1 a2 a3 b0 b1 b2 b3 e0 e1 e2 e3 n1 4 4 4 o1' o2' o3' o4 _ Q E B F1 X N1 d4 d3' d2' d1' g0 g1 g2 g3 ⟨by first | exact (by assumption : _ ∧ _ ∧ _ ∧ _ ∧ _).2.2.2.1 | exact (by assumption : _ ∧ _ ∧ _ ∧ _).2.2.1 | exact (by assumption : _ ∧ _ ∧ _).2.1 | exact (by assumption : _ ∧ _).1 | omega, trivial⟩ ⟨by first | exact (by assumption : _ ∧ _ ∧ _ ∧ _ ∧ _).2.2.2.1 | exact (by assumption : _ ∧ _ ∧ _ ∧ _).2.2.1 | exact (by assumption : _ ∧ _ ∧ _).2.1 | exact (by assumption : _ ∧ _).1 | omega, trivial⟩ ⟨by first | exact (by assumption : _ ∧ _ ∧ _ ∧ _ ∧ _).2.2.2.1 | exact (by assumption : _ ∧ _ ∧ _ ∧ _).2.2.1 | exact (by assumption : _ ∧ _ ∧ _).2.1 | exact (by assumption : _ ∧ _).1 | omega, trivial⟩ ⟨by first | exact (by assumption : _ ∧ _ ∧ _ ∧ _ ∧ _).2.2.2.1 | exact (by assumption : _ ∧ _ ∧ _ ∧ _).2.2.1 | exact (by assumption : _ ∧ _ ∧ _).2.1 | exact (by assumption : _ ∧ _).1 | omega, trivial⟩ ⟨by first | exact (by assumption : _ ∧ _ ∧ _ ∧ _ ∧ _).2.2.2.1 | exact (by assumption : _ ∧ _ ∧ _ ∧ _).2.2.1 | exact (by assumption : _ ∧ _ ∧ _).2.1 | exact (by assumption : _ ∧ _).1 | omega, trivial⟩ ⟨by first | exact (by assumption : _ ∧ _ ∧ _ ∧ _ ∧ _).2.2.2.1 | exact (by assumption : _ ∧ _ ∧ _ ∧ _).2.2.1 | exact (by assumption : _ ∧ _ ∧ _).2.1 | exact (by assumption : _ ∧ _).1 | omega, trivial⟩ ⟨by first | exact (by assumption : _ ∧ _ ∧ _ ∧ _ ∧ _).2.2.2.1 | exact (by assumption : _ ∧ _ ∧ _ ∧ _).2.2.1 | exact (by assumption : _ ∧ _ ∧ _).2.1 | exact (by assumption : _ ∧ _).1 | omega, trivial⟩ ⟨by first | exact (by assumption : _ ∧ _ ∧ _ ∧ _ ∧ _).2.2.2.1 | exact (by assumption : _ ∧ _ ∧ _ ∧ _).2.2.1 | exact (by assumption : _ ∧ _ ∧ _).2.1 | exact (by assumption : _ ∧ _).1 | omega, trivial⟩ Tp hdp hun hret
end
section
open LCg (NsObj ns_obj lst lst_snoc fr_but news_but)
section
variable {prog : Program} {w : World} {A : Around} {E : Value → Shared → Prop} {s : Shared} {L : Addr} {m : Str → Option Value}
noncomputable def cellO : Obj := { cls := .type "cell", data := .cell none }
/-- a comprehension's own names, one of them a cell -/
theorem newEnv_K {scope : Scope} {globals : Addr} {cl : List (Str × Addr)} {qual : Str} {outer : Env} {x : Str} {Q : Env → Shared → Prop}
    (hcf : ∀ n, cellsFrom n scope.names cl = (x, n) :: cl) (hpc : ∀ h, pushCells h scope.names = h.push cellO)
    (hQ : Q { scope := scope, locals := s.heap.objs.size, globals := globals, cells := (x, s.heap.objs.size + 1) :: cl, qual := qual, func := none, code := outer.code, frame := outer.frame, builtins := outer.builtins } { s with heap := (s.heap.push { cls := .type "dict", data := .dict #[] }).push cellO }) :
    wpAny (model prog w) A (newFunctionEnv scope globals cl [] qual none .none (some outer)) Q E s := by
  simp only [newFunctionEnv, Option.isSome_some, if_true]
  refine wpAny_bind (wpAny_alloc ?_)
  refine wpAny_bind (wpAny_layCells _ (fun name kind cells => by cases hkc : kind == NameKind.cell <;> simp [hkc]) _ _ _ _ ?_)
  rw [show ({ s with heap := s.heap.push { cls := .type "dict", data := .dict #[] } } : Shared).heap.objs.size = s.heap.objs.size + 1 from Heap.size_push ..]
  rw [hcf, hpc]
  rw [List.forIn_nil]
  exact wpAny_bind (wpAny_pure (wpAny_pure hQ))
theorem Src.mono {h : Heap} {news : List (Addr × Obj)} {xv : Value} {n : Nat} {P : Nat → Value → Prop} {S : List (Addr × Obj) → Prop} (c : Src h news xv n P S) : ∀ nw nw', (∀ q ∈ nw, q ∈ nw') → S nw → S nw' := by
  intro nw nw' hs hS
  cases c with
  | list hm => exact hs _ hS
  | range _ _ _ => exact trivial
theorem Src.at {h : Heap} {news : List (Addr × Obj)} {xv : Value} {n : Nat} {P : Nat → Value → Prop} {S : List (Addr × Obj) → Prop} (c : Src h news xv n P S) : S news := by
  cases c with
  | list hm => exact hm
  | range _ _ _ => exact trivial
noncomputable def CompK (prog : Program) (w : World) (A : Around) (L : Addr) (m : Str → Option Value) (env : Env) (elt : Expr) (x : Str) (scope : Scope) (cl : List (Str × Addr)) (Fin : Addr → Addr → Heap → List Value → List (Addr × Obj) → Shared → Prop) (xv : Value) (s₁ : Shared) : Prop :=
  ∃ h₀ news n P S, ∃ R : Nat → List (Addr × Obj) → Value → Prop, A.handled = none ∧ Fr h₀ L s₁.heap m ∧ News h₀ L s₁.heap news ∧ Src s₁.heap news xv n P S ∧ n ≤ sizeLine ∧ (∀ i ex ex' v, (∀ p ∈ ex, p ∈ ex') → R i ex v → R i ex' v) ∧
    (∀ I C D K i v oI oC oK mC ys ex nw h tk E', I < D → D < C → C < K → i < n → P i v → ys.length = i → nw = ex ++ news → (∀ q ∈ news, q ∈ nw) → oK.data = .cell (some v) → NsObj oC mC → Fr h₀ L h m → News h₀ L h ((I, oI) :: (C, oC) :: (D, lst ys) :: (K, oK) :: nw) → Apart I C D ((K, oK) :: nw) → (∀ p ∈ nw, p.1 ≠ K) → S nw → (∀ j u, ys[j]? = some u → R j ex u) →
      wpAny (model prog w) A (eval elt (compEnvC scope ((x, K) :: cl) C env)) (CEnd L m { s₁ with heap := h, toks := tk } I oI C D ys mC (fun _ => True) (fun g y nw' => g = h₀ ∧ ∃ ex', nw' = ex' ++ (K, oK) :: nw ∧ (∀ p ∈ ex', K < p.1) ∧ R i (ex' ++ ex) y)) E' { s₁ with heap := h, toks := tk }) ∧
    (∀ D ys ex nw h tk, ys.length = n → (∀ i v, ys[i]? = some v → R i ex v) → (∀ p ∈ ex, ∀ q ∈ news, q.1 < p.1) → (∀ q ∈ news, q.1 < D) → (∀ p ∈ ex, p.1 ≠ D) → nw = ex ++ news → (∀ q ∈ news, q ∈ nw) → Fin D L h₀ ys nw { s₁ with heap := h, toks := tk })
structure KInv (n : Nat) (St : Nat → Heap → Prop) (R : Nat → List (Addr × Obj) → Value → Prop) (h₀ : Heap) (L : Addr) (m : Str → Option Value) (I C D Kc : Addr) (news : List (Addr × Obj)) (k i : Nat) (h' : Heap) (oI oC oK : Obj) (mC : Str → Option Value) (ys : List Value) (ex : List (Addr × Obj)) : Prop where
  le : i ≤ n
  left : k = n + 1 - i
  st : St i h'
  F : Fr h₀ L h' m
  N : News h₀ L h' ((I, oI) :: (C, oC) :: (D, lst ys) :: (Kc, oK) :: (ex ++ news))
  cell : ∃ v, oK.data = .cell v
  len : ys.length = i
  new : ∀ p ∈ ex, @LT.lt Nat instLTNat Kc p.1
  rel : ∀ (j : Nat) u, ys[j]? = some u → R j ex u
  ns : NsObj oC mC
inductive KAt (s₁ : Shared) (P : Nat → Nat → Heap → Obj → Obj → Obj → (Str → Option Value) → List Value → List (Addr × Obj) → Prop) : Nat → Shared → Prop
  | mk {k i : Nat} {h' : Heap} {tk : Nat} {oI oC oK : Obj} {mC : Str → Option Value} {ys : List Value} {ex : List (Addr × Obj)} (q : P k i h' oI oC oK mC ys ex) : KAt s₁ P k { s₁ with heap := h', toks := tk }
theorem snoc_rel {R : Nat → List (Addr × Obj) → Value → Prop} {ex ex' : List (Addr × Obj)} {ys : List Value} {y : Value} (mono : ∀ i ex ex' v, (∀ p ∈ ex, p ∈ ex') → R i ex v → R i ex' v) (hR : ∀ (j : Nat) u, ys[j]? = some u → R j ex u) (h : R ys.length (ex' ++ ex) y) : ∀ (j : Nat) u, (ys ++ [y])[j]? = some u → R j (ex' ++ ex) u := fun j u hu => by
  by_cases hj : j < ys.length
  · rw [List.getElem?_append_left hj] at hu
    exact mono _ _ _ _ (fun p hp => List.mem_append_right _ hp) (hR j u hu)
  · rw [List.getElem?_append_right (Nat.le_of_not_lt hj)] at hu
    cases hz : j - ys.length with
    | zero =>
      rw [hz] at hu
      simp at hu
      subst hu
      have : j = ys.length := by omega
      subst this
      exact h
    | succ k => rw [hz] at hu; simp at hu
theorem k_led {h₀ h : Heap} {a b c d : Addr × Obj} {ex ex' news : List (Addr × Obj)} (N : News h₀ L h (a :: b :: c :: (ex' ++ d :: (ex ++ news)))) : News h₀ L h (a :: b :: c :: d :: ((ex' ++ ex) ++ news)) := fun p hp => N p (by
  simp only [List.mem_cons, List.mem_append] at hp ⊢
  rcases hp with h | h | h | h | (h | h) | h
  · exact .inl h
  · exact .inr (.inl h)
  · exact .inr (.inr (.inl h))
  · exact .inr (.inr (.inr (.inr (.inl h))))
  · exact .inr (.inr (.inr (.inl h)))
  · exact .inr (.inr (.inr (.inr (.inr (.inl h)))))
  · exact .inr (.inr (.inr (.inr (.inr (.inr h))))))
theorem k_set {h₀ h h₂ h₃ : Heap} {I C D Kc : Addr} {oI oI₂ oC oK oK₃ : Obj} {ys : List Value} {nw : List (Addr × Obj)} (N : News h₀ L h ((I, oI) :: (C, oC) :: (D, lst ys) :: (Kc, oK) :: nw)) (hk : ∀ b o, b ≠ I → h.get? b = some o → h₂.get? b = some o) (hs : Heap.SameBut Kc h₂ h₃) (eI : h₂.get? I = some oI₂) (eK : h₃.get? Kc = some oK₃) (ap : Apart I C D ((Kc, oK₃) :: nw)) (off : ∀ p ∈ nw, p.1 ≠ Kc) : News h₀ L h₃ ((I, oI₂) :: (C, oC) :: (D, lst ys) :: (Kc, oK₃) :: nw) := fun p hp => by
  have hK := ap.2.2.2 (Kc, oK₃) (List.mem_cons_self ..)
  rcases List.mem_cons.mp hp with rfl | hp
  · exact ⟨hs.extBut _ _ (Ne.symm hK.1) eI, (N _ (List.mem_cons_self ..)).2⟩
  · rcases List.mem_cons.mp hp with rfl | hp
    · have z := N (C, oC) (List.mem_cons_of_mem _ (List.mem_cons_self ..))
      exact ⟨hs.extBut _ _ (Ne.symm hK.2.1) (hk _ _ (Ne.symm ap.1) z.1), z.2⟩
    · rcases List.mem_cons.mp hp with rfl | hp
      · have z := N (D, lst ys) (List.mem_cons_of_mem _ (List.mem_cons_of_mem _ (List.mem_cons_self ..)))
        exact ⟨hs.extBut _ _ (Ne.symm hK.2.2) (hk _ _ (Ne.symm ap.2.1) z.1), z.2⟩
      · rcases List.mem_cons.mp hp with rfl | hp
        · exact ⟨eK, (N (Kc, oK) (List.mem_cons_of_mem _ (List.mem_cons_of_mem _ (List.mem_cons_of_mem _ (List.mem_cons_self ..))))).2⟩
        · have z := N p (List.mem_cons_of_mem _ (List.mem_cons_of_mem _ (List.mem_cons_of_mem _ (List.mem_cons_of_mem _ hp))))
          exact ⟨hs.extBut _ _ (off p hp) (hk _ _ (ap.2.2.2 p (List.mem_cons_of_mem _ hp)).1 z.1), z.2⟩
theorem compK_run {elt : Expr} {gens : List Comprehension} {scope : Scope} {pos : Pos} {p0 px : Pos} {x : Str} {cenv : Env} {s₁ : Shared} {h₀ : Heap} {news : List (Addr × Obj)} {n : Nat} {P : Nat → Value → Prop} {S : List (Addr × Obj) → Prop} {St : Nat → Heap → Prop} {R : Nat → List (Addr × Obj) → Value → Prop} {I C D Kc : Addr} {RR : Result → Shared → Prop}
    (hT : compTurn (.ListComp elt gens scope pos) 0 (.ref I) (.ref D) cenv = (standAt p0 >>= fun _ => pyNext (.ref I) >>= fun r => match r with
      | none => pure (.done .next)
      | some v => letOwnedTupleGo (.Name x px) (.ref I) v >>= fun _ => assign (.Name x px) cenv v >>= fun _ => (eval elt cenv >>= fun x => call (.builtin "list.append") [.ref D, x] >>= fun _ => pure ()) >>= fun _ => again (.compLoop (.ListComp elt gens scope pos) 0 (.ref I) (.ref D) cenv)))
    (hk : cenv.scope.kind = .function) (hx : cenv.kindOf x = some .cell) (hc : cenv.cells.lookup x = some Kc)
    (W : Source prog w A L I n P S St) (hn : n ≤ sizeLine) (smono : ∀ nw nw', (∀ q ∈ nw, q ∈ nw') → S nw → S nw') (mono : ∀ i ex ex' v, (∀ p ∈ ex, p ∈ ex') → R i ex v → R i ex' v)
    (turn : ∀ i v oI oC oK mC ys ex nw h tk E', i < n → P i v → ys.length = i → nw = ex ++ news → (∀ q ∈ news, q ∈ nw) → oK.data = .cell (some v) → NsObj oC mC → Fr h₀ L h m → News h₀ L h ((I, oI) :: (C, oC) :: (D, lst ys) :: (Kc, oK) :: nw) → Apart I C D ((Kc, oK) :: nw) → (∀ p ∈ nw, p.1 ≠ Kc) → S nw → (∀ (j : Nat) u, ys[j]? = some u → R j ex u) →
      wpAny (model prog w) A (eval elt cenv) (CEnd L m { s₁ with heap := h, toks := tk } I oI C D ys mC (fun _ => True) (fun g y nw' => g = h₀ ∧ ∃ ex', nw' = ex' ++ (Kc, oK) :: nw ∧ (∀ p ∈ ex', Kc < p.1) ∧ R i (ex' ++ ex) y)) E' { s₁ with heap := h, toks := tk })
    (done : ∀ oC mC ys ex h tk, ys.length = n → (∀ (i : Nat) v, ys[i]? = some v → R i ex v) → (∀ p ∈ ex, @LT.lt Nat instLTNat Kc p.1) → NsObj oC mC → Fr h₀ L h m → News h₀ L h ((C, oC) :: (D, lst ys) :: (ex ++ news)) → RR (.ok .next) { s₁ with heap := h, toks := tk })
    (hID : @LT.lt Nat instLTNat I D) (hDC : @LT.lt Nat instLTNat D C) (hCK : @LT.lt Nat instLTNat C Kc) (old : ∀ p ∈ news, @LT.lt Nat instLTNat p.1 I)
    {H : Heap} {tk₀ : Nat} {oI oC oK : Obj} {mC : Str → Option Value} (hoC : NsObj oC mC) (hvK : ∃ v, oK.data = .cell v) (hst : St 0 H) (F : Fr h₀ L H m) (N : News h₀ L H ((I, oI) :: (C, oC) :: (D, lst []) :: (Kc, oK) :: news)) (hS : S news) :
    codeAny (model prog w) A (.compLoop (.ListComp elt gens scope pos) 0 (.ref I) (.ref D) cenv) RR { s₁ with heap := H, toks := tk₀ } := by
  obtain ⟨fp, WW⟩ := W.fp
  refine codeAny_loop rfl (KAt s₁ (KInv n St R h₀ L m I C D Kc news)) (fun k s' hI' => ?_) (n + 1) (KAt.mk (i := 0) (ys := []) (ex := []) (oI := oI) (oC := oC) (oK := oK) (mC := mC) ⟨Nat.zero_le _, rfl, hst, F, N, hvK, rfl, (fun p hp => nomatch hp), (fun j u e => by simp at e), hoC⟩)
  cases hI' with
  | @mk i h' tk oI oC oK mC ys ex q =>
  show wpAny _ A ((compTurn (.ListComp elt gens scope pos) 0 (.ref I) (.ref D) cenv).onRaise (fun x => do noteFrame x _; theTreesLotGoes x)) _ _ _
  refine wpAny_noted ?_
  rw [hT]
  have off : ∀ p ∈ ex ++ news, p.1 ≠ I ∧ p.1 ≠ C ∧ p.1 ≠ D ∧ p.1 ≠ Kc := fun p hp => by
    rcases List.mem_append.mp hp with hp | hp
    · have := q.new p hp
      exact ⟨neGt (by omega), neGt (by omega), neGt (by omega), neGt (by omega)⟩
    · have := old p hp
      exact ⟨neLt (by omega), neLt (by omega), neLt (by omega), neLt (by omega)⟩
  have ap : ∀ o, Apart I C D ((Kc, o) :: (ex ++ news)) := fun o => ⟨neLt (by show @LT.lt Nat instLTNat I C; omega), neLt hID, neGt hDC, fun p hp => by
    rcases List.mem_cons.mp hp with rfl | hp
    · exact ⟨neGt (by show @LT.lt Nat instLTNat I Kc; omega), neGt hCK, neGt (by show @LT.lt Nat instLTNat D Kc; omega)⟩
    · have o := off p hp
      exact ⟨o.1, o.2.1, o.2.2.1⟩⟩
  have hIK : I ≠ Kc := neLt (by show @LT.lt Nat instLTNat I Kc; omega)
  have hSn : S (ex ++ news) := smono _ _ (fun q hq => List.mem_append_right _ hq) hS
  have zI := q.N _ (List.mem_cons_self ..)
  have zKc := q.N _ (List.mem_cons_of_mem _ (List.mem_cons_of_mem _ (List.mem_cons_of_mem _ (List.mem_cons_self ..))))
  refine wpAny_bind (wpAny_standAt (wpAny_bind ?_))
  by_cases hlt : i < n
  · refine WW.item i _ _ _ hlt q.st fun v h₂ tk₂ hPv hst₂ hk₂ => ?_
    refine wpAny_bind (wpAny_of_eq (show letOwnedTupleGo (.Name x px) (.ref I) v = pure () from rfl) ?_)
    have hk₂' : ∀ b o, b ≠ I → h'.get? b = some o → h₂.get? b = some o := fun b o hb e => hk₂ b o (by simpa using hb) e
    obtain ⟨vK, hvK⟩ := q.cell
    refine wpAny_bind (wpAny_assign_Name (wpAny_storeName_cell hk hx hc ⟨oK, hk₂' _ _ (Ne.symm hIK) zKc.1, hvK⟩ (fun h₃ hc₃ hs₃ => ?_)))
    obtain ⟨oI₂, heI⟩ := W.io _ _ hst₂
    obtain ⟨oK₃, heK₃, hdK₃⟩ := hc₃
    have F₃ : Fr h₀ L h₃ m := (fr_but q.F (fun b o hb e => hk₂' b o (by simpa using hb) e) (Ne.symm zI.2.1) zI.2.2).change hs₃ zKc.2.1 zKc.2.2
    have N₃ := k_set q.N hk₂' hs₃ heI heK₃ (ap _) (fun p hp => (off p hp).2.2.2)
    have heI₃ : h₃.get? I = some oI₂ := (N₃ _ (List.mem_cons_self ..)).1
    have hst₃ : St (i + 1) h₃ := W.st _ _ _ _ (ex ++ news) h₀ hst₂ heI heI₃ (fun p hp => N₃ p (List.mem_cons_of_mem _ (List.mem_cons_of_mem _ (List.mem_cons_of_mem _ (List.mem_cons_of_mem _ hp))))) hSn
    have hl := q.len
    refine wpAny_bind (wpAny_mono (comp_emit (s := s₁) (cenv := cenv) (S := fun _ => True) (J := fun g k zs mC' nw' => ∃ y, zs = ys ++ [y] ∧ g = h₀ ∧ ∃ ex', nw' = ex' ++ (Kc, oK₃) :: (ex ++ news) ∧ (∀ p ∈ ex', Kc < p.1) ∧ R i (ex' ++ ex) y) (i := i) (ys := ys) (mC := mC) (by omega) (h := h₃) (tk := tk₂) rfl
      (wpAny_mono (turn i v oI₂ _ oK₃ mC ys ex _ h₃ tk₂ _ hlt hPv hl rfl (fun q hq => List.mem_append_right _ hq) hdK₃ q.ns F₃ N₃ (ap _) (fun p hp => (off p hp).2.2.2) hSn q.rel) (fun y s₂ h₂ => by
        obtain ⟨g, h₄, tk₄, nw₄, oC₄, e, F₄, N₄, oc₄, ap₄, hS₄, q⟩ := h₂
        exact ⟨g, h₄, tk₄, nw₄, oC₄, e, F₄, N₄, oc₄, ap₄, hS₄, y, rfl, q⟩) fun _ _ e => e)) (fun _ s₄ h₄ => ?_) fun _ _ e => e)
    obtain ⟨h₀', h₄, tk₄, ys', mC', oC', news', rfl, F₄, N₄, oc₄, ap₄, _, y, rfl, rfl, ex', rfl, hE', hR'⟩ := h₄
    have N₅ := k_led N₄
    refine wpAny_pure ⟨rfl, n + 1 - (i + 1), by have := q.left; omega, .mk ⟨hlt, rfl, W.st _ _ _ _ ((ex' ++ ex) ++ news) _ hst₃ heI₃ (N₅ _ (List.mem_cons_self ..)).1 (fun p hp => N₅ p (List.mem_cons_of_mem _ (List.mem_cons_of_mem _ (List.mem_cons_of_mem _ (List.mem_cons_of_mem _ hp))))) (smono _ _ (fun q hq => List.mem_append_right _ hq) hS), F₄, N₅, ⟨_, hdK₃⟩, by rw [List.length_append, List.length_singleton, hl], fun p hp => ?_, snoc_rel mono q.rel (by rw [hl]; exact hR'), oc₄⟩⟩
    rcases List.mem_append.mp hp with hp | hp
    · exact hE' p hp
    · exact q.new p hp
  · have hin : i = n := Nat.le_antisymm q.le (Nat.not_lt.mp hlt)
    refine WW.done _ _ _ (hin ▸ q.st) fun h₂ tk₂ hk₂ => wpAny_pure ?_
    have hk₂' : ∀ b o, b ≠ I → h'.get? b = some o → h₂.get? b = some o := fun b o hb e => hk₂ b o (by simpa using hb) e
    refine done _ _ ys ex h₂ tk₂ (q.len.trans hin) q.rel q.new q.ns (fr_but q.F (fun b o hb e => hk₂' b o (by simpa using hb) e) (Ne.symm zI.2.1) zI.2.2) (fun p hp => ?_)
    have z := q.N p (by
      simp only [List.mem_cons] at hp ⊢
      rcases hp with h | h | h
      · exact .inr (.inl h)
      · exact .inr (.inr (.inl h))
      · exact .inr (.inr (.inr (.inr h))))
    refine ⟨hk₂' _ _ ?_ z.1, z.2⟩
    rcases List.mem_cons.mp hp with rfl | hp
    · exact Ne.symm (ap oK).1
    · rcases List.mem_cons.mp hp with rfl | hp
      · exact Ne.symm (ap oK).2.1
      · exact (off p hp).1
noncomputable def dictO : Obj := { cls := .type "dict", data := .dict #[] }
theorem k_heap {h₀ h : Heap} {oI : Obj} {news : List (Addr × Obj)} (F : Fr h₀ L h m) (N : News h₀ L h news) (hfI : oI.isFreed = false) :
    ∃ I D C Kc : Addr, I = h.objs.size ∧ D = (h.push oI).objs.size ∧ C = ((h.push oI).push (lst [])).objs.size ∧ Kc = ((h.push oI).push (lst [])).objs.size + 1 ∧ @LT.lt Nat instLTNat I D ∧ @LT.lt Nat instLTNat D C ∧ @LT.lt Nat instLTNat C Kc ∧ Fr h₀ L ((((h.push oI).push (lst [])).push dictO).push cellO) m ∧
      News h₀ L ((((h.push oI).push (lst [])).push dictO).push cellO) ((I, oI) :: (C, dictO) :: (D, lst []) :: (Kc, cellO) :: news) ∧ (∀ b o, (h.push oI).get? b = some o → ((((h.push oI).push (lst [])).push dictO).push cellO).get? b = some o) ∧ (∀ p ∈ news, @LT.lt Nat instLTNat p.1 I) := by
  have old : ∀ p ∈ news, @LT.lt Nat instLTNat p.1 h.objs.size := fun p hp => lt_size' (N p hp).1
  have fresh₀ : ∀ a, h.objs.size ≤ a → h₀.get? a = none := fun a ha => by
    cases e : h₀.get? a with
    | none => rfl
    | some o' => have := lt_size' (F.keep a o' e); omega
  have hLlt : @LT.lt Nat instLTNat L h.objs.size := F.ns.lt
  have z1 : (h.push oI).objs.size = h.objs.size + 1 := Heap.size_push ..
  have z2 : ((h.push oI).push (lst [])).objs.size = h.objs.size + 1 + 1 := (Heap.size_push ..).trans (by rw [z1])
  have z3 : (((h.push oI).push (lst [])).push dictO).objs.size = h.objs.size + 1 + 1 + 1 := (Heap.size_push ..).trans (by rw [z2])
  have up : ∀ b o, (h.push oI).get? b = some o → ((((h.push oI).push (lst [])).push dictO).push cellO).get? b = some o := fun b o e => Heap.get?_push_of_some _ (Heap.get?_push_of_some _ (Heap.get?_push_of_some _ e))
  have up0 : ∀ b o, h.get? b = some o → ((((h.push oI).push (lst [])).push dictO).push cellO).get? b = some o := fun b o e => up b o (Heap.get?_push_of_some _ e)
  have gD : ((((h.push oI).push (lst [])).push dictO).push cellO).get? (h.objs.size + 1) = some (lst []) := Heap.get?_push_of_some _ (Heap.get?_push_of_some _ (z1 ▸ Heap.get?_push_size _ rfl))
  have gC : ((((h.push oI).push (lst [])).push dictO).push cellO).get? (h.objs.size + 1 + 1) = some dictO := Heap.get?_push_of_some _ (z2 ▸ Heap.get?_push_size _ rfl)
  have gK : ((((h.push oI).push (lst [])).push dictO).push cellO).get? (h.objs.size + 1 + 1 + 1) = some cellO := z3 ▸ Heap.get?_push_size _ rfl
  have gI := up _ _ (Heap.get?_push_size h hfI)
  refine ⟨h.objs.size, h.objs.size + 1, h.objs.size + 1 + 1, h.objs.size + 1 + 1 + 1, rfl, z1.symm, z2.symm, by rw [z2], Nat.lt_succ_self _, Nat.lt_succ_self _, Nat.lt_succ_self _, F.keeps up0, fun p hp => ?_, up, old⟩
  rcases List.mem_cons.mp hp with rfl | hp
  · exact ⟨gI, neGt hLlt, fresh₀ _ (Nat.le_refl _)⟩
  · rcases List.mem_cons.mp hp with rfl | hp
    · exact ⟨gC, neGt (by omega), fresh₀ _ (by omega)⟩
    · rcases List.mem_cons.mp hp with rfl | hp
      · exact ⟨gD, neGt (by omega), fresh₀ _ (by omega)⟩
      · rcases List.mem_cons.mp hp with rfl | hp
        · exact ⟨gK, neGt (by omega), fresh₀ _ (by omega)⟩
        · exact ⟨up0 _ _ (N p hp).1, (N p hp).2⟩
theorem compK_loop {elt iter : Expr} {x : Str} {px : Pos} {scope : Scope} {cl : List (Str × Addr)} {pos : Pos} {env : Env} {Fin : Addr → Addr → Heap → List Value → List (Addr × Obj) → Shared → Prop} {RR : Value → Addr → Result → Shared → Prop} {xv : Value} {s₁ : Shared}
    (hcf : ∀ n, cellsFrom n scope.names cl = (x, n) :: cl) (hpc : ∀ h, pushCells h scope.names = h.push cellO) (hkind : scope.kind = .function) (hx : (relabel scope env).names.lookup x = some .cell)
    (h : CompK prog w A L m env elt x scope cl Fin xv s₁)
    (fin : ∀ C D h₀ oC mC ys news h tk, Fr h₀ L h m → News h₀ L h ((C, oC) :: (D, lst ys) :: news) → NsObj oC mC → C ≠ D → (∀ p ∈ news, p.1 ≠ C) → (∀ h' tk', Fin D L h₀ ys news { s₁ with heap := h', toks := tk' }) → RR (.ref D) C (.ok .next) { s₁ with heap := h, toks := tk }) :
    wpAny (model prog w) A (pyIter xv) (fun it s₂ => wpAny (model prog w) A (newList []) (fun acc s₃ => wpAny (model prog w) A (newFunctionEnv scope env.globals cl [] env.qual none .none (some env)) (fun cenv s₄ =>
      codeAny (model prog w) A (.compStart (.ListComp elt [⟨.Name x px, iter, [], 0⟩] scope pos) 0 it acc { cenv with scope := relabel scope env }) (RR acc cenv.locals) s₄) E s₃) E s₂) E s₁ := by
  obtain ⟨h₀, news, n, P, S, R, hh, F, N, c, hn, mono, turn, done⟩ := h
  refine src_iter hh N c fun oI St W hst hfI hS => ?_
  refine wpAny_newObj_type (newEnv_K hcf hpc ?_)
  obtain ⟨I, D, C, Kc, eI, eD, eC, eK, hID, hDC, hCK, F₁, N₁, up, old⟩ := k_heap F N hfI
  have W' := eI ▸ W
  have hst₁ : St 0 ((((s₁.heap.push oI).push (lst [])).push dictO).push cellO) := W.st 0 _ _ _ news h₀ hst (Heap.get?_push_size _ hfI) (up _ _ (Heap.get?_push_size _ hfI)) (fun p hp => N₁ p (List.mem_cons_of_mem _ (List.mem_cons_of_mem _ (List.mem_cons_of_mem _ (List.mem_cons_of_mem _ hp))))) hS
  obtain ⟨mC, hoC⟩ : ∃ mC, NsObj dictO mC := by
    obtain ⟨o, e, q⟩ := ns_obj (Heap.Ns.new s₁.heap (.type "dict"))
    rw [Heap.get?_push_size _ rfl] at e
    cases e
    exact ⟨_, q⟩
  refine comp_start rfl rfl W hst₁ ?_
  show codeAny (model prog w) A (.compLoop (.ListComp elt [⟨.Name x px, iter, [], 0⟩] scope pos) 0 (.ref s₁.heap.objs.size) (.ref (s₁.heap.push oI).objs.size) (compEnvC scope ((x, ((s₁.heap.push oI).push (lst [])).objs.size + 1) :: cl) ((s₁.heap.push oI).push (lst [])).objs.size env)) (RR (.ref (s₁.heap.push oI).objs.size) ((s₁.heap.push oI).push (lst [])).objs.size) { s₁ with heap := (((s₁.heap.push oI).push (lst [])).push dictO).push cellO }
  rw [← eI, ← eD, ← eK, ← eC]
  refine compK_run (cenv := compEnvC scope ((x, Kc) :: cl) C env) (x := x) (px := px) (compTurn_list1 _ _ _ _ _ _ _ _) hkind hx (by rw [show (compEnvC scope ((x, Kc) :: cl) C env).cells = (x, Kc) :: cl from rfl, List.lookup_cons]; simp) W' hn c.mono mono (fun i v oI oC oK mC ys ex nw h tk E' => turn I C D Kc i v oI oC oK mC ys ex nw h tk E' (ltOf hID) (ltOf hDC) (ltOf hCK)) (fun oC mC ys ex h tk hl hR hE ns F N => ?_) hID hDC hCK old hoC ⟨_, rfl⟩ hst₁ F₁ N₁ hS
  have offE : ∀ p ∈ ex, p.1 ≠ C ∧ p.1 ≠ D := fun p hp => by
    have := hE p hp
    exact ⟨neGt (by omega), neGt (by omega)⟩
  refine fin C D h₀ oC mC ys _ h tk F N ns (neGt hDC) (fun p hp => ?_) fun h' tk' => done D ys ex _ h' tk' hl hR (fun p hp q hq => ?_) (fun q hq => ?_) (fun p hp => (offE p hp).2) rfl (fun q hq => List.mem_append_right _ hq)
  · rcases List.mem_append.mp hp with hp | hp
    · exact (offE p hp).1
    · have := old p hp
      exact neLt (by omega)
  · have h1 := old q hq
    have h2 := hE p hp
    exact ltOf (by omega)
  · have h1 := old q hq
    exact ltOf (by omega)
theorem listcompK {h₉ : Heap} (_F₀ : Fr h₉ L s.heap m) {elt iter : Expr} {x : Str} {px : Pos} {scope : Scope} {cl : List (Str × Addr)} {pos : Pos} {env : Env} {Q : Value → Shared → Prop}
    (hclos : closureFor scope env = pure cl) (hcf : ∀ n, cellsFrom n scope.names cl = (x, n) :: cl) (hpc : ∀ h, pushCells h scope.names = h.push cellO) (hkind : scope.kind = .function)
    (hnames : ∀ y ∈ scope.names, y.2 = .local → scope.names.lookup y.1 = some .local) (hx : (relabel scope env).names.lookup x = some .cell)
    (h : wpAny (model prog w) A (eval iter env) (CompK prog w A L m env elt x scope cl (fun D L h₀ ys news s' => Fr h₀ L s'.heap m → News h₀ L s'.heap ((D, lst ys) :: news) → Q (.ref D) s')) E s)
    (hs : ∀ x, foldedSetIterable iter env x = pure x := by intro _; rfl) :
    wpAny (model prog w) A (eval (.ListComp elt [⟨.Name x px, iter, [], 0⟩] scope pos) env) Q E s := by
  rw [eval_ListComp]
  refine wpAny_comprehension_free (use := none) rfl hs hclos hkind hnames (wpAny_mono h (fun xv s₁ h₁ => ?_) fun _ _ e => e)
  exact compK_loop (RR := fun acc C r s' => compPost (model prog w) A E none Q acc C r s') hcf hpc hkind hx h₁ fun C D h₀ oC mC ys news h tk F N oc hCD off fin => comp_done F N oc hCD off fun h' F' N' => fin h' tk F' N'
end
end
section
open PySem.SeqAt
section
variable {prog : Program} {w : World} {A : Around} {E : Value → Shared → Prop} {s : Shared} {L a b : Addr} {h₀ h : Heap} {news : List (Addr × Obj)} {Q : Value → Shared → Prop}
theorem readsB (h : Heap) : ∀ bs : List Bool, ReadsAll h (bs.map Value.bool) (bs.map PyData.bool) []
  | [] => ReadsAll.nil
  | b :: bs => by
    have := ReadsAll.cons (Reads.bool b) (readsB h bs)
    simpa using this
theorem canLayB : ∀ bs : List Bool, PyData.canLayAll0 (bs.map PyData.bool) = true
  | [] => rfl
  | _ :: r => by simp [PyData.canLayAll0, PyData.canLay0, canLayB r]
theorem depthB : ∀ bs : List Bool, PyData.depthAll (bs.map PyData.bool) = 0
  | [] => rfl
  | _ :: r => by simp [PyData.depthAll, PyData.depth, depthB r]
theorem eqvB : ∀ bs cs : List Bool, PyData.eqvAll (bs.map PyData.bool) (cs.map PyData.bool) = decide (bs = cs)
  | [], [] => by simp [PyData.eqvAll]
  | [], _ :: _ => by simp [PyData.eqvAll]
  | _ :: _, [] => by simp [PyData.eqvAll]
  | a :: r, b :: t => by
    simp only [List.map_cons, PyData.eqvAll, eqvB r t]
    cases a <;> cases b <;> simp [PyData.eqv]
/-- a row of bools of the ledger -/
noncomputable def RowR (news : List (Addr × Obj)) (v : Value) (bs : List Bool) : Prop := ∃ a n, v = .ref a ∧ (a, W.listOf (bs.map Value.bool).toArray n) ∈ news
theorem RowR.mono {news' : List (Addr × Obj)} {v : Value} {bs : List Bool} (h : RowR news v bs) (hs : ∀ p ∈ news, p ∈ news') : RowR news' v bs := by
  obtain ⟨a, n, e, hm⟩ := h
  exact ⟨a, n, e, hs _ hm⟩
theorem row_reads (N : News h₀ L h news) {v : Value} {bs : List Bool} (r : RowR news v bs) : ∃ as, Reads h v (.list (bs.map PyData.bool)) as := by
  obtain ⟨a, n, rfl, hm⟩ := r
  exact ⟨_, reads_list_at (N.get hm) rfl rfl (by simpa using readsB h bs)⟩
theorem rows_reads (N : News h₀ L h news) : ∀ {vs : List Value} {rows : List (List Bool)}, All2 (RowR news) vs rows → ∃ as, ReadsAll h vs (rows.map fun bs => .list (bs.map PyData.bool)) as
  | _, _, .nil => ⟨_, ReadsAll.nil⟩
  | _, _, .cons hd r => by
    obtain ⟨as, q⟩ := row_reads N hd
    obtain ⟨bs, p⟩ := rows_reads N r
    exact ⟨_, ReadsAll.cons q p⟩
theorem shapedB (bs : List Bool) : shaped (.list (bs.map PyData.bool)) = true := by
  simp [shaped, PyData.canLay0, PyData.depth, canLayB, depthB]
theorem canLayBB : ∀ rows : List (List Bool), PyData.canLayAll0 (rows.map fun bs => .list (bs.map PyData.bool)) = true
  | [] => rfl
  | _ :: r => by simp [PyData.canLayAll0, PyData.canLay0, canLayB, canLayBB r]
theorem depthBB : ∀ rows : List (List Bool), PyData.depthAll (rows.map fun bs => .list (bs.map PyData.bool)) ≤ 1
  | [] => by simp [PyData.depthAll]
  | _ :: r => by
    have := depthBB r
    simp only [List.map_cons, PyData.depthAll, PyData.depth, depthB]
    omega
theorem shapedBB (rows : List (List Bool)) : shaped (.list (rows.map fun bs => .list (bs.map PyData.bool))) = true := by
  have := depthBB rows
  simp only [shaped, PyData.canLay0, PyData.depth, canLayBB, Bool.true_and]
  refine decide_eq_true ?_
  have e : ∀ x : Nat, x ≤ 1 → x + 1 ≤ 64 := fun x h => by omega
  exact e _ this
theorem eqvBB : ∀ rows cols : List (List Bool), PyData.eqvAll (rows.map fun bs => .list (bs.map PyData.bool)) (cols.map fun bs => .list (bs.map PyData.bool)) = decide (rows = cols)
  | [], [] => by simp [PyData.eqvAll]
  | [], _ :: _ => by simp [PyData.eqvAll]
  | _ :: _, [] => by simp [PyData.eqvAll]
  | a :: r, b :: t => by
    simp only [List.map_cons, PyData.eqvAll, PyData.eqv, eqvB, eqvBB r t]
    by_cases h : a = b <;> by_cases h' : r = t <;> simp [h, h']
theorem eq_bools (N : News h₀ L s.heap news) {v u : Value} {bs cs : List Bool} (ha : RowR news v bs) (hb : RowR news u cs) (hu : A.units + 64 < cLine) (h : Q (.bool (decide (bs = cs))) s) :
    wpAny (model prog w) A (compareOp .Eq v u) Q E s := by
  obtain ⟨as, ra⟩ := row_reads N ha
  obtain ⟨bs', rb⟩ := row_reads N hb
  refine eq_dataH ra rb (shapedB _) (shapedB _) hu ?_
  rw [PyData.eqv, eqvB]
  exact h
theorem ne_rows (N : News h₀ L s.heap news) {vs us : List Value} {rows cols : List (List Bool)} {i j : Nat} (ha : (a, W.listOf vs.toArray i) ∈ news) (hb : (b, W.listOf us.toArray j) ∈ news) (hv : All2 (RowR news) vs rows) (hw : All2 (RowR news) us cols) (hu : A.units + 64 < cLine) (h : Q (.bool (!decide (rows = cols))) s) :
    wpAny (model prog w) A (compareOp .NotEq (.ref a) (.ref b)) Q E s := by
  obtain ⟨as, ra⟩ := rows_reads N hv
  obtain ⟨bs', rb⟩ := rows_reads N hw
  refine ne_dataH (reads_list_at (N.get ha) rfl rfl (by simpa using ra)) (reads_list_at (N.get hb) rfl rfl (by simpa using rb)) (shapedBB _) (shapedBB _) hu ?_
  rw [PyData.eqv, eqvBB]
  exact h
end
end
section
set_option maxHeartbeats 4000000 in
theorem con_neg (w : World) (news : List (Addr × Obj)) (a : Int) (t1 : Tok)  : ConV false 0 w 1 35 [.int a t1] news (fun t => .int (-a) t) := by
  w_top off
  k_with_none
  k_with "y_room" => first | ((try simp only [depth_under_make, depth_under_kw, depth_in1, depth_deeper, depth_caller]); (try dsimp only [yTop]); first | exact lim2 (by assumption) rfl | exact lim1 (by assumption) rfl | exact lim0 (by assumption)) | ((try simp only [depth_under_make, depth_under_kw, depth_in1, depth_deeper, depth_caller] at *); (try dsimp only [yTop] at *); omega)
  k_with "y_units" => first | ((try simp only [units_in1, units_deeper, Around.mark_units, units_caller]); (try dsimp only [yTop]); first | exact lim2 (by assumption) rfl | exact lim1 (by assumption) rfl) | (have hcL9 := cLine_is; ((try simp only [units_in1, units_deeper, Around.mark_units, units_caller] at *); (try dsimp only [yTop] at *); omega))
  k_with "y_k5" => ((case k1 => k_asm); (case k2 => k_asm); (case k3 => k_asm); (case k4 => k_asm); (case k5 => k_asm))
  k_with "y_eC" => ((case kA => exact rfl); (case kF => exact rfl); (case kK => assumption); k_extra "y_k5"; (case k6 => k_is); (case k7 => k_is); (case k8 => ktr_room); (case k9 => exact BindsTo.of_eq rfl); (case c2 => exact rfl); (case c3 => exact rfl); (case c4 => exact rfl))
  k_with "y_e1" => (k_extra "y_eC"; (case c5 => decide); (case kB => exact locs rfl); k_whole; intro g' L' h' FG' F' N' B' X' T'; (try dsimp only); (try k_lift B'); (try k_fold))
  unfold ConV
  intros
  rename_i hret
  rename_i hH hTk _ _
  obtain rfl := hH.resolve_left Bool.false_ne_true
  refine wpAny_call ?_
  k_dflt (refine' code_def (binds := [(Str.ofString "a", .int a t1)]) ?k1 ?k2 ?k3 ?k4 ?k5 ?kA ?kF ?kK ?k6 ?k7 ?k8 ?k9 ?kB ?_ ?c2 ?c3 ?c4 ?c5; k_extra "y_e1")
  k_steps
  all_goals (refine cb_retI hret ?e1 ?e2 ?e3; (case e2 => k_asm); (case e3 => first | k_asm | (refine' y_drop ?N ?S; (case N => k_asm); (case S => kcj_all))); (case e1 => rfl))
set_option maxHeartbeats 4000000 in
theorem con_iadd (w : World) (news : List (Addr × Obj)) (a b : Int) (t1 t2 : Tok)  : ConV false 0 w 1 56 [.int a t1, .int b t2] news (fun t => .int (a + b) t) := by
  w_top off
  k_with_none
  k_with "y_room" => first | ((try simp only [depth_under_make, depth_under_kw, depth_in1, depth_deeper, depth_caller]); (try dsimp only [yTop]); first | exact lim2 (by assumption) rfl | exact lim1 (by assumption) rfl | exact lim0 (by assumption)) | ((try simp only [depth_under_make, depth_under_kw, depth_in1, depth_deeper, depth_caller] at *); (try dsimp only [yTop] at *); omega)
  k_with "y_units" => first | ((try simp only [units_in1, units_deeper, Around.mark_units, units_caller]); (try dsimp only [yTop]); first | exact lim2 (by assumption) rfl | exact lim1 (by assumption) rfl) | (have hcL9 := cLine_is; ((try simp only [units_in1, units_deeper, Around.mark_units, units_caller] at *); (try dsimp only [yTop] at *); omega))
  k_with "y_k5" => ((case k1 => k_asm); (case k2 => k_asm); (case k3 => k_asm); (case k4 => k_asm); (case k5 => k_asm))
  k_with "y_eC" => ((case kA => exact rfl); (case kF => exact rfl); (case kK => assumption); k_extra "y_k5"; (case k6 => k_is); (case k7 => k_is); (case k8 => ktr_room); (case k9 => exact BindsTo.of_eq rfl); (case c2 => exact rfl); (case c3 => exact rfl); (case c4 => exact rfl))
  k_with "y_e1" => (k_extra "y_eC"; (case c5 => decide); (case kB => exact locs rfl); k_whole; intro g' L' h' FG' F' N' B' X' T'; (try dsimp only); (try k_lift B'); (try k_fold))
  unfold ConV
  intros
  rename_i hret
  rename_i hH hTk _ _
  obtain rfl := hH.resolve_left Bool.false_ne_true
  refine wpAny_call ?_
  k_dflt (refine' code_def (binds := [(Str.ofString "a", .int a t1), (Str.ofString "b", .int b t2)]) ?k1 ?k2 ?k3 ?k4 ?k5 ?kA ?kF ?kK ?k6 ?k7 ?k8 ?k9 ?kB ?_ ?c2 ?c3 ?c4 ?c5; k_extra "y_e1")
  k_steps
  all_goals (refine cb_retI hret ?e1 ?e2 ?e3; (case e2 => k_asm); (case e3 => first | k_asm | (refine' y_drop ?N ?S; (case N => k_asm); (case S => kcj_all))); (case e1 => rfl))
set_option maxHeartbeats 4000000 in
theorem con_isub (w : World) (news : List (Addr × Obj)) (a b : Int) (t1 t2 : Tok)  : ConV false 0 w 1 84 [.int a t1, .int b t2] news (fun t => .int (a - b) t) := by
  w_top off
  k_with_none
  k_with "y_room" => first | ((try simp only [depth_under_make, depth_under_kw, depth_in1, depth_deeper, depth_caller]); (try dsimp only [yTop]); first | exact lim2 (by assumption) rfl | exact lim1 (by assumption) rfl | exact lim0 (by assumption)) | ((try simp only [depth_under_make, depth_under_kw, depth_in1, depth_deeper, depth_caller] at *); (try dsimp only [yTop] at *); omega)
  k_with "y_units" => first | ((try simp only [units_in1, units_deeper, Around.mark_units, units_caller]); (try dsimp only [yTop]); first | exact lim2 (by assumption) rfl | exact lim1 (by assumption) rfl) | (have hcL9 := cLine_is; ((try simp only [units_in1, units_deeper, Around.mark_units, units_caller] at *); (try dsimp only [yTop] at *); omega))
  k_with "y_k5" => ((case k1 => k_asm); (case k2 => k_asm); (case k3 => k_asm); (case k4 => k_asm); (case k5 => k_asm))
  k_with "y_eC" => ((case kA => exact rfl); (case kF => exact rfl); (case kK => assumption); k_extra "y_k5"; (case k6 => k_is); (case k7 => k_is); (case k8 => ktr_room); (case k9 => exact BindsTo.of_eq rfl); (case c2 => exact rfl); (case c3 => exact rfl); (case c4 => exact rfl))
  k_with "y_e1" => (k_extra "y_eC"; (case c5 => decide); (case kB => exact locs rfl); k_whole; intro g' L' h' FG' F' N' B' X' T'; (try dsimp only); (try k_lift B'); (try k_fold))
  unfold ConV
  intros
  rename_i hret
  rename_i hH hTk _ _
  obtain rfl := hH.resolve_left Bool.false_ne_true
  refine wpAny_call ?_
  k_dflt (refine' code_def (binds := [(Str.ofString "a", .int a t1), (Str.ofString "b", .int b t2)]) ?k1 ?k2 ?k3 ?k4 ?k5 ?kA ?kF ?kK ?k6 ?k7 ?k8 ?k9 ?kB ?_ ?c2 ?c3 ?c4 ?c5; k_extra "y_e1")
  k_steps
  all_goals (refine cb_retI hret ?e1 ?e2 ?e3; (case e2 => k_asm); (case e3 => first | k_asm | (refine' y_drop ?N ?S; (case N => k_asm); (case S => kcj_all))); (case e1 => rfl))
set_option maxHeartbeats 4000000 in
theorem con_imul (w : World) (news : List (Addr × Obj)) (a b : Int) (t1 t2 : Tok) (ha : a.natAbs ≤ 1000000) (hb : b.natAbs ≤ 1000000) : ConV false 0 w 1 70 [.int a t1, .int b t2] news (fun t => .int (a * b) t) := by
  w_top off
  k_with_none
  k_with "y_room" => first | ((try simp only [depth_under_make, depth_under_kw, depth_in1, depth_deeper, depth_caller]); (try dsimp only [yTop]); first | exact lim2 (by assumption) rfl | exact lim1 (by assumption) rfl | exact lim0 (by assumption)) | ((try simp only [depth_under_make, depth_under_kw, depth_in1, depth_deeper, depth_caller] at *); (try dsimp only [yTop] at *); omega)
  k_with "y_units" => first | ((try simp only [units_in1, units_deeper, Around.mark_units, units_caller]); (try dsimp only [yTop]); first | exact lim2 (by assumption) rfl | exact lim1 (by assumption) rfl) | (have hcL9 := cLine_is; ((try simp only [units_in1, units_deeper, Around.mark_units, units_caller] at *); (try dsimp only [yTop] at *); omega))
  k_with "y_k5" => ((case k1 => k_asm); (case k2 => k_asm); (case k3 => k_asm); (case k4 => k_asm); (case k5 => k_asm))
  k_with "y_eC" => ((case kA => exact rfl); (case kF => exact rfl); (case kK => assumption); k_extra "y_k5"; (case k6 => k_is); (case k7 => k_is); (case k8 => ktr_room); (case k9 => exact BindsTo.of_eq rfl); (case c2 => exact rfl); (case c3 => exact rfl); (case c4 => exact rfl))
  k_with "y_e1" => (k_extra "y_eC"; (case c5 => decide); (case kB => exact locs rfl); k_whole; intro g' L' h' FG' F' N' B' X' T'; (try dsimp only); (try k_lift B'); (try k_fold))
  unfold ConV
  intros
  rename_i hret
  rename_i hH hTk _ _
  obtain rfl := hH.resolve_left Bool.false_ne_true
  refine wpAny_call ?_
  k_dflt (refine' code_def (binds := [(Str.ofString "a", .int a t1), (Str.ofString "b", .int b t2)]) ?k1 ?k2 ?k3 ?k4 ?k5 ?kA ?kF ?kK ?k6 ?k7 ?k8 ?k9 ?kB ?_ ?c2 ?c3 ?c4 ?c5; k_extra "y_e1")
  k_steps
  all_goals (refine cb_retI hret ?e1 ?e2 ?e3; (case e2 => k_asm); (case e3 => first | k_asm | (refine' y_drop ?N ?S; (case N => k_asm); (case S => kcj_all))); (case e1 => rfl))
set_option maxHeartbeats 4000000 in
theorem con_imod (w : World) (news : List (Addr × Obj)) (a b : Int) (t1 t2 : Tok) (hb : b.natAbs ≤ 1000000) (hb0 : 0 < b) : ConV false 0 w 1 63 [.int a t1, .int b t2] news (fun t => .int (a.fmod b) t) := by
  w_top off
  k_with_none
  k_with "y_room" => first | ((try simp only [depth_under_make, depth_under_kw, depth_in1, depth_deeper, depth_caller]); (try dsimp only [yTop]); first | exact lim2 (by assumption) rfl | exact lim1 (by assumption) rfl | exact lim0 (by assumption)) | ((try simp only [depth_under_make, depth_under_kw, depth_in1, depth_deeper, depth_caller] at *); (try dsimp only [yTop] at *); omega)
  k_with "y_units" => first | ((try simp only [units_in1, units_deeper, Around.mark_units, units_caller]); (try dsimp only [yTop]); first | exact lim2 (by assumption) rfl | exact lim1 (by assumption) rfl) | (have hcL9 := cLine_is; ((try simp only [units_in1, units_deeper, Around.mark_units, units_caller] at *); (try dsimp only [yTop] at *); omega))
  k_with "y_k5" => ((case k1 => k_asm); (case k2 => k_asm); (case k3 => k_asm); (case k4 => k_asm); (case k5 => k_asm))
  k_with "y_eC" => ((case kA => exact rfl); (case kF => exact rfl); (case kK => assumption); k_extra "y_k5"; (case k6 => k_is); (case k7 => k_is); (case k8 => ktr_room); (case k9 => exact BindsTo.of_eq rfl); (case c2 => exact rfl); (case c3 => exact rfl); (case c4 => exact rfl))
  k_with "y_e1" => (k_extra "y_eC"; (case c5 => decide); (case kB => exact locs rfl); k_whole; intro g' L' h' FG' F' N' B' X' T'; (try dsimp only); (try k_lift B'); (try k_fold))
  unfold ConV
  intros
  rename_i hret
  rename_i hH hTk _ _
  obtain rfl := hH.resolve_left Bool.false_ne_true
  refine wpAny_call ?_
  k_dflt (refine' code_def (binds := [(Str.ofString "a", .int a t1), (Str.ofString "b", .int b t2)]) ?k1 ?k2 ?k3 ?k4 ?k5 ?kA ?kF ?kK ?k6 ?k7 ?k8 ?k9 ?kB ?_ ?c2 ?c3 ?c4 ?c5; k_extra "y_e1")
  k_steps
  all_goals (refine cb_retI hret ?e1 ?e2 ?e3; (case e2 => k_asm); (case e3 => first | k_asm | (refine' y_drop ?N ?S; (case N => k_asm); (case S => kcj_all))); (case e1 => rfl))
set_option maxHeartbeats 4000000 in
theorem con_not (w : World) (news : List (Addr × Obj)) (a : Int) (t1 : Tok)  : ConV false 0 w 1 21 [.int a t1] news (fun t => .bool (decide (a = 0))) := by
  w_top off
  k_with_none
  k_with "y_room" => first | ((try simp only [depth_under_make, depth_under_kw, depth_in1, depth_deeper, depth_caller]); (try dsimp only [yTop]); first | exact lim2 (by assumption) rfl | exact lim1 (by assumption) rfl | exact lim0 (by assumption)) | ((try simp only [depth_under_make, depth_under_kw, depth_in1, depth_deeper, depth_caller] at *); (try dsimp only [yTop] at *); omega)
  k_with "y_units" => first | ((try simp only [units_in1, units_deeper, Around.mark_units, units_caller]); (try dsimp only [yTop]); first | exact lim2 (by assumption) rfl | exact lim1 (by assumption) rfl) | (have hcL9 := cLine_is; ((try simp only [units_in1, units_deeper, Around.mark_units, units_caller] at *); (try dsimp only [yTop] at *); omega))
  k_with "y_k5" => ((case k1 => k_asm); (case k2 => k_asm); (case k3 => k_asm); (case k4 => k_asm); (case k5 => k_asm))
  k_with "y_eC" => ((case kA => exact rfl); (case kF => exact rfl); (case kK => assumption); k_extra "y_k5"; (case k6 => k_is); (case k7 => k_is); (case k8 => ktr_room); (case k9 => exact BindsTo.of_eq rfl); (case c2 => exact rfl); (case c3 => exact rfl); (case c4 => exact rfl))
  k_with "y_e1" => (k_extra "y_eC"; (case c5 => decide); (case kB => exact locs rfl); k_whole; intro g' L' h' FG' F' N' B' X' T'; (try dsimp only); (try k_lift B'); (try k_fold))
  unfold ConV
  intros
  rename_i hret
  rename_i hH hTk _ _
  obtain rfl := hH.resolve_left Bool.false_ne_true
  refine wpAny_call ?_
  k_dflt (refine' code_def (binds := [(Str.ofString "a", .int a t1)]) ?k1 ?k2 ?k3 ?k4 ?k5 ?kA ?kF ?kK ?k6 ?k7 ?k8 ?k9 ?kB ?_ ?c2 ?c3 ?c4 ?c5; k_extra "y_e1")
  k_steps
  all_goals (refine cb_retB hret ?e1 ?e2 ?e3; (case e2 => k_asm); (case e3 => first | k_asm | (refine' y_drop ?N ?S; (case N => k_asm); (case S => kcj_all))); (case e1 => (by_cases h : a = 0 <;> simp [h])))
set_option maxHeartbeats 4000000 in
theorem con_isB (w : World) (news : List (Addr × Obj)) (a b : Bool)  : ConV false 0 w 1 28 [.bool a, .bool b] news (fun t => .bool (a == b)) := by
  w_top off
  k_with_none
  k_with "y_room" => first | ((try simp only [depth_under_make, depth_under_kw, depth_in1, depth_deeper, depth_caller]); (try dsimp only [yTop]); first | exact lim2 (by assumption) rfl | exact lim1 (by assumption) rfl | exact lim0 (by assumption)) | ((try simp only [depth_under_make, depth_under_kw, depth_in1, depth_deeper, depth_caller] at *); (try dsimp only [yTop] at *); omega)
  k_with "y_units" => first | ((try simp only [units_in1, units_deeper, Around.mark_units, units_caller]); (try dsimp only [yTop]); first | exact lim2 (by assumption) rfl | exact lim1 (by assumption) rfl) | (have hcL9 := cLine_is; ((try simp only [units_in1, units_deeper, Around.mark_units, units_caller] at *); (try dsimp only [yTop] at *); omega))
  k_with "y_k5" => ((case k1 => k_asm); (case k2 => k_asm); (case k3 => k_asm); (case k4 => k_asm); (case k5 => k_asm))
  k_with "y_eC" => ((case kA => exact rfl); (case kF => exact rfl); (case kK => assumption); k_extra "y_k5"; (case k6 => k_is); (case k7 => k_is); (case k8 => ktr_room); (case k9 => exact BindsTo.of_eq rfl); (case c2 => exact rfl); (case c3 => exact rfl); (case c4 => exact rfl))
  k_with "y_e1" => (k_extra "y_eC"; (case c5 => decide); (case kB => exact locs rfl); k_whole; intro g' L' h' FG' F' N' B' X' T'; (try dsimp only); (try k_lift B'); (try k_fold))
  unfold ConV
  intros
  rename_i hret
  rename_i hH hTk _ _
  obtain rfl := hH.resolve_left Bool.false_ne_true
  refine wpAny_call ?_
  k_dflt (refine' code_def (binds := [(Str.ofString "a", .bool a), (Str.ofString "b", .bool b)]) ?k1 ?k2 ?k3 ?k4 ?k5 ?kA ?kF ?kK ?k6 ?k7 ?k8 ?k9 ?kB ?_ ?c2 ?c3 ?c4 ?c5; k_extra "y_e1")
  k_steps
  all_goals (refine cb_retB hret ?e1 ?e2 ?e3; (case e2 => k_asm); (case e3 => first | k_asm | (refine' y_drop ?N ?S; (case N => k_asm); (case S => kcj_all))); (case e1 => simp_all))
end
section
theorem CompK.intro {prog : Program} {w : World} {A : Around} {L : Addr} {m : Str → Option Value} {env : Env} {elt : Expr} {x : Str} {scope : Scope} {cl : List (Str × Addr)} {Fin : Addr → Addr → Heap → List Value → List (Addr × Obj) → Shared → Prop} {xv : Value} {s₁ : Shared} {h₀ : Heap} {news : List (Addr × Obj)} {n : Nat} {P : Nat → Value → Prop} {S : List (Addr × Obj) → Prop}
    (R : Nat → List (Addr × Obj) → Value → Prop) (mono : ∀ i ex ex' v, (∀ p ∈ ex, p ∈ ex') → R i ex v → R i ex' v) (hh : A.handled = none) (F : Fr h₀ L s₁.heap m) (N : News h₀ L s₁.heap news) (c : Src s₁.heap news xv n P S) (hn : n ≤ sizeLine)
    (turn : ∀ I C D K i v oI oC oK mC ys ex nw h tk E', I < D → D < C → C < K → i < n → P i v → ys.length = i → nw = ex ++ news → (∀ q ∈ news, q ∈ nw) → oK.data = .cell (some v) → LCg.NsObj oC mC → Fr h₀ L h m → News h₀ L h ((I, oI) :: (C, oC) :: (D, LCg.lst ys) :: (K, oK) :: nw) → Apart I C D ((K, oK) :: nw) → (∀ p ∈ nw, p.1 ≠ K) → S nw → (∀ j u, ys[j]? = some u → R j ex u) →
      wpAny (model prog w) A (eval elt (compEnvC scope ((x, K) :: cl) C env)) (CEnd L m { s₁ with heap := h, toks := tk } I oI C D ys mC (fun _ => True) (fun g y nw' => g = h₀ ∧ ∃ ex', nw' = ex' ++ (K, oK) :: nw ∧ (∀ p ∈ ex', K < p.1) ∧ R i (ex' ++ ex) y)) E' { s₁ with heap := h, toks := tk })
    (fin : ∀ D ys ex nw h tk, ys.length = n → (∀ i v, ys[i]? = some v → R i ex v) → (∀ p ∈ ex, ∀ q ∈ news, q.1 < p.1) → (∀ q ∈ news, q.1 < D) → (∀ p ∈ ex, p.1 ≠ D) → nw = ex ++ news → (∀ q ∈ news, q ∈ nw) → Fin D L h₀ ys nw { s₁ with heap := h, toks := tk }) :
    CompK prog w A L m env elt x scope cl Fin xv s₁ := ⟨h₀, news, n, P, S, R, hh, F, N, c, hn, mono, turn, fin⟩
theorem news_in {h₀ h : Heap} {L : Addr} {front xs nw : List (Addr × Obj)} (N : News h₀ L h (front ++ nw)) (hs : ∀ p ∈ xs, p ∈ nw) : News h₀ L h (front ++ (xs ++ nw)) := fun p hp => N p (by
  rcases List.mem_append.mp hp with hp | hp
  · exact List.mem_append_left _ hp
  · rcases List.mem_append.mp hp with hp | hp
    · exact List.mem_append_right _ (hs p hp)
    · exact List.mem_append_right _ hp)
theorem all_true : ∀ {ys : List Value}, (∀ (i : Nat) v, ys[i]? = some v → v = Value.bool true) → ys = List.replicate ys.length (Value.bool true)
  | [], _ => rfl
  | a :: r, h => by
    have := all_true (ys := r) fun i v e => h (i + 1) v e
    rw [h 0 a rfl, List.length_cons, List.replicate_succ, ← this]
theorem trues_of {ys : List Value} (hl : ys.length = 7) (h : ∀ (i : Nat) v, ys[i]? = some v → v = Value.bool true) : LCg.lst ys = W.listOf (([true, true, true, true, true, true, true] : List Bool).map Value.bool).toArray 7 := by
  rw [all_true h, hl]
  rfl
theorem nth4_map {α β : Type} (f : α → β) (a b c d : α) (i : Nat) : nth4 (f a) (f b) (f c) (f d) i = f (nth4 a b c d i) := by
  rcases i with _ | _ | _ | i <;> rfl
theorem fmod8 (c : Int) : 0 ≤ c.fmod 8 ∧ c.fmod 8 < 8 := by
  rw [Int.fmod_eq_emod_of_nonneg _ (by decide)]
  exact ⟨Int.emod_nonneg _ (by decide), Int.emod_lt_of_pos _ (by decide)⟩
theorem tab_said {k : Nat} {x : Int} (h : SignOk x.toNat k) (h0 : 0 ≤ x) {j : Nat} (hj : j < 7) : (tab k j == ((j : Int) == x)) = true := by
  rw [h.2.2 j hj]
  by_cases e : x.toNat = j
  · have : (j : Int) = x := by omega
    simp [e, this]
  · have : ¬ (j : Int) = x := fun q => e (by omega)
    simp [e, this]
theorem news_out {h₀ h : Heap} {L : Addr} {front xs nw : List (Addr × Obj)} (N : News h₀ L h (front ++ (xs ++ nw))) : News h₀ L h (front ++ nw) := fun p hp => N p (by
  rcases List.mem_append.mp hp with hp | hp
  · exact List.mem_append_left _ hp
  · exact List.mem_append_right _ (List.mem_append_right _ hp))
section
variable {prog : Program} {w : World} {A : Around} {E : Value → Shared → Prop} {s : Shared} {h₀ : Heap} {L : Addr} {news : List (Addr × Obj)} {value slice : PySem.Expr} {n : Nat} {i : Nat} {t : Tok} {Q : Value → Shared → Prop}
theorem sub4R {da r0 r1 r2 r3 : Addr} (N : News h₀ L s.heap news) (hm : (da, W.listOf #[.ref r0, .ref r1, .ref r2, .ref r3] n) ∈ news) (hi : i < 4) (h : Q (.ref (nth4 r0 r1 r2 r3 i)) s)
    (hs : subscripted slice false (.ref da) (.int (i : Int) t) = operate [.ref da, .int (i : Int) t] (getItem (.ref da) (.int (i : Int) t)) := by with_unfolding_all rfl) :
    wpAny (model prog w) A (subscriptTail value slice (.ref da) (.int (i : Int) t)) Q E s := by
  refine item_mem N hm (by omega) (by omega) ?_ h hs
  rcases i with _ | _ | _ | _ | i
  · rfl
  · rfl
  · rfl
  · rfl
  · omega
theorem sub4I {ua : Addr} {u0 u1 u2 u3 : Int} {e0 e1 e2 e3 : Tok} (N : News h₀ L s.heap news) (hm : (ua, W.listOf #[.int u0 e0, .int u1 e1, .int u2 e2, .int u3 e3] n) ∈ news) (hi : i < 4) (h : Q (.int (nth4 u0 u1 u2 u3 i) (nth4 e0 e1 e2 e3 i)) s)
    (hs : subscripted slice false (.ref ua) (.int (i : Int) t) = operate [.ref ua, .int (i : Int) t] (getItem (.ref ua) (.int (i : Int) t)) := by with_unfolding_all rfl) :
    wpAny (model prog w) A (subscriptTail value slice (.ref ua) (.int (i : Int) t)) Q E s := by
  refine item_mem N hm (by omega) (by omega) ?_ h hs
  rcases i with _ | _ | _ | _ | i
  · rfl
  · rfl
  · rfl
  · rfl
  · omega
theorem subRow {ra : Addr} {k : Nat} (N : News h₀ L s.heap news) (hm : (ra, rowO k) ∈ news) (hi : i < 7) (h : Q (.bool (tab k i)) s)
    (hs : subscripted slice false (.ref ra) (.int (i : Int) t) = operate [.ref ra, .int (i : Int) t] (getItem (.ref ra) (.int (i : Int) t)) := by with_unfolding_all rfl) :
    wpAny (model prog w) A (subscriptTail value slice (.ref ra) (.int (i : Int) t)) Q E s := by
  refine item_mem N hm (by omega) (by omega) ?_ h hs
  rcases i with _ | _ | _ | _ | _ | _ | _ | i
  · rfl
  · rfl
  · rfl
  · rfl
  · rfl
  · rfl
  · rfl
  · omega
end
set_option maxHeartbeats 4000000 in
theorem stage_b (SC : LawR 5) : LawR 4 := by
  w_top off
  k_with_none
  k_with "y_room" => first | ((try simp only [depth_under_make, depth_under_kw, depth_in1, depth_deeper, depth_caller]); (try dsimp only [yTop]); first | exact lim2 (by assumption) rfl | exact lim1 (by assumption) rfl | exact lim0 (by assumption)) | ((try simp only [depth_under_make, depth_under_kw, depth_in1, depth_deeper, depth_caller] at *); (try dsimp only [yTop] at *); omega)
  k_with "y_units" => first | ((try simp only [units_in1, units_deeper, Around.mark_units, units_caller]); (try dsimp only [yTop]); first | exact lim2 (by assumption) rfl | exact lim1 (by assumption) rfl) | (have hcL9 := cLine_is; ((try simp only [units_in1, units_deeper, Around.mark_units, units_caller] at *); (try dsimp only [yTop] at *); omega))
  k_with "y_k5" => ((case k1 => k_asm); (case k2 => k_asm); (case k3 => k_asm); (case k4 => k_asm); (case k5 => k_asm))
  k_with "y_args" => (k_extra "y_k5"; (case kK => first | exact rfl | assumption); (case kH => first | exact Or.inl rfl | exact Or.inr rfl | assumption); (case kT => first | exact Nat.zero_le _ | (dsimp only at *; omega)); (case kd => ktr_room); (case ku => ktr_units))
  k_with "eval ListComp" => (k_here; refine stop_ ?_)
  k_with "compareOp NotEq ref ref" => (k_here; refine stop_ ?_)
  k_with "execs cons" => (k_here; (with_reducible show wpAny _ _ (execs (PySem.Stmt.If _ _ _ _ :: _) _) _ _ _); refine stop_ ?_)
  k_with "call ref" => (k_here; k_dflt (refine' conV_use (con_isB _ _ _ _) ?k1 ?k2 ?k3 ?k4 ?k5 ?kK ?kH ?kT ?kd ?ku ?_; k_extra "y_args"; intro t9 h9 tk9 T9 F9 N9; (try dsimp only); (try k_fold)))
  k_with "subscriptTail Name Name ref int" => (k_here; k_dflt (first | (refine' sub4R ?iNv4 ?iMv4 ?i0v4 ?_ ?i3v4; (case iNv4 => k_asm); (case iMv4 => k_mem); (case i0v4 => assumption); (case i3v4 => with_unfolding_all rfl)) | (refine' subRow ?iNv4 ?iMv4 ?i0v4 ?_ ?i3v4; (case iNv4 => k_asm); (case iMv4 => k_mem); (case i0v4 => assumption); (case i3v4 => with_unfolding_all rfl)) | (refine' sub4I ?iNv4 ?iMv4 ?i0v4 ?_ ?i3v4; (case iNv4 => k_asm); (case iMv4 => k_mem); (case i0v4 => assumption); (case i3v4 => with_unfolding_all rfl))); (try dsimp only); (try k_fold))
  k_with "subscriptTail Subscript Name ref int" => (k_here; k_dflt (refine' subRow ?iNv5 ?iMv5 ?i0v5 ?_ ?i3v5; (case iNv5 => k_asm); (case iMv5 => k_mem); (case i0v5 => assumption); (case i3v5 => with_unfolding_all rfl)); (try dsimp only); (try k_fold))
  intro w mean mg mb dp un gd L fa cdv A₀ h₀ sa c0 c1 c2 c3 k0 k1 k2 k3 ca ta ua da r0 r1 r2 r3 a0 a1 a2 a3 b0 b1 b2 b3 e0 e1 e2 e3 n1 n2 n3 n4 o1 o2 o3 o4  s Q E B F X N d4 d3 d2 d1 g0 g1 g2 g3 lda lr0 lr1 lr2 lr3 lua lta lca  Tp hdp hun hret
  have hs9 : ∀ i : Nat, i < 4 → SignOk ((nth4 c0 c1 c2 c3 i).fmod 8).toNat (nth4 k0 k1 k2 k3 i) := fun i hi => by
    rcases i with _ | _ | _ | _ | i
    · exact g0
    · exact g1
    · exact g2
    · exact g3
    · omega
  k_steps
  unfold Stop
  rename Fr _ _ _ _ => lF'
  refine' listcompK lF' ?c1 ?c2 ?c3 ?c4 ?c5 ?c6 ?_ ?c7
  case c1 => with_unfolding_all rfl
  case c2 => intro z; rfl
  case c3 => intro z; rfl
  case c4 => exact rfl
  case c5 => decide
  case c6 => exact rfl
  case c7 => intro z; rfl
  k_steps
  rename News _ _ _ _ => lN'
  rename Fr _ _ _ _ => lF8
  k_dflt (refine' CompK.intro (fun i ex v => RowR ex v [true, true, true, true, true, true, true]) ?zm ?zh lF8 lN' ?zl ?zn ?tu ?dn)
  case zm => exact fun i ex ex' v hs h => h.mono hs
  case zh => exact rfl
  case zl => exact .range (n := 4) (by assumption) (by decide) (by decide)
  case zn => exact (by decide : 4 ≤ sizeLine)
  case tu =>
    rintro I C D Kc i v oI oC oK mC ys ex nw h tk E' hID hDC hCK hi hP hl9 hX hsub dK oc F N ap hK hS hR2
    obtain ⟨tz, rfl⟩ := hP
    rw [Int.zero_add] at dK
    have hrow : (nth4 r0 r1 r2 r3 i, rowO (nth4 k0 k1 k2 k3 i)) ∈ nw := hsub _ (by
      rcases i with _ | _ | _ | _ | i
      · k_mem
      · k_mem
      · k_mem
      · k_mem
      · omega)
    have hgi := hs9 i hi
    clear lF8 lN' SC hret
    dsimp only at *
    k_steps
    unfold Stop
    rename Fr _ _ _ _ => lF'
    refine' listcomp1 lF' ?c1 ?c2 ?c3 ?c4 ?c5 ?_ ?c6
    case c1 => with_unfolding_all rfl
    case c2 => decide
    case c3 => exact rfl
    case c4 => decide
    case c5 => exact rfl
    case c6 => intro z; rfl
    k_steps
    rename News _ _ _ _ => lN'
    rename Fr _ _ _ _ => lF8
    k_dflt (refine' Comp1.grow (fun j ex v => v = Value.bool true) ?ym ?yh lF8 lN' ?yl ?yn ?yt ?yd)
    case ym => exact fun j ex ex' v hs h => h
    case yh => exact rfl
    case yl => exact .range (n := 7) (by assumption) (by decide) (by decide)
    case yn => exact (by decide : 7 ≤ sizeLine)
    case yt =>
      rintro I2 C2 D2 j v2 oI2 oC2 mC2 ys2 ex2 nw2 h2 tk2 E2 hID2 hDC2 hj hP2 hl2 hX2 hsub2 oc2 hx2 F2 N2 ap2 hS2 hR3
      obtain ⟨tj, rfl⟩ := hP2
      rw [Int.zero_add] at hx2
      have hsn : ∀ q ∈ nw, q ∈ nw2 := fun q hq => hsub2 q (List.mem_cons_of_mem _ (List.mem_cons_of_mem _ (List.mem_cons_of_mem _ (List.mem_cons_of_mem _ hq))))
      have N4 := news_in (front := [_, _, _]) (xs := [(Kc, oK), (da, W.listOf #[.ref r0, .ref r1, .ref r2, .ref r3] n4), (ua, W.listOf #[.int (c0.fmod 8) e0, .int (c1.fmod 8) e1, .int (c2.fmod 8) e2, .int (c3.fmod 8) e3] n3), (L + 1 + 1 + 1, o3), (L + 1 + 1, o2), (nth4 r0 r1 r2 r3 i, rowO (nth4 k0 k1 k2 k3 i))]) N2
        (List.forall_mem_cons.mpr ⟨hsub2 _ (by k_mem), List.forall_mem_cons.mpr ⟨hsn _ (hsub _ (by k_mem)), List.forall_mem_cons.mpr ⟨hsn _ (hsub _ (by k_mem)), List.forall_mem_cons.mpr ⟨hsn _ (hsub _ (by k_mem)), List.forall_mem_cons.mpr ⟨hsn _ (hsub _ (by k_mem)), List.forall_mem_cons.mpr ⟨hsn _ hrow, List.forall_mem_nil _⟩⟩⟩⟩⟩⟩)
      simp only [List.cons_append, List.nil_append] at N4
      clear lF8 lN' N2 hsub hsub2
      dsimp only at *
      k_steps
      rename News _ _ _ _ => lN9
      rename Fr _ _ _ _ => lF9
      rw [nth4_map (fun c => Int.fmod c 8), tab_said hgi (fmod8 _).1 hj]
      exact cend_same lF9 (news_out (front := [_, _, _]) (xs := [_, _, _, _, _, _]) lN9) oc2 ap2 hS2 ⟨rfl, [], rfl, (fun p hp => nomatch hp), rfl⟩
    case yd =>
      intro D2 ys2 ex2 nw2 h2 tk2 hl2 hR3 hlt2 hD3 off2 hX2 hsub2 F2 N2
      have hy2 := trues_of hl2 hR3
      have hD4 := allLt_of hD3
      have N5 : News _ _ _ ((D2, LCg.lst ys2) :: (I, oI) :: (C, oC) :: (D, LCg.lst ys) :: (Kc, oK) :: nw) := fun p hp => N2 p (by
        rcases List.mem_cons.mp hp with rfl | hp
        · exact List.mem_cons_self ..
        · exact List.mem_cons_of_mem _ (hsub2 _ hp))
      refine cend_new F2 N5 ⟨hD4.1, hD4.2.1, hD4.2.2.1, hD4.2.2.2⟩ oc ap trivial ⟨rfl, [_], rfl, ?_, D2, 7, rfl, ?_⟩
      · intro p hp
        rw [List.mem_singleton.mp hp]
        exact hD4.2.2.2.1
      · rw [hy2]
        exact List.mem_cons_self ..
  case dn =>
    intro D2 ys ex nw h tk hl9 hR hlt hD2 off hX hsub F N
    obtain ⟨x0, x1, x2, x3, rfl, ⟨q0, z0, rfl, m0⟩, ⟨q1, z1, rfl, m1⟩, ⟨q2, z2, rfl, m2⟩, ⟨q3, z3, rfl, m3⟩⟩ := four_of (R := fun i v => RowR ex v [true, true, true, true, true, true, true]) hl9 hR
    have N2 := told_news N hX m0 m1 m2 m3
    rw [lst_eqA] at N2
    clear lF8 lN' N hsub hR hlt off hX m0 m1 m2 m3 hD2
    dsimp only at *
    k_steps
    unfold Stop
    rename News _ _ _ _ => lN9
    rename Fr _ _ _ _ => lF9
    refine' ne_rows lN9 (rows := [[true, true, true, true, true, true, true], [true, true, true, true, true, true, true], [true, true, true, true, true, true, true], [true, true, true, true, true, true, true]]) (cols := [[true, true, true, true, true, true, true], [true, true, true, true, true, true, true], [true, true, true, true, true, true, true], [true, true, true, true, true, true, true]]) ?ma ?mb ?va ?vb ?u ?_
    case ma => k_mem
    case mb => k_mem
    case va => exact .cons ⟨q0, z0, rfl, by k_mem⟩ (.cons ⟨q1, z1, rfl, by k_mem⟩ (.cons ⟨q2, z2, rfl, by k_mem⟩ (.cons ⟨q3, z3, rfl, by k_mem⟩ .nil)))
    case vb => exact .cons ⟨_, _, rfl, by k_mem⟩ (.cons ⟨_, _, rfl, by k_mem⟩ (.cons ⟨_, _, rfl, by k_mem⟩ (.cons ⟨_, _, rfl, by k_mem⟩ .nil)))
    case u => ktr_units
    rw [decide_eq_true rfl]
    dsimp only [Bool.not_true]
    have N9 : News _ _ _ [(da, W.listOf #[.ref r0, .ref r1, .ref r2, .ref r3] n4), (r0, rowO k0), (r1, rowO k1), (r2, rowO k2), (r3, rowO k3), (ua, W.listOf #[.int (c0.fmod 8) e0, .int (c1.fmod 8) e1, .int (c2.fmod 8) e2, .int (c3.fmod 8) e3] n3), (ta, W.listOf #[.str ⟨#[k0]⟩ b0, .str ⟨#[k1]⟩ b1, .str ⟨#[k2]⟩ b2, .str ⟨#[k3]⟩ b3] n2), (ca, W.listOf #[.int c0 a0, .int c1 a1, .int c2 a2, .int c3 a3] n1), (L + 1 + 1 + 1 + 1, o4), (L + 1 + 1 + 1, o3), (L + 1 + 1, o2), (L + 1, o1)] := fun p hp => lN9 p (by repeat (first | exact hp | apply List.mem_cons_of_mem))
    clear lN9
    k_steps
    unfold Stop
    exact SC w mean mg mb dp un gd L fa cdv A₀ h₀ sa c0 c1 c2 c3 k0 k1 k2 k3 ca ta ua da r0 r1 r2 r3 a0 a1 a2 a3 b0 b1 b2 b3 e0 e1 e2 e3 n1 n2 n3 n4 o1 o2 o3 o4 _ Q E B lF9 X N9 d4 d3 d2 d1 g0 g1 g2 g3 lda lr0 lr1 lr2 lr3 lua lta lca Tp hdp hun hret
end
section
set_option maxHeartbeats 4000000 in
theorem con_isS (w : World) (news : List (Addr × Obj)) (a : Addr)  : ConV false 0 w 1 28 [.ref a, .ref a] news (fun t => .bool true) := by
  w_top off
  k_with_none
  k_with "y_room" => first | ((try simp only [depth_under_make, depth_under_kw, depth_in1, depth_deeper, depth_caller]); (try dsimp only [yTop]); first | exact lim2 (by assumption) rfl | exact lim1 (by assumption) rfl | exact lim0 (by assumption)) | ((try simp only [depth_under_make, depth_under_kw, depth_in1, depth_deeper, depth_caller] at *); (try dsimp only [yTop] at *); omega)
  k_with "y_units" => first | ((try simp only [units_in1, units_deeper, Around.mark_units, units_caller]); (try dsimp only [yTop]); first | exact lim2 (by assumption) rfl | exact lim1 (by assumption) rfl) | (have hcL9 := cLine_is; ((try simp only [units_in1, units_deeper, Around.mark_units, units_caller] at *); (try dsimp only [yTop] at *); omega))
  k_with "y_k5" => ((case k1 => k_asm); (case k2 => k_asm); (case k3 => k_asm); (case k4 => k_asm); (case k5 => k_asm))
  k_with "y_eC" => ((case kA => exact rfl); (case kF => exact rfl); (case kK => assumption); k_extra "y_k5"; (case k6 => k_is); (case k7 => k_is); (case k8 => ktr_room); (case k9 => exact BindsTo.of_eq rfl); (case c2 => exact rfl); (case c3 => exact rfl); (case c4 => exact rfl))
  k_with "y_e1" => (k_extra "y_eC"; (case c5 => decide); (case kB => exact locs rfl); k_whole; intro g' L' h' FG' F' N' B' X' T'; (try dsimp only); (try k_lift B'); (try k_fold))
  k_with "compareOp Is ref ref" => (k_here; first | refine wpAny_is_ref_self ?_ | (k_dflt (refine' kto_is ?zav0 ?zbv0 ?znv0 ?zcv0 ?_; (case zav0 => exact News.get (by k_asm) (by with_reducible assumption)); (case zbv0 => exact News.get (by k_asm) (by with_reducible assumption)); (case znv0 => assumption); (case zcv0 => assumption))))
  unfold ConV
  intros
  rename_i hret
  rename_i hH hTk _ _
  obtain rfl := hH.resolve_left Bool.false_ne_true
  refine wpAny_call ?_
  k_dflt (refine' code_def (binds := [(Str.ofString "a", .ref a), (Str.ofString "b", .ref a)]) ?k1 ?k2 ?k3 ?k4 ?k5 ?kA ?kF ?kK ?k6 ?k7 ?k8 ?k9 ?kB ?_ ?c2 ?c3 ?c4 ?c5; k_extra "y_e1")
  k_steps
  all_goals (refine cb_retB hret ?e1 ?e2 ?e3; (case e2 => k_asm); (case e3 => first | k_asm | (refine' y_drop ?N ?S; (case N => k_asm); (case S => kcj_all))); (case e1 => rfl))
set_option maxHeartbeats 4000000 in
theorem con_isO (w : World) (news : List (Addr × Obj)) (a b : Addr) (oa ob : Obj) (ha : (a, oa) ∈ news) (hb : (b, ob) ∈ news) (hab : a ≠ b) (hc : oa.cls ≠ Value.type "tuple") : ConV false 0 w 1 28 [.ref a, .ref b] news (fun t => .bool false) := by
  w_top off
  k_with_none
  k_with "y_room" => first | ((try simp only [depth_under_make, depth_under_kw, depth_in1, depth_deeper, depth_caller]); (try dsimp only [yTop]); first | exact lim2 (by assumption) rfl | exact lim1 (by assumption) rfl | exact lim0 (by assumption)) | ((try simp only [depth_under_make, depth_under_kw, depth_in1, depth_deeper, depth_caller] at *); (try dsimp only [yTop] at *); omega)
  k_with "y_units" => first | ((try simp only [units_in1, units_deeper, Around.mark_units, units_caller]); (try dsimp only [yTop]); first | exact lim2 (by assumption) rfl | exact lim1 (by assumption) rfl) | (have hcL9 := cLine_is; ((try simp only [units_in1, units_deeper, Around.mark_units, units_caller] at *); (try dsimp only [yTop] at *); omega))
  k_with "y_k5" => ((case k1 => k_asm); (case k2 => k_asm); (case k3 => k_asm); (case k4 => k_asm); (case k5 => k_asm))
  k_with "y_eC" => ((case kA => exact rfl); (case kF => exact rfl); (case kK => assumption); k_extra "y_k5"; (case k6 => k_is); (case k7 => k_is); (case k8 => ktr_room); (case k9 => exact BindsTo.of_eq rfl); (case c2 => exact rfl); (case c3 => exact rfl); (case c4 => exact rfl))
  k_with "y_e1" => (k_extra "y_eC"; (case c5 => decide); (case kB => exact locs rfl); k_whole; intro g' L' h' FG' F' N' B' X' T'; (try dsimp only); (try k_lift B'); (try k_fold))
  k_with "compareOp Is ref ref" => (k_here; first | refine wpAny_is_ref_self ?_ | (k_dflt (refine' kto_is ?zav0 ?zbv0 ?znv0 ?zcv0 ?_; (case zav0 => exact News.get (by k_asm) (by with_reducible assumption)); (case zbv0 => exact News.get (by k_asm) (by with_reducible assumption)); (case znv0 => assumption); (case zcv0 => assumption))))
  unfold ConV
  intros
  rename_i hret
  rename_i hH hTk _ _
  obtain rfl := hH.resolve_left Bool.false_ne_true
  refine wpAny_call ?_
  k_dflt (refine' code_def (binds := [(Str.ofString "a", .ref a), (Str.ofString "b", .ref b)]) ?k1 ?k2 ?k3 ?k4 ?k5 ?kA ?kF ?kK ?k6 ?k7 ?k8 ?k9 ?kB ?_ ?c2 ?c3 ?c4 ?c5; k_extra "y_e1")
  k_steps
  all_goals (refine cb_retB hret ?e1 ?e2 ?e3; (case e2 => k_asm); (case e3 => first | k_asm | (refine' y_drop ?N ?S; (case N => k_asm); (case S => kcj_all))); (case e1 => rfl))
end
section
noncomputable def codesR : List Str := [Str.ofString "157", Str.ofString "267", Str.ofString "258"]
noncomputable def restsR (c : Nat) : List Str := [Str.ofString " \"" ++ ⟨#[c]⟩ ++ Str.ofString "\"", Str.ofString "-"]
noncomputable def strangeR (c : Nat) : List Str := codesR.flatMap fun a => (restsR c).map fun b => a ++ b
noncomputable def bareR (c : Nat) : List Str := [Str.ofString "257-\"" ++ ⟨#[c]⟩, Str.ofString "257 " ++ ⟨#[c]⟩ ++ ⟨#[c]⟩]
noncomputable def namesR (c1 c2 c3 : Nat) : List Str := [Str.ofString "257 \"" ++ ⟨#[c1]⟩, Str.ofString "257 \"" ++ ⟨#[c2]⟩ ++ Str.ofString "\"", Str.ofString "257 \"" ++ ⟨#[c3]⟩ ++ Str.ofString "\" \""]
noncomputable def askedR (c0 c1 c2 c3 : Nat) : List Str := strangeR c0 ++ bareR c0 ++ namesR c1 c2 c3
noncomputable def toldR (c1 c2 c3 : Nat) : List (Option Str) := [none, none, none, none, none, none, some (Str.ofString ""), some (Str.ofString ""), some ⟨#[c1]⟩, some ⟨#[c2]⟩, some ⟨#[c3]⟩]
noncomputable def datsR (c0 c1 c2 c3 : Nat) : List Dat := (strangeR c0).map (fun x => .list [.str x]) ++ [.str (Str.ofString ""), .str (Str.ofString ""), .str ⟨#[c1]⟩, .str ⟨#[c2]⟩, .str ⟨#[c3]⟩]
theorem ofs0 : Str.ofString "157" = ⟨#[49,53,55]⟩ := by decide
theorem ofs1 : Str.ofString "267" = ⟨#[50,54,55]⟩ := by decide
theorem ofs2 : Str.ofString "258" = ⟨#[50,53,56]⟩ := by decide
theorem ofs3 : Str.ofString " \"" = ⟨#[32,34]⟩ := by decide
theorem ofs4 : Str.ofString "\"" = ⟨#[34]⟩ := by decide
theorem ofs5 : Str.ofString "-" = ⟨#[45]⟩ := by decide
theorem ofs6 : Str.ofString "257-\"" = ⟨#[50,53,55,45,34]⟩ := by decide
theorem ofs7 : Str.ofString "257 " = ⟨#[50,53,55,32]⟩ := by decide
theorem ofs8 : Str.ofString "257 \"" = ⟨#[50,53,55,32,34]⟩ := by decide
theorem ofs9 : Str.ofString "\" \"" = ⟨#[34,32,34]⟩ := by decide
theorem ofs10 : Str.ofString "257" = ⟨#[50,53,55]⟩ := by decide
theorem ofs11 : Str.ofString "" = ⟨#[]⟩ := by decide
theorem sl3 (a b c : Nat) (l : List Nat) : Txt.slice ⟨(a :: b :: c :: l).toArray⟩ none (some 3) = ⟨#[a, b, c]⟩ := by
  refine str_ext ?_
  rw [show (3 : Int) = ((3 : Nat) : Int) from rfl, slice_ns]
  rfl
theorem sl5 (a b c d e : Nat) (l : List Nat) : Txt.slice ⟨(a :: b :: c :: d :: e :: l).toArray⟩ (some 3) (some 5) = ⟨#[d, e]⟩ := by
  refine str_ext ?_
  rw [show (3 : Int) = ((3 : Nat) : Int) from rfl, show (5 : Int) = ((5 : Nat) : Int) from rfl, slice_ss 3 5 (by omega)]
  rfl
theorem str_of (x : Str) (l : List Nat) (h : x.cps.toList = l) : x = ⟨l.toArray⟩ := str_ext h
theorem ok_none {x : Str} {a b c : Nat} {l : List Nat} (e : x = ⟨(a :: b :: c :: l).toArray⟩) (h : ¬ (a = 50 ∧ b = 53 ∧ c = 55)) : ReadOk x none := by
  subst e
  unfold ReadOk
  rw [sl3, ofs10]
  intro q
  injection q with q
  have q' := congrArg Array.toList q
  simp at q'
  exact h q'
theorem ok_empty {x : Str} {d e : Nat} {l : List Nat} (h : x = ⟨(50 :: 53 :: 55 :: d :: e :: l).toArray⟩) (k : ¬ (d = 32 ∧ e = 34)) : ReadOk x (some (Str.ofString "")) := by
  subst h
  unfold ReadOk
  rw [sl3, ofs10, sl5, ofs3]
  refine ⟨rfl, .inl ⟨fun q => ?_, rfl⟩⟩
  injection q with q
  have q' := congrArg Array.toList q
  simp at q'
  exact k q'
theorem ok_some {x y : Str} {l : List Nat} (h : x = ⟨(50 :: 53 :: 55 :: 32 :: 34 :: l).toArray⟩) (k : pScan l = y.cps.toList) : ReadOk x (some y) := by
  subst h
  unfold ReadOk
  rw [sl3, ofs10, sl5, ofs3]
  refine ⟨rfl, .inr ⟨rfl, str_ext ?_⟩⟩
  exact k.symm
theorem len_of {x : Str} {l : List Nat} (h : x = ⟨l.toArray⟩) (k : l.length ≤ 1000) : x.length ≤ 1000 := by
  subst h
  exact k
theorem cps_app (x y : Str) : (x ++ y).cps.toList = x.cps.toList ++ y.cps.toList := by
  rw [PySem.Str.cps_append, Array.toList_append]
theorem asked_ok {c0 c1 c2 c3 : Nat} (h0 : c0 ≠ 34) (h1 : c1 ≠ 34) (h2 : c2 ≠ 34) (h3 : c3 ≠ 34) {i : Nat} {x : Str} (h : (askedR c0 c1 c2 c3)[i]? = some x) : x.length ≤ 1000 ∧ ∃ o, ReadOk x o ∧ (datsR c0 c1 c2 c3)[i]? = some (datR x o) := by
  rcases i with _ | _ | _ | _ | _ | _ | _ | _ | _ | _ | _ | i
  · cases h
    have e : Str.ofString "157" ++ (Str.ofString " \"" ++ ⟨#[c0]⟩ ++ Str.ofString "\"") = ⟨([49, 53, 55, 32, 34, c0, 34] : List Nat).toArray⟩ := str_ext (by rw [cps_app, cps_app, cps_app, ofs0, ofs3, ofs4]; rfl)
    exact ⟨len_of e (by simp), none, ok_none e (by omega), rfl⟩
  · cases h
    have e : Str.ofString "157" ++ Str.ofString "-" = ⟨([49, 53, 55, 45] : List Nat).toArray⟩ := str_ext (by rw [cps_app, ofs0, ofs5]; rfl)
    exact ⟨len_of e (by simp), none, ok_none e (by omega), rfl⟩
  · cases h
    have e : Str.ofString "267" ++ (Str.ofString " \"" ++ ⟨#[c0]⟩ ++ Str.ofString "\"") = ⟨([50, 54, 55, 32, 34, c0, 34] : List Nat).toArray⟩ := str_ext (by rw [cps_app, cps_app, cps_app, ofs1, ofs3, ofs4]; rfl)
    exact ⟨len_of e (by simp), none, ok_none e (by omega), rfl⟩
  · cases h
    have e : Str.ofString "267" ++ Str.ofString "-" = ⟨([50, 54, 55, 45] : List Nat).toArray⟩ := str_ext (by rw [cps_app, ofs1, ofs5]; rfl)
    exact ⟨len_of e (by simp), none, ok_none e (by omega), rfl⟩
  · cases h
    have e : Str.ofString "258" ++ (Str.ofString " \"" ++ ⟨#[c0]⟩ ++ Str.ofString "\"") = ⟨([50, 53, 56, 32, 34, c0, 34] : List Nat).toArray⟩ := str_ext (by rw [cps_app, cps_app, cps_app, ofs2, ofs3, ofs4]; rfl)
    exact ⟨len_of e (by simp), none, ok_none e (by omega), rfl⟩
  · cases h
    have e : Str.ofString "258" ++ Str.ofString "-" = ⟨([50, 53, 56, 45] : List Nat).toArray⟩ := str_ext (by rw [cps_app, ofs2, ofs5]; rfl)
    exact ⟨len_of e (by simp), none, ok_none e (by omega), rfl⟩
  · cases h
    have e : Str.ofString "257-\"" ++ ⟨#[c0]⟩ = ⟨([50, 53, 55, 45, 34, c0] : List Nat).toArray⟩ := str_ext (by rw [cps_app, ofs6]; rfl)
    exact ⟨len_of e (by simp), some (Str.ofString ""), ok_empty e (by omega), rfl⟩
  · cases h
    have e : Str.ofString "257 " ++ ⟨#[c0]⟩ ++ ⟨#[c0]⟩ = ⟨([50, 53, 55, 32, c0, c0] : List Nat).toArray⟩ := str_ext (by rw [cps_app, cps_app, ofs7]; rfl)
    exact ⟨len_of e (by simp), some (Str.ofString ""), ok_empty e (by omega), rfl⟩
  · cases h
    have e : Str.ofString "257 \"" ++ ⟨#[c1]⟩ = ⟨([50, 53, 55, 32, 34, c1] : List Nat).toArray⟩ := str_ext (by rw [cps_app, ofs8]; rfl)
    exact ⟨len_of e (by simp), some ⟨#[c1]⟩, ok_some e (by rw [pScan_plain h1]; rfl), rfl⟩
  · cases h
    have e : Str.ofString "257 \"" ++ ⟨#[c2]⟩ ++ Str.ofString "\"" = ⟨([50, 53, 55, 32, 34, c2, 34] : List Nat).toArray⟩ := str_ext (by rw [cps_app, cps_app, ofs8, ofs4]; rfl)
    exact ⟨len_of e (by simp), some ⟨#[c2]⟩, ok_some e (by rw [pScan_plain h2]; rfl), rfl⟩
  · cases h
    have e : Str.ofString "257 \"" ++ ⟨#[c3]⟩ ++ Str.ofString "\" \"" = ⟨([50, 53, 55, 32, 34, c3, 34, 32, 34] : List Nat).toArray⟩ := str_ext (by rw [cps_app, cps_app, ofs8, ofs9]; rfl)
    exact ⟨len_of e (by simp), some ⟨#[c3]⟩, ok_some e (by rw [pScan_plain h3]; rfl), rfl⟩
  · simp [askedR, strangeR, codesR, restsR, bareR, namesR] at h
theorem strange_ok {c0 : Nat} (g0 : c0 < 1114112) {x : Str} (h : x ∈ strangeR c0) : PyData.strOk x = true := by
  obtain ⟨i, hi⟩ := List.getElem?_of_mem h
  have k : ∀ l : List Nat, x = ⟨l.toArray⟩ → (∀ c ∈ l, c < 1114112) → PyData.strOk x = true := fun l e q => by
    subst e
    simp only [PyData.strOk, List.all_toArray, List.all_eq_true, decide_eq_true_eq]
    exact q
  have q : ∀ (l r : List Nat), (∀ c ∈ l ++ c0 :: r, c = c0 ∨ c < 1114112) → ∀ c ∈ l ++ c0 :: r, c < 1114112 := fun l r h c hc => by
    rcases h c hc with rfl | h
    · exact g0
    · exact h
  rcases i with _ | _ | _ | _ | _ | _ | i
  · cases hi
    exact k [49, 53, 55, 32, 34, c0, 34] (str_ext (by rw [cps_app, cps_app, cps_app, ofs0, ofs3, ofs4]; rfl)) (by simp [g0])
  · cases hi
    exact k [49, 53, 55, 45] (str_ext (by rw [cps_app, ofs0, ofs5]; rfl)) (by simp)
  · cases hi
    exact k [50, 54, 55, 32, 34, c0, 34] (str_ext (by rw [cps_app, cps_app, cps_app, ofs1, ofs3, ofs4]; rfl)) (by simp [g0])
  · cases hi
    exact k [50, 54, 55, 45] (str_ext (by rw [cps_app, ofs1, ofs5]; rfl)) (by simp)
  · cases hi
    exact k [50, 53, 56, 32, 34, c0, 34] (str_ext (by rw [cps_app, cps_app, cps_app, ofs2, ofs3, ofs4]; rfl)) (by simp [g0])
  · cases hi
    exact k [50, 53, 56, 45] (str_ext (by rw [cps_app, ofs2, ofs5]; rfl)) (by simp)
  · simp [strangeR, codesR, restsR] at hi
theorem one_ok {c : Nat} (g : c < 1114112) : PyData.strOk ⟨#[c]⟩ = true := by
  simp [PyData.strOk, g]
theorem dats_ok {c0 c1 c2 c3 : Nat} (g0 : c0 < 1114112) (g1 : c1 < 1114112) (g2 : c2 < 1114112) (g3 : c3 < 1114112) : ∀ d ∈ datsR c0 c1 c2 c3, kqdOk 8 d = true := fun d hd => by
  rcases List.mem_append.mp hd with hd | hd
  · obtain ⟨x, hx, rfl⟩ := List.mem_map.mp hd
    simp only [kqdOk, List.all_cons, List.all_nil, Bool.and_true]
    exact strange_ok g0 hx
  · simp only [List.mem_cons, List.not_mem_nil, or_false] at hd
    rcases hd with rfl | rfl | rfl | rfl | rfl
    · exact (by rw [ofs11]; simp [PyData.strOk] : PyData.strOk (Str.ofString "") = true)
    · exact (by rw [ofs11]; simp [PyData.strOk] : PyData.strOk (Str.ofString "") = true)
    · exact one_ok g1
    · exact one_ok g2
    · exact one_ok g3
end
section
theorem strange_step {i c : Nat} {cd : Str} (h : codesR[i]? = some cd) : (strangeR c).take (2 * (i + 1)) = (strangeR c).take (2 * i) ++ (restsR c).map fun b => cd ++ b := by
  rcases i with _ | _ | _ | i
  · cases h; rfl
  · cases h; rfl
  · cases h; rfl
  · simp [codesR] at h
theorem strs_of {g : Str → Str} : ∀ {us : List Value} {l : List Str}, us.length = l.length → (∀ (j : Nat) v, us[j]? = some v → ∃ b t, l[j]? = some b ∧ v = .str (g b) t) → StrsAre us (l.map g)
  | [], [], _, _ => .nil
  | [], _ :: _, h, _ => by simp at h
  | _ :: _, [], h, _ => by simp at h
  | u :: us, b :: l, h, k => by
    obtain ⟨b', t, e, q⟩ := k 0 u rfl
    cases e
    exact .cons ⟨t, q⟩ (strs_of (by simpa using h) fun j v e => k (j + 1) v e)
theorem codes_len {i : Nat} {cd : Str} (h : codesR[i]? = some cd) : cd.length ≤ 10 := by
  rcases i with _ | _ | _ | i
  · cases h; decide
  · cases h; decide
  · cases h; decide
  · simp [codesR] at h
theorem rests_len {i c : Nat} {b : Str} (h : (restsR c)[i]? = some b) : b.length ≤ 10 := by
  rcases i with _ | _ | i
  · cases h
    rw [PySem.Str.length_append, PySem.Str.length_append]
    exact (by decide : 2 + 1 + 1 ≤ 10)
  · cases h; decide
  · simp [restsR] at h
theorem list_addM {prog : Program} {w : World} {A : Around} {E : Value → Shared → Prop} {s : Shared} {h₀ : Heap} {L a b : Addr} {m : Str → Option Value} {news : List (Addr × Obj)} {vs ws : List Value} {i j : Nat} {Q : Value → Shared → Prop}
    (F : Fr h₀ L s.heap m) (N : News h₀ L s.heap news) (ha : (a, W.listOf vs.toArray i) ∈ news) (hb : (b, W.listOf ws.toArray j) ∈ news) (hz : vs.length + ws.length ≤ sizeLine)
    (h : ∀ D h', Fr h₀ L h' m → News h₀ L h' ((D, W.listOf (vs ++ ws).toArray 0) :: news) → (∀ p ∈ news, p.1 < D) → Q (.ref D) { s with heap := h' }) :
    wpAny (model prog w) A (binaryOp .Add (.ref a) (.ref b)) Q E s :=
  add_lists F N (N.isList ha) (N.isList hb) (fun h' F' N' => h _ h' F' N' fun p hp => Heap.lt_size (N p hp).1) hz
theorem lst_eq (ys : List Value) : LCg.lst ys = W.listOf ys.toArray ys.length := rfl
theorem of_news {h₀ h : Heap} {L D : Addr} {vs : List Value} {n : Nat} {nw : List (Addr × Obj)} {P : List Value → Prop} (_N : News h₀ L h ((D, W.listOf vs.toArray n) :: nw)) (hp : P vs) : P vs := hp
theorem news_mem2 {h₀ h : Heap} {L : Addr} {x p p' : Addr × Obj} {nw : List (Addr × Obj)} (N : News h₀ L h (x :: nw)) (hp : p ∈ nw) (hp' : p' ∈ nw) : News h₀ L h (x :: p :: p' :: nw) := fun q hq => N q (by
  simp only [List.mem_cons] at hq ⊢
  rcases hq with h | h | h | h
  · exact .inl h
  · exact .inr (h ▸ hp)
  · exact .inr (h ▸ hp')
  · exact .inr h)
theorem slice_rest (a b c d : Value) : (slicePick #[a, b, c, d] (some 1) none none).toList = [b, c, d] := by
  rw [kmk_pick_nat (a := 1) (b := 4) _ rfl]
  rfl
theorem bareR_are (c : Nat) (t u : Tok) : StrsAre [.str (Str.ofString "257-\"" ++ ⟨#[c]⟩) t, .str (Str.ofString "257 " ++ ⟨#[c]⟩ ++ ⟨#[c]⟩) u] (bareR c) := .cons ⟨_, rfl⟩ (.cons ⟨_, rfl⟩ .nil)
theorem namesR_are (a b c : Nat) (t u v : Tok) : StrsAre [.str (Str.ofString "257 \"" ++ ⟨#[a]⟩) t, .str (Str.ofString "257 \"" ++ ⟨#[b]⟩ ++ Str.ofString "\"") u, .str (Str.ofString "257 \"" ++ ⟨#[c]⟩ ++ Str.ofString "\" \"") v] (namesR a b c) := .cons ⟨_, rfl⟩ (.cons ⟨_, rfl⟩ (.cons ⟨_, rfl⟩ .nil))
theorem inner_newsC {h₀ h : Heap} {L I C D l : Addr} {o oI oC oD : Obj} {x : Addr × Obj} {nw : List (Addr × Obj)} (N : News h₀ L h ((l, o) :: (I, oI) :: (C, oC) :: (D, oD) :: x :: nw)) : News h₀ L h ((I, oI) :: (C, oC) :: (D, oD) :: (l, o) :: nw) := fun p hp => N p (by
  simp only [List.mem_cons] at hp ⊢
  rcases hp with h | h | h | h | h
  · exact .inr (.inl h)
  · exact .inr (.inr (.inl h))
  · exact .inr (.inr (.inr (.inl h)))
  · exact .inl h
  · exact .inr (.inr (.inr (.inr (.inr h)))))
theorem inner_apartC {I C D l : Addr} {P : Prop} {o : Obj} {nw : List (Addr × Obj)} (lt : I < l ∧ C < l ∧ D < l ∧ P ∧ AllLt l nw) (ap : Apart I C D nw) : Apart I C D ((l, o) :: nw) :=
  ⟨ap.1, ap.2.1, ap.2.2.1, fun p hp => by
    rcases List.mem_cons.mp hp with rfl | hp
    · exact ⟨neGt lt.1, neGt lt.2.1, neGt lt.2.2.1⟩
    · exact ap.2.2.2 p hp⟩
theorem news_more {h₀ h : Heap} {L : Addr} {x y z p : Addr × Obj} {nw : List (Addr × Obj)} (N : News h₀ L h (x :: y :: z :: nw)) (hp : p ∈ nw) : News h₀ L h (x :: y :: z :: p :: nw) := fun q hq => N q (by
  simp only [List.mem_cons] at hq ⊢
  rcases hq with h | h | h | h | h
  · exact .inl h
  · exact .inr (.inl h)
  · exact .inr (.inr (.inl h))
  · exact .inr (.inr (.inr (h ▸ hp)))
  · exact .inr (.inr (.inr h)))
set_option maxHeartbeats 4000000 in
theorem con_replies (w : World) (news : List (Addr × Obj)) (ta : Addr) (c0 c1 c2 c3 n : Nat) (t0 t1 t2 t3 : Tok) (hm : (ta, W.listOf #[.str ⟨#[c0]⟩ t0, .str ⟨#[c1]⟩ t1, .str ⟨#[c2]⟩ t2, .str ⟨#[c3]⟩ t3] n) ∈ news) (h0 : c0 ≠ 34) (h1 : c1 ≠ 34) (h2 : c2 ≠ 34) (h3 : c3 ≠ 34) (g0 : c0 < 1114112) (g1 : c1 < 1114112) (g2 : c2 < 1114112) (g3 : c3 < 1114112) : ConS false 0 w 12 285 [.ref ta] news (fun tl r => r = .bool true ∧ tl = []) := by
  w_top off
  k_with_none
  k_with "y_room" => first | ((try simp only [depth_under_make, depth_under_kw, depth_in1, depth_deeper, depth_caller]); (try dsimp only [yTop]); first | exact lim2 (by assumption) rfl | exact lim1 (by assumption) rfl | exact lim0 (by assumption)) | ((try simp only [depth_under_make, depth_under_kw, depth_in1, depth_deeper, depth_caller] at *); (try dsimp only [yTop] at *); omega)
  k_with "y_units" => first | ((try simp only [units_in1, units_deeper, Around.mark_units, units_caller]); (try dsimp only [yTop]); first | exact lim2 (by assumption) rfl | exact lim1 (by assumption) rfl) | (have hcL9 := cLine_is; ((try simp only [units_in1, units_deeper, Around.mark_units, units_caller] at *); (try dsimp only [yTop] at *); omega))
  k_with "y_k5" => ((case k1 => k_asm); (case k2 => k_asm); (case k3 => k_asm); (case k4 => k_asm); (case k5 => k_asm))
  k_with "y_args" => (k_extra "y_k5"; (case kK => first | exact rfl | assumption); (case kH => first | exact Or.inl rfl | exact Or.inr rfl | assumption); (case kT => first | exact Nat.zero_le _ | (dsimp only at *; omega)); (case kd => ktr_room); (case ku => ktr_units))
  k_with "y_eSC" => ((case kA => exact rfl); (case kF => exact rfl); (case kK => assumption); (case k2 => k_asm); (case k1 => k_asm); (case XB => assumption); (case TB => assumption); (case DD => assumption); (case k3 => k_asm); (case k4 => k_asm); (case k5 => k_asm); (case k6 => k_is); (case k7 => k_is); (case k8 => ktr_room); (case k9 => exact BindsTo.of_eq rfl); (case kB => exact rfl); (case kD => decide +kernel); (case c2 => exact rfl); (case c3 => exact rfl); (case c4 => exact rfl); k_whole; intro g' L' h' tk' cells' FG' F' N' Y' B' X' T' D' l1; (try k_lt l1); k_cells Y'; (try simp only [List.cons_append, List.nil_append] at N'); (try dsimp only); (try k_lift B'); (try k_fold))
  k_with "eval ListComp" => (k_here; refine stop_ ?_)
  k_with "exec Assign Name ListComp" => (k_here; refine stop_ ?_)
  k_with "y_sub" => first | with_reducible assumption | (refine List.mem_cons_of_mem _ ?_; k_extra "y_sub")
  k_with "subscriptTail Name Constant ref int" => (k_here; k_dflt (refine' item_mem ?iNv4 ?iMv4 ?i0v4 ?i1v4 ?i2v4 ?_ ?i3v4; (case iNv4 => k_asm); (case iMv4 => k_extra "y_sub"); (case i0v4 => decide); (case i1v4 => decide); (case i2v4 => rfl); (case i3v4 => with_unfolding_all rfl); (try dsimp only); (try k_fold)))
  k_with "y_sz" => ((have hsz9 : 100 ≤ sizeLine := by decide); (simp only [List.length_append, List.length_cons, List.length_nil, (by assumption : List.length _ = 6)]); omega)
  k_with "binaryOp Add ref ref" => (k_here; (with_reducible show wpAny _ _ (binaryOp _ (Value.ref _) (Value.ref _)) _ _ _); k_dflt (refine' list_addM ?Fv6 ?Nv6 ?av6 ?bv6 ?zv6 ?_; (case Fv6 => k_asm); (case Nv6 => k_asm); (case av6 => k_extra "y_sub2"); (case bv6 => k_extra "y_sub2"); (case zv6 => k_extra "y_sz")); intro D' h' F' N' l1; (try k_lt l1); (try dsimp only); (try k_fold))
  k_with "y_sub2" => first | exact List.mem_cons_self .. | with_reducible assumption | (refine List.mem_cons_of_mem _ ?_; k_extra "y_sub2")
  k_with "subscriptTail Name Slice ref ref" => (k_here; (with_reducible show wpAny _ _ (subscriptTail _ (PySem.Expr.Slice _ _ none _) (Value.ref _) (Value.ref _)) _ _ _); k_dflt (refine' kmk_slice_lit ?Fv8 ?Nv8 ?lv8 ?pv8 ?qv8 ?ev8 ?_ ?sv8 ?tv8 ?zv8; (case Fv8 => k_asm); (case Nv8 => k_asm); (case lv8 => exact News.isList (by k_asm) (by k_extra "y_sub2")); (case pv8 => kmk_part); (case qv8 => kmk_part); (case ev8 => exact slice_rest _ _ _ _); (case sv8 => with_unfolding_all rfl); (case tv8 => kmk_pure); (case zv8 => exact (by decide : 4 ≤ sizeLine))); intro D' h' F' N' l1; (try k_lt l1); (try dsimp only); (try k_fold))
  k_with "compareOp Eq ref ref" => (k_here; refine stop_ ?_)
  k_with "call ref" => (k_here; k_dflt (refine' conS_use (con_read _ _ _ _ _ (by assumption) (by assumption)) ?k1 ?k2 ?k3 ?k4 ?k5 ?XB ?TB ?DD ?T0 ?kK ?kH ?kT ?kd ?ku ?_; k_extra "y_args"; (case XB => assumption); (case TB => assumption); (case DD => assumption); (case T0 => first | assumption | exact KtsTurn.refl); intro r9 tl9 h9 g9 tk9 T9 P9 l9 K9 F9 N9 B9 X9 Q9 D9; (try dsimp only); (try k_lift B9); refine stop_ ?_))
  unfold ConS
  intros
  rename_i hret
  rename_i hH hTk _ _
  obtain rfl := hH.resolve_left Bool.false_ne_true
  refine wpAny_call ?_
  k_dflt (refine' code_defXC (binds := [(Str.ofString "typed", .ref ta)]) ?k1 ?k2 ?k3 ?k4 ?k5 ?XB ?TB ?DD ?kA ?kF ?kK ?k6 ?k7 ?k8 ?k9 ?kB ?kD ?_ ?c2 ?c3 ?c4; k_extra "y_eSC")
  k_steps
  walk_at "exec Assign Name ListComp"
  unfold Stop
  rename Fr _ _ _ _ => lF'
  refine' listcomp2A lF' ?c1 ?c2 ?c3 ?c4 ?c5 ?c6 ?c7 ?c8 ?c9 ?c10 ?c11 ?c12 ?_ ?c13
  case c1 => exact rfl
  case c2 => exact rfl
  case c3 => with_unfolding_all rfl
  case c4 => decide
  case c5 => exact rfl
  case c6 => decide
  case c7 => exact rfl
  case c8 => exact rfl
  case c9 => decide
  case c10 => intro C z; rfl
  case c11 => exact rfl
  case c12 => exact rfl
  case c13 => intro z; rfl
  k_steps
  rename News _ _ _ _ => lN'
  rename Fr _ _ _ _ => lF8
  k_dflt (refine' Comp2.still (fun i ys => StrsAre ys ((strangeR c0).take (2 * i))) ?zh lF8 lN' ?zl ?zn ?tu ?dn)
  case zh => exact rfl
  case zl => exact .list (List.mem_cons_self ..)
  case zn => exact .nil
  case tu =>
    rintro I C D i v oI oC mC ys nw h tk E' hID hDC hi hP hR hsub oc hx F N ap hS
    have hcd : ∃ cd t, codesR[i]? = some cd ∧ v = .str cd t := by
      rcases i with _ | _ | _ | i
      · exact ⟨_, _, rfl, by simpa using hP.symm⟩
      · exact ⟨_, _, rfl, by simpa using hP.symm⟩
      · exact ⟨_, _, rfl, by simpa using hP.symm⟩
      · exact absurd (show i + 3 < 3 from hi) (by omega)
    obtain ⟨cd, tcd, hcd, rfl⟩ := hcd
    have hcell := hsub _ (List.mem_cons_of_mem _ (List.mem_cons_self ..))
    have hmw := hsub _ (List.mem_cons_of_mem _ (List.mem_cons_of_mem _ hm))
    rename _ = Data.cell _ => d9
    replace d9 : _ = Data.cell (some (.ref ta)) := d9
    have N2 : News _ _ _ (_ :: _ :: _ :: (_ : Addr × Obj) :: nw) := news_more N hcell
    clear lF8 lN' N
    dsimp only at *
    k_steps
    k_dflt (refine' Inner2.mapped (fun j z => ∃ b t, (restsR c0)[j]? = some b ∧ z = .str (cd ++ b) t) ?zf (inner_newsC ?zn) oc (inner_apartC ?za ap) (List.mem_cons_of_mem _ hS) ?zc ?zl ?zt ?zg; (case zf => k_asm); (case zn => k_asm); (case za => assumption); (case zc => exact .list (List.mem_cons_of_mem _ (List.mem_cons_self ..))))
    case zl =>
      have hl9 := hR.length
      rw [hl9, List.length_take]
      have : 100 ≤ sizeLine := by decide
      simp only [List.size_toArray, List.length_cons, List.length_nil]
      have : (strangeR c0).length = 6 := rfl
      omega
    case zt =>
      rintro j v₂ I₂ o₂ oC mC zs h tk E' hj hP2 oc hx hy F N ap2 hS hS2
      have hb : ∃ b t, (restsR c0)[j]? = some b ∧ v₂ = .str b t := by
        rcases j with _ | _ | j
        · exact ⟨_, _, rfl, by simpa using hP2.symm⟩
        · exact ⟨_, _, rfl, by simpa using hP2.symm⟩
        · exact absurd (show j + 2 < 2 from hj) (by omega)
      obtain ⟨b, tb, hb, rfl⟩ := hb
      have hL1 : cd.length ≤ 10 := codes_len hcd
      have hL2 : b.length ≤ 10 := rests_len hb
      dsimp only at *
      k_steps
      all_goals first | exact F | exact N
    case zg =>
      intro us hul hus
      refine ⟨rfl, fun q hq => List.mem_cons_of_mem _ (hsub q hq), ?_⟩
      rw [strange_step hcd]
      exact all2_app hR (strs_of hul hus)
  case dn =>
    intro D ys nw h tk hR hsub hD F N
    have hcell := hsub _ (List.mem_cons_of_mem _ (List.mem_cons_self ..))
    have hmw := hsub _ (List.mem_cons_of_mem _ (List.mem_cons_of_mem _ hm))
    rename _ = Data.cell _ => d9
    replace d9 : _ = Data.cell (some (.ref ta)) := d9
    have N2 : News _ _ _ ((_ : Addr × Obj) :: (D, LCg.lst ys) :: news) := fun q hq => N q (by
      rcases List.mem_cons.mp hq with rfl | hq
      · exact List.mem_cons_of_mem _ hcell
      · rcases List.mem_cons.mp hq with rfl | hq
        · exact List.mem_cons_self ..
        · exact List.mem_cons_of_mem _ (hsub _ (List.mem_cons_of_mem _ (List.mem_cons_of_mem _ hq))))
    rw [lst_eq] at N2
    replace hR : StrsAre ys (strangeR c0) := hR
    have hlR : ys.length = 6 := hR.length
    clear lF8 lN' N hsub
    dsimp only at *
    k_steps
    unfold Stop
    rename Fr _ _ _ _ => lF'
    refine' listcomp1 lF' ?c1 ?c2 ?c3 ?c4 ?c5 ?_ ?c6
    case c1 => with_unfolding_all rfl
    case c2 => decide
    case c3 => exact rfl
    case c4 => decide
    case c5 => exact rfl
    case c6 => intro z; rfl
    k_steps
    rename News _ _ _ _ => lN'
    have hW := of_news (P := fun ws => StrsAre ws (askedR c0 c1 c2 c3)) lN' (all2_app (all2_app hR (bareR_are _ _ _)) (namesR_are _ _ _ _ _ _))
    rename Fr _ _ _ _ => lF8
    have hwl := hW.length
    k_dflt (refine' Comp1.growG (Grounds w _ _ _ _ _ _ _ _) ?zG (fun i ex v => ∃ d, (datsR c0 c1 c2 c3)[i]? = some d ∧ DatIn ex v d) ?zm ?zh lF8 lN' ?zl ?zn ?tu ?dn)
    case zm =>
      rintro i ex ex' v hs ⟨d, hd, hv⟩
      exact ⟨d, hd, hv.mono hs⟩
    case zh => exact rfl
    case zl => exact .list (List.mem_cons_self ..)
    case zn =>
      rw [List.size_toArray, hwl]
      exact (by decide : 11 ≤ sizeLine)
    case zG => exact ⟨by first | assumption | exact KtsTurn.refl, by assumption, by assumption, by assumption, by assumption⟩
    case tu =>
      rintro I C D i v oI oC mC zs ex nw g h tk E' ⟨G1, G2, G3, G4, G5⟩ hID hDC hi hP hl hX hsub oc hx F N ap hS hR2
      obtain ⟨x, hxa, tx, rfl⟩ := hW.get (by simpa using hP)
      obtain ⟨hxl, o, hxo, hxd⟩ := asked_ok h0 h1 h2 h3 hxa
      clear lF8 lN'
      dsimp only at *
      k_steps
      rename_i r9 tl9 h9 g9 tk9 T9 P9 l9 K9 F9 N9 B9 X9 Q9 D9
      unfold Stop
      exact cend_calls F9 N9 l9 oc ap (List.mem_append_right _ hS) ⟨⟨K9, B9, X9, Q9, D9⟩, tl9, rfl, fun p hp => l9 p hp _ (List.mem_cons_self ..), _, hxd, P9.mono fun q hq => List.mem_append_left _ hq⟩
    case dn =>
      intro D2 zs ex nw2 g h tk hG hl hR2 hlt hD2 off hX hsub F N
      obtain ⟨G1, G2, G3, G4, G5⟩ := hG
      rw [lst_eq] at N
      have hzs : DatAll nw2 zs (datsR c0 c1 c2 c3) := datAll_of (hl.trans (by rw [List.size_toArray, hwl]; rfl)) fun i v e => by
        obtain ⟨d, hd, hv⟩ := hR2 i v e
        exact ⟨d, hd, hv.mono fun q hq => hX ▸ List.mem_append_left _ hq⟩
      have hsn : ∀ q ∈ news, q ∈ nw2 := fun q hq => hsub q (by iterate 6 apply List.mem_cons_of_mem
                                                               exact hq)
      have hcell2 := hsub (_, _) (List.mem_cons_of_mem _ (List.mem_cons_of_mem _ (List.mem_cons_of_mem _ (List.mem_cons_of_mem _ (List.mem_cons_self ..)))))
      have hstr2 := hsub (_, _) (List.mem_cons_of_mem _ (List.mem_cons_of_mem _ (List.mem_cons_of_mem _ (List.mem_cons_of_mem _ (List.mem_cons_of_mem _ (List.mem_cons_self ..))))))
      have hmt2 := hsn _ hm
      have N2 : News _ _ _ ((D2, _) :: (_, _) :: (_, _) :: nw2) := news_mem2 N hcell2 hstr2
      clear lF8 lN' N hsub hlt off
      dsimp only at *
      k_steps
      unfold Stop
      rename Fr _ _ _ _ => lF'
      refine' listcomp1 lF' ?c1 ?c2 ?c3 ?c4 ?c5 ?_ ?c6
      case c1 => with_unfolding_all rfl
      case c2 => decide
      case c3 => exact rfl
      case c4 => decide
      case c5 => exact rfl
      case c6 => intro z; rfl
      k_steps
      rename News _ _ _ _ => lN'
      rename Fr _ _ _ _ => lF8
      k_dflt (refine' Comp1.grow (fun i ex v => ∃ x, (strangeR c0)[i]? = some x ∧ DatIn ex v (.list [.str x])) ?zm ?zh lF8 lN' ?zl ?zn ?tu ?dn)
      case zm =>
        rintro i ex ex' v hs ⟨x, hd, hv⟩
        exact ⟨x, hd, hv.mono hs⟩
      case zh => exact rfl
      case zl => exact .list (List.mem_cons_of_mem _ (List.mem_cons_of_mem _ (List.mem_cons_self ..)))
      case zn =>
        rw [List.size_toArray, hlR]
        exact (by decide : 6 ≤ sizeLine)
      case tu =>
        rintro I C D i v oI oC mC us ex2 nw3 h tk E' hID hDC hi hP hl9 hX3 hsub3 oc hx F N ap hS hR3
        obtain ⟨x, hxa, tx, rfl⟩ := hR.get (by simpa using hP)
        clear lF8 lN'
        dsimp only at *
        k_steps
        refine cend_new (by assumption) (by assumption) (by assumption) oc ap (List.mem_cons_of_mem _ hS) ⟨rfl, [_], rfl, fun p hp => ?_, x, hxa, .list (vs := [.str x tx]) (List.mem_cons_self ..) (.cons (.str _ _) .nil)⟩
        rw [List.mem_singleton.mp hp]
        exact (by assumption : I < _ ∧ C < _ ∧ D < _ ∧ AllLt _ _).1
      case dn =>
        intro D3 us ex2 nw3 h tk hl9 hR3 hlt3 hD3 off3 hX3 hsub3 F N
        rw [lst_eq] at N
        have hus : DatAll nw3 us ((strangeR c0).map fun x => .list [.str x]) := datAll_of (hl9.trans (by rw [List.size_toArray, hlR]; rfl)) fun i v e => by
          obtain ⟨x, hx, hv⟩ := hR3 i v e
          exact ⟨_, by rw [List.getElem?_map, hx]; rfl, hv.mono fun q hq => hX3 ▸ List.mem_append_left _ hq⟩
        have hsn3 : ∀ q ∈ nw2, q ∈ nw3 := fun q hq => hsub3 q (List.mem_cons_of_mem _ (List.mem_cons_of_mem _ (List.mem_cons_of_mem _ hq)))
        have hlu : us.length = 6 := hl9.trans (by rw [List.size_toArray, hlR])
        have hz3 := hsub3 (_, _) (List.mem_cons_self ..)
        have hcell3 := hsn3 _ hcell2
        have hmt3 := hsn3 _ hmt2
        have hzs3 := hzs.mono hsn3
        have N3 : News _ _ _ ((D3, _) :: (_, _) :: (_, _) :: nw3) := news_mem2 N hz3 hcell3
        clear lF8 lN' N hsub3 hlt3 off3
        dsimp only at *
        k_steps
        unfold Stop
        rename News _ _ _ _ => lN9
        have hr := of_news (P := fun ws => DatAll nw3 ws ((((strangeR c0).map fun x => Dat.list [.str x]) ++ [.str (Str.ofString ""), .str (Str.ofString "")]) ++ [.str ⟨#[c1]⟩, .str ⟨#[c2]⟩, .str ⟨#[c3]⟩])) lN9 ((hus.append (.cons (.str _ _) (.cons (.str _ _) .nil))).append (.cons (.str _ _) (.cons (.str _ _) (.cons (.str _ _) .nil))))
        replace hr : DatAll nw3 _ (datsR c0 c1 c2 c3) := hr
        refine' kqd_eq (n₁ := nw3) (n₂ := nw3) lN9 (oa := W.listOf zs.toArray zs.length) ?ma rfl rfl hzs3 ?sa (List.mem_cons_self ..) rfl rfl hr ?sb (dats_ok g0 g1 g2 g3) (dats_ok g0 g1 g2 g3) ?u ?_
        case ma => k_extra "y_sub2"
        case sa => exact fun p hp => by k_extra "y_sub2"
        case sb => exact fun p hp => by k_extra "y_sub2"
        case u => (have hcL9 := cLine_is; (try simp only [units_in1, units_deeper, Around.mark_units, units_caller] at *); (try dsimp only [yTop] at *); omega)
        have e9 : ∀ (i : Decidable (datsR c0 c1 c2 c3 = datsR c0 c1 c2 c3)), @decide _ i = true := fun i => decide_eq_true rfl
        rw [e9]
        have hs9 : ∀ q ∈ news, q ∈ nw3 := fun q hq => hsn3 q (hsn q hq)
        have N9 : News _ _ _ nw3 := fun q hq => lN9 q (by k_extra "y_sub2")
        clear lN9 hr
        k_steps
        rename News _ _ _ _ => kN9
        refine' hret _ [] _ _ _ ⟨rfl, rfl⟩ ?zo ?zt ?zf ?zn ?zb ?zx ?zp ?zd
        case zo => exact fun _ h => nomatch h
        case zt => assumption
        case zf => k_asm
        case zn => exact fun q hq => kN9 q (hs9 q (by simpa using hq))
        case zb => assumption
        case zx => assumption
        case zp => assumption
        case zd => assumption
end
section
theorem list_nt : Value.type "list" ≠ Value.type "tuple" := by
  intro h
  injection h with h
  exact absurd h (by decide)
theorem z_ne {a b : Addr} {P : Prop} (h : @LT.lt Nat instLTNat a b ∧ P) : a ≠ b := Nat.ne_of_lt h.1
set_option maxHeartbeats 4000000 in
theorem stage_c (SC : LawR 6) : LawR 5 := by
  w_top off
  k_with_none
  k_with "y_room" => first | ((try simp only [depth_under_make, depth_under_kw, depth_in1, depth_deeper, depth_caller]); (try dsimp only [yTop]); first | exact lim2 (by assumption) rfl | exact lim1 (by assumption) rfl | exact lim0 (by assumption)) | ((try simp only [depth_under_make, depth_under_kw, depth_in1, depth_deeper, depth_caller] at *); (try dsimp only [yTop] at *); omega)
  k_with "y_units" => first | ((try simp only [units_in1, units_deeper, Around.mark_units, units_caller]); (try dsimp only [yTop]); first | exact lim2 (by assumption) rfl | exact lim1 (by assumption) rfl) | (have hcL9 := cLine_is; ((try simp only [units_in1, units_deeper, Around.mark_units, units_caller] at *); (try dsimp only [yTop] at *); omega))
  k_with "y_k5" => ((case k1 => k_asm); (case k2 => k_asm); (case k3 => k_asm); (case k4 => k_asm); (case k5 => k_asm))
  k_with "y_args" => (k_extra "y_k5"; (case kK => first | exact rfl | assumption); (case kH => first | exact Or.inl rfl | exact Or.inr rfl | assumption); (case kT => first | exact Nat.zero_le _ | (dsimp only at *; omega)); (case kd => ktr_room); (case ku => ktr_units))
  k_with "execs cons" => (k_here; (with_reducible show wpAny _ _ (execs (PySem.Stmt.If _ _ _ _ :: _) _) _ _ _); refine stop_ ?_)
  k_with "call ref" => (k_here; (with_reducible show wpAny _ _ (call (Value.ref 28) _) _ _ _); k_dflt (first | (refine' conV_use (con_isS _ _ _) ?k1 ?k2 ?k3 ?k4 ?k5 ?kK ?kH ?kT ?kd ?ku ?_; k_extra "y_args") | (refine' conV_use (con_isO _ _ _ _ _ _ ?m8v1 ?m9v1 ?ne9v1 ?cl9v1) ?k1 ?k2 ?k3 ?k4 ?k5 ?kK ?kH ?kT ?kd ?ku ?_; k_extra "y_args"; (case m8v1 => k_mem); (case m9v1 => k_mem); (case ne9v1 => exact z_ne (by assumption)); (case cl9v1 => exact list_nt))); intro t9 h9 tk9 T9 F9 N9; (try dsimp only); (try k_fold))
  k_with "call ref" => (k_here; (try k_fold); (with_reducible show wpAny _ _ (call (Value.ref 285) _) _ _ _); k_dflt (refine' conS_top (con_replies _ _ _ _ _ _ _ _ _ _ _ _ ?m8v2 ?w1v2 ?w2v2 ?w3v2 ?w4v2 ?w5v2 ?w6v2 ?w7v2 ?w8v2) ?k1 ?k2 ?k3 ?k4 ?k5 ?XB ?TB ?kK ?kH ?kT ?kd ?ku ?_; k_extra "y_args"; (case XB => assumption); (case TB => assumption); (case m8v2 => k_mem); (case w1v2 => assumption); (case w2v2 => assumption); (case w3v2 => assumption); (case w4v2 => assumption); (case w5v2 => assumption); (case w6v2 => assumption); (case w7v2 => assumption); (case w8v2 => assumption); intro r9 tl9 h9 tk9 T9 P9 l9 F9 N9; obtain ⟨e8, e9⟩ := P9; subst e8; subst e9; (try simp only [List.cons_append, List.nil_append] at N9); (try dsimp only); (try k_fold)))
  intro w mean mg mb dp un gd L fa cdv A₀ h₀ sa c0 c1 c2 c3 k0 k1 k2 k3 ca ta ua da r0 r1 r2 r3 a0 a1 a2 a3 b0 b1 b2 b3 e0 e1 e2 e3 n1 n2 n3 n4 o1 o2 o3 o4  s Q E B F X N d4 d3 d2 d1 g0 g1 g2 g3 lda lr0 lr1 lr2 lr3 lua lta lca  Tp hdp hun hret
  obtain ⟨p0, g00, _⟩ := id g0
  obtain ⟨p1, g01, _⟩ := id g1
  obtain ⟨p2, g02, _⟩ := id g2
  obtain ⟨p3, g03, _⟩ := id g3
  k_steps
  unfold Stop
  rename News _ _ _ _ => lN9
  rename Fr _ _ _ _ => lF9
  have N9 : News _ _ _ [(da, W.listOf #[.ref r0, .ref r1, .ref r2, .ref r3] n4), (r0, rowO k0), (r1, rowO k1), (r2, rowO k2), (r3, rowO k3), (ua, W.listOf #[.int (c0.fmod 8) e0, .int (c1.fmod 8) e1, .int (c2.fmod 8) e2, .int (c3.fmod 8) e3] n3), (ta, W.listOf #[.str ⟨#[k0]⟩ b0, .str ⟨#[k1]⟩ b1, .str ⟨#[k2]⟩ b2, .str ⟨#[k3]⟩ b3] n2), (ca, W.listOf #[.int c0 a0, .int c1 a1, .int c2 a2, .int c3 a3] n1), (L + 1 + 1 + 1 + 1, o4), (L + 1 + 1 + 1, o3), (L + 1 + 1, o2), (L + 1, o1)] := fun p hp => lN9 p (by repeat (first | exact hp | apply List.mem_cons_of_mem))
  exact SC w mean mg mb dp un gd L fa cdv A₀ h₀ sa c0 c1 c2 c3 k0 k1 k2 k3 ca ta ua da r0 r1 r2 r3 a0 a1 a2 a3 b0 b1 b2 b3 e0 e1 e2 e3 n1 n2 n3 n4 o1 o2 o3 o4 _ Q E B lF9 X N9 d4 d3 d2 d1 g0 g1 g2 g3 lda lr0 lr1 lr2 lr3 lua lta lca Tp hdp hun hret
end
section
open LCg (NsObj ns_obj lst lst_snoc fr_but news_but)
section
variable {prog : Program} {w : World} {A : Around} {E : Value → Shared → Prop} {s : Shared} {env : Env} {h₀ : Heap} {x : Str} {px : Pos} {body : List Stmt}
/-- how a turn of a For over a text ends -/
noncomputable def StrEnd (h₀ : Heap) (L : Addr) (s : Shared) (led : List (Addr × Obj)) (Jn : (Str → Option Value) → Prop) (f : Flow) (s₃ : Shared) : Prop :=
  (f = .next ∨ f = .cont) ∧ ∃ h' tk' m', s₃ = { s with heap := h', toks := tk' } ∧ Fr h₀ L h' m' ∧ News h₀ L h' led ∧ Jn m'
/-- a For over a text, with what is known of each sign's token -/
theorem for_str {R : Result → Shared → Prop} {tx : Str} {t : Tok} {T : Nat} {m₀ : Str → Option Value} {news : List (Addr × Obj)} (J : Nat → (Str → Option Value) → Prop)
    (hx : env.kindOf x = some .local) (hp : (env.scope.kind == .class || (env.scope.kind == .module && env.locals != env.globals)) = false)
    (hh : A.handled = none) (F : Fr h₀ env.locals s.heap m₀) (N : News h₀ env.locals s.heap news) (hT : T ≤ s.toks) (h0 : J 0 m₀)
    (turn : ∀ i c u m₁ I oI h tk E', tx.cps[i]? = some c → T ≤ u → u < tk → J i m₁ → (∀ p ∈ news, p.1 < I) → Fr h₀ env.locals h (fun y => if y = x then some (.str ⟨#[c]⟩ u) else m₁ y) → News h₀ env.locals h ((I, oI) :: news) →
      wpAny (model prog w) A (execs body env) (StrEnd h₀ env.locals { s with heap := h, toks := tk } ((I, oI) :: news) (J (i + 1))) E' { s with heap := h, toks := tk })
    (done : ∀ m₁ h tk, J tx.cps.size m₁ → Fr h₀ env.locals h m₁ → News h₀ env.locals h news → R (.ok .next) { s with heap := h, toks := tk }) :
    wpAny (model prog w) A (pyIter (.str tx t)) (fun it s₂ => codeAny (model prog w) A (.forLoop (.Name x px) it body [] env) R s₂) E s := by
  have go : ∀ (Ty : String) (o : Obj), o.isFreed = false →
      (∀ i (s' : Shared) (Q : Option Value → Shared → Prop) E' c, s'.heap.IsStrIter s.heap.objs.size Ty tx t i → tx.cps[i]? = some c → (∀ h', h'.IsStrIter s.heap.objs.size Ty tx t (i + 1) → Heap.SameBut s.heap.objs.size s'.heap h' → Q (some (.str ⟨#[c]⟩ s'.toks)) { s' with heap := h', toks := s'.toks + 1 }) → wpAny (model prog w) A (pyNext (.ref s.heap.objs.size)) Q E' s') →
      (∀ i (s' : Shared) (Q : Option Value → Shared → Prop) E', s'.heap.IsStrIter s.heap.objs.size Ty tx t i → tx.cps[i]? = none → (∀ h', Heap.ExtBut s.heap.objs.size s'.heap h' → Q none { s' with heap := h' }) → wpAny (model prog w) A (pyNext (.ref s.heap.objs.size)) Q E' s') →
      (s.heap.push o).IsStrIter s.heap.objs.size Ty tx t 0 → codeAny (model prog w) A (.forLoop (.Name x px) (.ref s.heap.objs.size) body [] env) R { s with heap := s.heap.push o } := by
    intro Ty o hf item fin hst
    have hnew := next_is_new F
    have hLlt : @LT.lt Nat instLTNat env.locals s.heap.objs.size := F.ns.lt
    have hlt : ∀ p ∈ news, p.1 < s.heap.objs.size := fun p hp => Heap.lt_size (N p hp).1
    have up : ∀ b ob, s.heap.get? b = some ob → (s.heap.push o).get? b = some ob := fun b ob e => Heap.get?_push_of_some _ e
    refine codeAny_forLoop_any (fun k s' => ∃ i m₁ h tk, s' = { s with heap := h, toks := tk } ∧ i ≤ tx.cps.size ∧ k = tx.cps.size + 1 - i ∧ T ≤ tk ∧ h.IsStrIter s.heap.objs.size Ty tx t i ∧ Fr h₀ env.locals h m₁ ∧ News h₀ env.locals h news ∧ J i m₁) ?_ (tx.cps.size + 1)
      ⟨0, m₀, _, _, rfl, Nat.zero_le _, rfl, hT, hst, F.keeps up, N.grown up, h0⟩
    rintro k s' ⟨i, m₁, h, tk, rfl, hi, rfl, hTk, hst, F, N, hJ⟩
    cases hc : tx.cps[i]? with
    | none =>
      refine fin i _ _ _ hst hc fun h' he => ?_
      have hin : i = tx.cps.size := by
        have := Array.getElem?_eq_none_iff.mp hc
        omega
      subst hin
      show wpAny _ _ (execs [] env) _ _ _
      refine wpAny_pure ?_
      refine done m₁ h' _ hJ (fr_but F (fun b ob hb e => he b ob (by simpa using hb) e) (Ne.symm (neGt hLlt)) hnew) (news_but N (fun b ob hb e => he b ob (by simpa using hb) e) fun p hp => Nat.ne_of_lt (hlt p hp))
    | some c =>
      refine item i _ _ _ c hst hc fun h' hst' hs => ?_
      have hkeep : ∀ b ob, b ∉ [s.heap.objs.size] → h.get? b = some ob → h'.get? b = some ob := fun b ob hb e => hs.extBut b ob (by simpa using hb) e
      have F' := fr_but F hkeep (Ne.symm (neGt hLlt)) hnew
      have N' := news_but N hkeep fun p hp => Nat.ne_of_lt (hlt p hp)
      refine wpAny_of_eq (show letOwnedTupleGo (.Name x px) (.ref s.heap.objs.size) _ = pure () from rfl) ?_
      refine wpAny_assign_Name (wpAny_storeName_local hx F'.ns (fun h₃ hn₃ hs₃ => ?_) hp)
      have hL₀ : h₀.get? env.locals = none := Heap.get?_none_of_le F'.above
      have F₃ : Fr h₀ env.locals h₃ (fun y => if y = x then some (.str ⟨#[c]⟩ tk) else m₁ y) := ⟨hn₃, fun b o e => hs₃.extBut b o (fun q => by rw [q, hL₀] at e; cases e) (F'.keep b o e), F'.above⟩
      obtain ⟨oI, heI, hoI⟩ := hst'
      have N₃ : News h₀ env.locals h₃ ((s.heap.objs.size, oI) :: news) := fun p hp => by
        rcases List.mem_cons.mp hp with rfl | hp
        · exact ⟨hs₃.extBut _ _ (neGt hLlt) heI, neGt hLlt, hnew⟩
        · exact ⟨hs₃.extBut _ _ (N' p hp).2.1 (N' p hp).1, (N' p hp).2⟩
      refine wpAny_with_toks (Nat.le_refl _) (wpAny_mono (turn i c tk m₁ s.heap.objs.size oI h₃ _ _ hc hTk (Nat.lt_succ_of_lt (Nat.lt_succ_self _)) hJ hlt F₃ N₃) (fun f s₃ h₃ hle => ?_) fun _ _ e _ => e)
      obtain ⟨hf, h₄, tk₄, m₄, rfl, F₄, N₄, hJ₄⟩ := h₃
      have hlt' : i < tx.cps.size := (Array.getElem?_eq_some_iff.mp hc).1
      have q : ∃ m, m < tx.cps.size + 1 - i ∧ ∃ i m₁ h tk, { s with heap := h₄, toks := tk₄ } = { s with heap := h, toks := tk } ∧ i ≤ tx.cps.size ∧ m = tx.cps.size + 1 - i ∧ T ≤ tk ∧ h.IsStrIter s.heap.objs.size Ty tx t i ∧ Fr h₀ env.locals h m₁ ∧ News h₀ env.locals h news ∧ J i m₁ :=
        ⟨_, by omega, i + 1, m₄, h₄, tk₄, rfl, hlt', rfl, by simp only at hle; omega, ⟨oI, (N₄ _ (List.mem_cons_self ..)).1, hoI⟩, F₄, fun p hp => N₄ p (List.mem_cons_of_mem _ hp), hJ₄⟩
      rcases hf with rfl | rfl
      · exact q
      · exact q
  cases ha : tx.cps.all (· < 128)
  · exact wpAny_pyIter_wide ha (go "str_iterator" _ rfl (fun i s' Q E' c st hc hq => wpAny_pyNext_wide_item st hc hq) (fun i s' Q E' st hc hq => wpAny_pyNext_wide_end hh st hc hq) ⟨_, Heap.get?_push_size _ rfl, rfl, rfl⟩)
  · exact wpAny_pyIter_ascii ha (go "str_ascii_iterator" _ rfl (fun i s' Q E' c st hc hq => wpAny_pyNext_ascii_item st hc hq) (fun i s' Q E' st hc hq => wpAny_pyNext_ascii_end hh st hc hq) ⟨_, Heap.get?_push_size _ rfl, rfl, rfl⟩)
end
end
section
open LCg (NsObj ns_obj lst lst_snoc fr_but news_but)
section
variable {prog : Program} {w : World} {A : Around} {E : Value → Shared → Prop} {s : Shared} {env : Env} {h₀ : Heap} {x : Str} {px : Pos} {body : List Stmt}
/-- a For over a list of the ledger -/
theorem for_list {R : Result → Shared → Prop} {l : Addr} {items : Array Value} {kk : Nat} {m₀ : Str → Option Value} {news : List (Addr × Obj)} (J : Nat → (Str → Option Value) → Prop)
    (hx : env.kindOf x = some .local) (hp : (env.scope.kind == .class || (env.scope.kind == .module && env.locals != env.globals)) = false)
    (hh : A.handled = none) (hl : (l, W.listOf items kk) ∈ news) (F : Fr h₀ env.locals s.heap m₀) (N : News h₀ env.locals s.heap news) (h0 : J 0 m₀)
    (turn : ∀ i v m₁ I oI h tk E', items[i]? = some v → J i m₁ → (∀ p ∈ news, p.1 < I) → Fr h₀ env.locals h (fun y => if y = x then some v else m₁ y) → News h₀ env.locals h ((I, oI) :: news) →
      wpAny (model prog w) A (execs body env) (StrEnd h₀ env.locals { s with heap := h, toks := tk } ((I, oI) :: news) (J (i + 1))) E' { s with heap := h, toks := tk })
    (done : ∀ m₁ h tk, J items.size m₁ → Fr h₀ env.locals h m₁ → News h₀ env.locals h news → R (.ok .next) { s with heap := h, toks := tk }) :
    wpAny (model prog w) A (pyIter (.ref l)) (fun it s₂ => codeAny (model prog w) A (.forLoop (.Name x px) it body [] env) R s₂) E s := by
  have hL : s.heap.IsList l items := ⟨_, (N _ hl).1, rfl, kk, rfl⟩
  have hnew := next_is_new F
  have hLlt : @LT.lt Nat instLTNat env.locals s.heap.objs.size := F.ns.lt
  have hlt : ∀ p ∈ news, p.1 < s.heap.objs.size := fun p hp => Heap.lt_size (N p hp).1
  refine wpAny_pyIter_list hL ?_
  refine codeAny_forLoop_any (fun k s' => ∃ i m₁ h tk, s' = { s with heap := h, toks := tk } ∧ i ≤ items.size ∧ k = items.size + 1 - i ∧ h.IsListIter s.heap.objs.size l i ∧ Fr h₀ env.locals h m₁ ∧ News h₀ env.locals h news ∧ J i m₁) ?_ (items.size + 1)
    ⟨0, m₀, _, _, rfl, Nat.zero_le _, rfl, ⟨_, Heap.get?_push_size _ rfl, rfl, rfl⟩, F.push _, N.grown (fun b ob e => Heap.get?_push_of_some _ e), h0⟩
  rintro k s' ⟨i, m₁, h, tk, rfl, hi, rfl, hst, F, N, hJ⟩
  have hL' : h.IsList l items := ⟨_, (N _ hl).1, rfl, kk, rfl⟩
  cases hc : items[i]? with
  | none =>
    refine wpAny_pyNext_list_end hh hst hL' hc fun h' he => ?_
    have hin : i = items.size := by
      have := Array.getElem?_eq_none_iff.mp hc
      omega
    subst hin
    show wpAny _ _ (execs [] env) _ _ _
    refine wpAny_pure ?_
    exact done m₁ h' _ hJ (fr_but F (fun b ob hb e => he b ob (by simpa using hb) e) (Ne.symm (neGt hLlt)) hnew) (news_but N (fun b ob hb e => he b ob (by simpa using hb) e) fun p hp => Nat.ne_of_lt (hlt p hp))
  | some c =>
    refine wpAny_pyNext_list_item hst hL' hc fun h' hst' hs => ?_
    have hkeep : ∀ b ob, b ∉ [s.heap.objs.size] → h.get? b = some ob → h'.get? b = some ob := fun b ob hb e => hs.extBut b ob (by simpa using hb) e
    have F' := fr_but F hkeep (Ne.symm (neGt hLlt)) hnew
    have N' := news_but N hkeep fun p hp => Nat.ne_of_lt (hlt p hp)
    refine wpAny_of_eq (show letOwnedTupleGo (.Name x px) (.ref s.heap.objs.size) _ = pure () from rfl) ?_
    refine wpAny_assign_Name (wpAny_storeName_local hx F'.ns (fun h₃ hn₃ hs₃ => ?_) hp)
    have hL₀ : h₀.get? env.locals = none := Heap.get?_none_of_le F'.above
    have F₃ : Fr h₀ env.locals h₃ (fun y => if y = x then some c else m₁ y) := ⟨hn₃, fun b o e => hs₃.extBut b o (fun q => by rw [q, hL₀] at e; cases e) (F'.keep b o e), F'.above⟩
    obtain ⟨oI, heI, hoI⟩ := hst'
    have N₃ : News h₀ env.locals h₃ ((s.heap.objs.size, oI) :: news) := fun p hp => by
      rcases List.mem_cons.mp hp with rfl | hp
      · exact ⟨hs₃.extBut _ _ (neGt hLlt) heI, neGt hLlt, hnew⟩
      · exact ⟨hs₃.extBut _ _ (N' p hp).2.1 (N' p hp).1, (N' p hp).2⟩
    refine wpAny_mono (turn i c m₁ s.heap.objs.size oI h₃ _ _ hc hJ hlt F₃ N₃) (fun f s₃ h₃ => ?_) fun _ _ e => e
    obtain ⟨hf, h₄, tk₄, m₄, rfl, F₄, N₄, hJ₄⟩ := h₃
    have hlt' : i < items.size := (Array.getElem?_eq_some_iff.mp hc).1
    have q : ∃ m, m < items.size + 1 - i ∧ ∃ i m₁ h tk, { s with heap := h₄, toks := tk₄ } = { s with heap := h, toks := tk } ∧ i ≤ items.size ∧ m = items.size + 1 - i ∧ h.IsListIter s.heap.objs.size l i ∧ Fr h₀ env.locals h m₁ ∧ News h₀ env.locals h news ∧ J i m₁ :=
      ⟨_, by omega, i + 1, m₄, h₄, tk₄, rfl, hlt', rfl, ⟨oI, (N₄ _ (List.mem_cons_self ..)).1, hoI⟩, F₄, fun p hp => N₄ p (List.mem_cons_of_mem _ hp), hJ₄⟩
    rcases hf with rfl | rfl
    · exact q
    · exact q
end
end
section
theorem is_rows {prog : Program} {w : World} {A : Around} {E : Value → Shared → Prop} {s : Shared} {L a b : Addr} {h₀ : Heap} {news : List (Addr × Obj)} {Q : Value → Shared → Prop} {bs cs : List Bool} (N : News h₀ L s.heap news) (ha : RowR news (.ref a) bs) (hb : RowR news (.ref b) cs) (hne : ¬ a = b) (h : Q (.bool false) s) : wpAny (model prog w) A (compareOp .Is (.ref a) (.ref b)) Q E s := by
  obtain ⟨a', n, e, hm⟩ := ha
  obtain ⟨b', n', e', hm'⟩ := hb
  cases e
  cases e'
  exact wpAny_is_ref_other hne (N.get hm) (N.get hm') (by intro z; exact absurd (Value.type.inj z) (by decide)) h
theorem off_iL {k : Str} {m₁ m₀ : Str → Option Value} {v : Option Value} (h : ∀ y, y ≠ k → m₁ y = m₀ y) : (fun y => if y = k then v else m₁ y) = fun y => if y = k then v else m₀ y := by
  funext y
  split
  · rfl
  · exact h y ‹_›
theorem at_iL {k : Str} {m₁ m₀ : Str → Option Value} (h : ∀ y, y ≠ k → m₁ y = m₀ y) : m₁ = fun y => if y = k then m₁ k else m₀ y := by
  funext y
  split
  · rw [‹y = k›]
  · exact h y ‹_›
theorem inc_endL {k i : Str} {n n' : Int} {t : Tok} {v w : Option Value} {base : Str → Option Value} (e : n + 1 = n') : ∀ y, y ≠ i → (if y = k then some (Value.int (n + 1) t) else if y = i then v else if y = k then w else base y) = if y = k then some (Value.int n' t) else base y := by
  intro y hy
  subst e
  by_cases h : y = k
  · rw [if_pos h, if_pos h]
  · rw [if_neg h, if_neg h, if_neg hy, if_neg h]
theorem same_endL {k i : Str} {n n' : Int} {t : Tok} {v : Option Value} {base : Str → Option Value} (e : n = n') : ∀ y, y ≠ i → (if y = i then v else if y = k then some (Value.int n t) else base y) = if y = k then some (Value.int n' t) else base y := by
  intro y hy
  subst e
  rw [if_neg hy]
theorem cnt_yesL {rows : List (List Bool)} {i : Nat} {bs cs : List Bool} (h : rows[i]? = some bs) (e : bs = cs) : (((rows.take i).count cs : Nat) : Int) + 1 = ((rows.take (i + 1)).count cs : Nat) := by
  subst e
  rw [List.take_add_one, List.count_append, h]
  simp
theorem cnt_noL {rows : List (List Bool)} {i : Nat} {bs cs : List Bool} (h : rows[i]? = some bs) (e : ¬ bs = cs) : (((rows.take i).count cs : Nat) : Int) = ((rows.take (i + 1)).count cs : Nat) := by
  rw [List.take_add_one, List.count_append, h]
  simp [List.count_cons, e]
set_option maxHeartbeats 4000000 in
theorem con_countL (w : World) (news : List (Addr × Obj)) (la lb : Addr) (vs : List Value) (n : Nat) (rows : List (List Bool)) (cs : List Bool) (hm : (la, W.listOf vs.toArray n) ∈ news) (hv : All2 (RowR news) vs rows) (hb : RowR news (.ref lb) cs) (hne : ∀ v ∈ vs, v ≠ .ref lb) : ConV false 0 w 12 42 [.ref la, .ref lb] news (fun t => .int (rows.count cs : Nat) t) := by
  w_top off
  k_with_none
  k_with "y_room" => first | ((try simp only [depth_under_make, depth_under_kw, depth_in1, depth_deeper, depth_caller]); (try dsimp only [yTop]); first | exact lim2 (by assumption) rfl | exact lim1 (by assumption) rfl | exact lim0 (by assumption)) | ((try simp only [depth_under_make, depth_under_kw, depth_in1, depth_deeper, depth_caller] at *); (try dsimp only [yTop] at *); omega)
  k_with "y_units" => first | ((try simp only [units_in1, units_deeper, Around.mark_units, units_caller]); (try dsimp only [yTop]); first | exact lim2 (by assumption) rfl | exact lim1 (by assumption) rfl) | (have hcL9 := cLine_is; ((try simp only [units_in1, units_deeper, Around.mark_units, units_caller] at *); (try dsimp only [yTop] at *); omega))
  k_with "y_k5" => ((case k1 => k_asm); (case k2 => k_asm); (case k3 => k_asm); (case k4 => k_asm); (case k5 => k_asm))
  k_with "y_eC" => ((case kA => exact rfl); (case kF => exact rfl); (case kK => assumption); k_extra "y_k5"; (case k6 => k_is); (case k7 => k_is); (case k8 => ktr_room); (case k9 => exact BindsTo.of_eq rfl); (case c2 => exact rfl); (case c3 => exact rfl); (case c4 => exact rfl))
  k_with "y_e1" => (k_extra "y_eC"; (case c5 => decide); (case kB => exact locs rfl); k_whole; intro g' L' h' FG' F' N' B' X' T'; (try dsimp only); (try k_lift B'); (try k_fold))
  k_with "exec For Name Name cons nil" => (k_here; refine stop_ ?_)
  k_with "last pyIter ref" => (k_here; refine stop_ ?_)
  k_with "compareOp Eq ref ref" => (k_here; k_dflt (refine' eq_bools ?Nv2 ?av2 ?bv2 ?uv2 ?_; (case Nv2 => k_asm); (case av2 => assumption); (case bv2 => assumption); (case uv2 => (have hcL9 := cLine_is; (try simp only [units_in1, units_deeper, Around.mark_units, units_caller] at *); (try dsimp only [yTop] at *); omega))))
  k_with "compareOp Is ref ref" => (k_here; k_dflt (refine' is_rows ?Nv3 ?av3 ?bv3 ?cv3 ?_; (case Nv3 => k_asm); (case av3 => assumption); (case bv3 => assumption); (case cv3 => assumption)))
  unfold ConV
  intros
  rename_i hret
  rename_i hH hTk _ _
  obtain rfl := hH.resolve_left Bool.false_ne_true
  refine wpAny_call ?_
  k_dflt (refine' code_def (binds := [(Str.ofString "a", .ref la), (Str.ofString "b", .ref lb)]) ?k1 ?k2 ?k3 ?k4 ?k5 ?kA ?kF ?kK ?k6 ?k7 ?k8 ?k9 ?kB ?_ ?c2 ?c3 ?c4 ?c5; k_extra "y_e1")
  k_steps
  unfold Stop
  rename Fr _ _ _ _ => lF'
  rename News _ _ _ _ => lN'
  refine wpAny_For ?_ (by intro z; rfl)
  k_steps
  unfold Stop
  k_dflt (refine' for_list (items := vs.toArray) (fun i m => ∃ t', ∀ y, y ≠ Str.ofString "i" → m y = if y = Str.ofString "count" then some (.int ((rows.take i).count cs : Nat) t') else List.lookup y [(Str.ofString "a", Value.ref la), (Str.ofString "b", Value.ref lb)].reverse) ?x1 ?x2 ?x3 hm lF' lN' ?x5 ?tu ?dn)
  case x1 => exact rfl
  case x2 => exact rfl
  case x3 => exact rfl
  case x5 => exact ⟨_, fun y _ => rfl⟩
  case tu =>
    rintro i v m₁ I oI h tk E' hc ⟨t', hm9⟩ hI F N
    rw [off_iL hm9] at F
    obtain ⟨bs, hbs, a9, n9, rfl, ha9⟩ := hv.get (by simpa using hc)
    have hA9 : RowR ((I, oI) :: news) (.ref a9) bs := ⟨_, _, rfl, List.mem_cons_of_mem _ ha9⟩
    have hB9 : RowR ((I, oI) :: news) (.ref lb) cs := hb.mono fun _ h => List.mem_cons_of_mem _ h
    have hna : ¬ a9 = lb := fun e => hne _ (List.mem_of_getElem? (by simpa using hc)) (by rw [e])
    clear lF' lN'
    k_steps
    · refine' ⟨.inl rfl, _, _, _, rfl, ?zf, ?zn, _, inc_endL (cnt_yesL hbs (by assumption))⟩
      case zf => k_asm
      case zn => k_asm
    · refine' ⟨.inl rfl, _, _, _, rfl, ?zf, ?zn, _, same_endL (cnt_noL hbs (by assumption))⟩
      case zf => k_asm
      case zn => k_asm
  case dn =>
    rintro m₁ h tk ⟨t', hm9⟩ F N
    rw [at_iL hm9] at F
    generalize m₁ (Str.ofString "i") = o at F
    clear lF' lN'
    have e9 : rows.take vs.toArray.size = rows := by rw [List.size_toArray, hv.length, List.take_length]
    rw [e9] at F
    dsimp only
    k_steps
    all_goals (refine cb_retI hret ?e1 ?e2 ?e3; (case e2 => k_asm); (case e3 => first | k_asm | (refine' y_drop ?N ?S; (case N => k_asm); (case S => kcj_all))); (case e1 => rfl))
end
section
theorem booked {w : World} {h : Heap} (X : (K w.params).In h) : NoneBooked h := by
  have e := X 2 (o2 w.params) rfl
  refine ⟨_, ⟨o2 w.params, _, 2, e, rfl, ?_, fun _ => rfl⟩, ?_⟩
  · intro x hx
    simp at hx
    rcases hx with rfl | rfl
    · exact ⟨_, _, rfl⟩
    · exact ⟨_, _, rfl⟩
  · rfl
theorem booked' {w : World} {h₀ h : Heap} (X : (K w.params).In h₀) (k : ∀ b o, h₀.get? b = some o → h.get? b = some o) : NoneBooked h := booked fun a o e => k _ _ (X a o e)
theorem is_tok {prog : Program} {w : World} {A : Around} {E : Value → Shared → Prop} {s : Shared} {y z : Str} {u v : Tok} {Q : Value → Shared → Prop} (h0 : 0 < u) (h1 : 0 < v) (hne : u ≠ v) (hb : NoneBooked s.heap) (hq : ∀ b, (b = true → y = z) → Q (.bool b) s) :
    wpAny (model prog w) A (compareOp .Is (.str y u) (.str z v)) Q E s := by
  have h2 : (u == 0 || v == 0) = false := by
    have a : u ≠ 0 := Nat.ne_of_gt h0
    have b : v ≠ 0 := Nat.ne_of_gt h1
    simp [a, b]
  show wpAny _ _ (isSame (.str y u) (.str z v) >>= fun b => pure (Value.bool b)) _ _ _
  by_cases e : y = z
  · exact wpAny_bind (wpAny_isSame_str h2 hb fun b => wpAny_pure (hq b fun _ => e))
  · rw [isSame_str_other y z u v h2 (by simpa using hne) (by simpa using e)]
    exact wpAny_bind (wpAny_pure (wpAny_pure (hq false fun x => nomatch x)))
end
section
theorem entry_unchain : entryFor table "proto.unchain" = some Builtin.«proto.unchain» := entryFor_of_tree (by kernel_rfl)
section
variable {prog : Program} {w : World} {A : Around} {E : Value → Shared → Prop} {s : Shared}
theorem unchain_calm {v slow : Value} {e : Addr} {Q : Value → Shared → Prop} (c : Calm s.heap e) (h : Q .none s) : wpAny (model prog w) A (runValue (.builtin "proto.unchain" ⟨[v, .ref e, slow, .bool false], []⟩)) Q E s := by
  obtain ⟨o, ws, he, hd, h2⟩ := c
  refine wpAny_runValue (codeAny_builtin entry_unchain ?_)
  show wpAny _ _ (field (.ref e) 2 >>= _) _ _ s
  refine wpAny_bind (wpAny_field he hd h2 ?_)
  show wpAny _ _ (ret .none >>= _) _ _ s
  exact wpAny_bind (wpAny_pure (wpAny_pure h))
theorem raiseNew_calm {α : Type} {a e : Addr} {oa : Obj} {ws : Array Value} {Q : α → Shared → Prop} (hh : A.handled = some (.ref e)) (hne : e ≠ a) (c : Calm s.heap e) (ha : s.heap.get? a = some oa) (hda : oa.data = .fields ws) (hsz : 2 < ws.size)
    (h : E (.ref a) { s with heap := s.heap.update a (Obj.mapFields (·.setIfInBounds 2 (.ref e))) }) : wpAny (model prog w) A (raiseNew (.ref a)) Q E s := by
  unfold raiseNew
  refine wpAny_bind (wpAny_handled ?_)
  rw [hh]
  dsimp only
  rw [if_pos (show (Value.ref e != Value.ref a) = true by simpa using hne)]
  refine wpAny_bind (wpAny_holding (unchain_calm c ?_))
  show wpAny _ _ (setField (.ref a) 2 (.ref e) >>= fun _ => throw (Value.ref a)) _ _ _
  exact wpAny_bind (wpAny_setField ha hda hsz (wpAny_throw h))

theorem tuple_end_calm {it t e : Addr} {i : Nat} {items : Array Value} {Q : Option Value → Shared → Prop} (hh : A.handled = some (.ref e)) (c : Calm s.heap e) (hie : e ≠ it)
    (hit : s.heap.IsTupleIter it t i) (ht : s.heap.IsTuple t items) (hx : items[i]? = none)
    (hQ : ∀ h', Heap.ExtBut it s.heap h' → Q none { s with heap := h' }) : wpAny (model prog w) A (pyNext (.ref it)) Q E s := by
  obtain ⟨o, ho, hc, hd⟩ := id hit
  obtain ⟨ol, hol, _, nl, hdl⟩ := ht
  unfold pyNext
  refine wpAny_bind (wpAny_attempt (wpAny_callSpecial?_slot (name := Str.ofString "__next__") hit.typeIs F.slot_tuple_iterator_next
    (wpAny_call_entry F.slot_tuple_iterator_next hit.typeIs F.entry_tuple_iterator_next ?_ (F.args_tuple_iterator_next_1 _))))
  show wpAny _ _ (field (.ref it) 0 >>= _) _ _ s
  refine wpAny_bind (wpAny_field ho hd (x := .ref t) rfl ?_)
  show wpAny _ _ (if (Value.ref t == Value.none) = true then _ else _) _ _ s
  rw [if_neg (show ¬ ((Value.ref t == Value.none) = true) from Bool.false_ne_true)]
  show wpAny _ _ (field (.ref it) 1 >>= _) _ _ s
  refine wpAny_bind (wpAny_field ho hd (x := .int i 0) rfl ?_)
  show wpAny _ _ (seqItems? (.ref t) >>= _) _ _ s
  refine wpAny_bind (wpAny_seqItems hol hdl ?_)
  simp only [Int.toNat_natCast, hx]
  refine wpAny_bind (wpAny_rule (wpAny_bind (wpAny_setField ho hd (by simp) ?_)))
  show wpAny _ _ (newExc (.type "StopIteration") [] >>= _) _ _ _
  refine wpAny_bind ?_
  simp only [newExc, newTuple]
  refine wpAny_bind (wpAny_newObj_type ?_ (by size_fits))
  refine wpAny_bind (m := firstArgMember _ _) (wpAny_of_eq (a := Value.none) (by first | rfl | (simp only [firstArgMember]; rfl)) ?_)
  refine wpAny_newObj_type ?_ (by size_fits)
  have c2 : Calm (((s.heap.update it (Obj.mapFields fun x => x.setIfInBounds 0 Value.none)).push { cls := Value.type "tuple", data := Data.seq #[] }).push { cls := Value.type "StopIteration", data := Data.fields (#[Value.ref (s.heap.update it (Obj.mapFields fun x => x.setIfInBounds 0 Value.none)).objs.size, Value.none, Value.none, Value.none, Value.bool false, Value.none] ++ ownMembersOf (Value.type "StopIteration") []) }) e := by
    obtain ⟨oe, we, he, hw⟩ := c
    exact ⟨oe, we, Heap.get?_push_of_some _ (Heap.get?_push_of_some _ ((Heap.get?_update_other _ _ (Ne.symm hie)).trans he)), hw⟩
  refine raiseNew_calm (A := A.in1) hh ?_ c2 (Heap.get?_push_size _ rfl) rfl (by simp; omega) ?_
  · obtain ⟨oe, we, he, hw⟩ := c
    have h1 := lt_size' (Heap.get?_push_of_some { cls := Value.type "tuple", data := Data.seq #[] } ((Heap.get?_update_other s.heap (Obj.mapFields fun x => x.setIfInBounds 0 Value.none) (Ne.symm hie)).trans he))
    exact neLt h1
  · refine wpAny_bind (wpAny_isInstance (T := "StopIteration") (b := true) ⟨_, Heap.get?_update_self _ (Heap.get?_push_size _ rfl) rfl, rfl⟩ isSubtype_stop ?_)
    refine wpAny_pure (hQ _ fun b ob hb e9 => ?_)
    have h2 := Heap.get?_push_of_some { cls := Value.type "tuple", data := Data.seq #[] } ((Heap.get?_update_other s.heap (Obj.mapFields fun x => x.setIfInBounds 0 Value.none) (Ne.symm hb)).trans e9)
    rw [Heap.get?_update_other _ _ (neGt (lt_size' h2))]
    exact Heap.get?_push_of_some _ h2

theorem Calm.but {h h' : Heap} {e b : Addr} (c : Calm h e) (hne : e ≠ b) (k : Heap.ExtBut b h h') : Calm h' e := by
  obtain ⟨o, ws, he, hw⟩ := c
  exact ⟨o, ws, k e o hne he, hw⟩
theorem unpackItems_calm {t e : Addr} {items : Array Value} {Q : List Value → Shared → Prop} (hh : A.handled = some (.ref e)) (c : Calm s.heap e) (ht : s.heap.IsTuple t items)
    (hQ : ∀ h', Heap.ExtBut s.heap.objs.size s.heap h' → Q items.toList { s with heap := h' }) : wpAny (model prog w) A (unpackItems (.ref t) items.size none) Q E s := by
  have hlt : t ≠ s.heap.objs.size := by obtain ⟨o, ho, _⟩ := ht; exact Nat.ne_of_lt (Heap.lt_size ho)
  have hle : e ≠ s.heap.objs.size := neLt c.lt
  unfold unpackItems
  refine wpAny_bind ?_
  · unfold notIterableAtAll
    refine wpAny_bind (wpAny_specialOf ht.typeIs F.slot_tuple_iter.lookup ?_)
    refine wpAny_pure ?_
    simp only [Bool.false_eq_true, if_false]
    refine wpAny_bind (wpAny_holding (wpAny_pyIter_tuple ht ?_))
    refine wpAny_bind (wpAny_holding (wpAny_draw_tuple hlt items.size 0 _ _ ⟨_, Heap.get?_push_size _ rfl, rfl, rfl⟩ (ht.push _) (by omega) fun h₁ hit₁ hs₁ => ?_))
    have hall : List.take items.size (List.drop 0 items.toList) = items.toList := by
      rw [List.drop_zero]; exact List.take_of_length_le (by simp)
    rw [hall]
    rw [if_neg (by simp)]
    have ht₁ : h₁.IsTuple t items := (ht.push _).extBut hs₁.extBut hlt
    have c₁ : Calm h₁ e := (c.keeps fun b o e => Heap.get?_push_of_some _ e).but hle hs₁.extBut
    refine wpAny_bind (wpAny_holding (tuple_end_calm hh c₁ hle hit₁ ht₁ (by simp) fun h₂ he₂ => ?_))
    simp only [Option.isSome_none, Bool.false_eq_true, if_false]
    refine wpAny_pure (hQ h₂ fun b o hb e => he₂ b o hb (hs₁.extBut b o hb (Heap.get?_push_of_some _ e)))
theorem assign_Tuple_calm {env : Env} {elts : List Expr} {x1} {pos : Pos} {t e : Addr} {items : Array Value} {Q : Unit → Shared → Prop} (hh : A.handled = some (.ref e)) (c : Calm s.heap e) (ht : s.heap.IsTuple t items)
    (hn : (assignEach elts env).length = items.size) (hstar : (assignEach elts env).findIdx? (·.1) = none)
    (h : ∀ h', Heap.ExtBut s.heap.objs.size s.heap h' → wpAny (model prog w) A (assignInOrder ((assignEach elts env).map (·.2)) items.toList) Q E { s with heap := h' }) :
    wpAny (model prog w) A (assign (.Tuple elts x1 pos) env (.ref t)) Q E s := by
  rw [arm_assign_Tuple]
  refine wpAny_bind (wpAny_standAt ?_)
  unfold unpack
  rw [hn, hstar]
  exact wpAny_bind (wpAny_holding (unpackItems_calm hh c ht h))

theorem nextOf_end_calm {it l x : Addr} {i : Nat} {items : Array Value} {Q : Value → Shared → Prop} (hh : A.handled = some (.ref x)) (c : Calm s.heap x) (hie : x ≠ it)
    (hit : s.heap.IsListIter it l i) (hl : s.heap.IsList l items) (hx : items[i]? = none)
    (hE : ∀ h' e, Heap.ExtBut it s.heap h' → (∃ o, h'.get? e = some o ∧ o.cls = .type "StopIteration") → E (.ref e) { s with heap := h' }) :
    wpAny (model prog w) A (Builtin.SmallTypes.nextOf (.ref it)) Q E s := by
  obtain ⟨o, ho, hc, hd⟩ := id hit
  obtain ⟨ol, hol, _, nl, hdl⟩ := hl
  unfold Builtin.SmallTypes.nextOf
  refine wpAny_bind (wpAny_callSpecial?_slot (name := Str.ofString "__next__") hit.typeIs slot_listiter_next
    (wpAny_call_entry slot_listiter_next hit.typeIs entry_listiter_next ?_ (args_listiter_next _)))
  show wpAny _ _ (field (.ref it) 0 >>= _) _ _ s
  refine wpAny_bind (wpAny_field ho hd (x := .ref l) rfl ?_)
  show wpAny _ _ (if (Value.ref l == Value.none) = true then _ else _) _ _ s
  rw [if_neg (show ¬ ((Value.ref l == Value.none) = true) from Bool.false_ne_true)]
  show wpAny _ _ (field (.ref it) 1 >>= _) _ _ s
  refine wpAny_bind (wpAny_field ho hd (x := .int i 0) rfl ?_)
  show wpAny _ _ (seqItems? (.ref l) >>= _) _ _ s
  refine wpAny_bind (wpAny_seqItems hol hdl ?_)
  simp only [Int.toNat_natCast, hx]
  refine wpAny_bind (wpAny_rule (wpAny_bind (wpAny_setField ho hd (by simp) ?_)))
  show wpAny _ _ (newExc (.type "StopIteration") [] >>= _) _ _ _
  refine wpAny_bind ?_
  simp only [newExc, newTuple]
  refine wpAny_bind (wpAny_newObj_type ?_ (by size_fits))
  refine wpAny_bind (m := firstArgMember _ _) (wpAny_of_eq (a := Value.none) (by first | rfl | (simp only [firstArgMember]; rfl)) ?_)
  refine wpAny_newObj_type ?_ (by size_fits)
  obtain ⟨oe, we, he, hw⟩ := c
  have h1 := Heap.get?_push_of_some { cls := Value.type "tuple", data := Data.seq #[] } ((Heap.get?_update_other s.heap (Obj.mapFields fun x => x.setIfInBounds 0 Value.none) (Ne.symm hie)).trans he)
  refine raiseNew_calm (A := A.in1) hh (neLt (lt_size' h1)) ⟨oe, we, Heap.get?_push_of_some _ h1, hw⟩ (Heap.get?_push_size _ rfl) rfl (by simp; omega) ?_
  refine hE _ _ (fun b ob hb e9 => ?_) ⟨_, Heap.get?_update_self _ (Heap.get?_push_size _ rfl) rfl, rfl⟩
  have h2 := Heap.get?_push_of_some { cls := Value.type "tuple", data := Data.seq #[] } ((Heap.get?_update_other s.heap (Obj.mapFields fun x => x.setIfInBounds 0 Value.none) (Ne.symm hb)).trans e9)
  rw [Heap.get?_update_other _ _ (neGt (lt_size' h2))]
  exact Heap.get?_push_of_some _ h2
theorem enum_end_calm {e it l x : Addr} {i : Nat} {items : Array Value} {old : Value} {Q : Option Value → Shared → Prop} (hh : A.handled = some (.ref x)) (c : Calm s.heap x) (hie : x ≠ it)
    (he : IsEnum s.heap e it i old) (hit : s.heap.IsListIter it l i) (hl : s.heap.IsList l items) (hx : items[i]? = none)
    (hQ : ∀ h', Heap.ExtBut it s.heap h' → Q none { s with heap := h' }) : wpAny (model prog w) A (pyNext (.ref e)) Q E s := by
  have hT : s.TypeIs (.ref e) "enumerate" := ⟨_, he, rfl⟩
  unfold pyNext
  refine wpAny_bind (wpAny_attempt (wpAny_callSpecial?_slot (name := Str.ofString "__next__") hT F.slot_enumerate_next
    (wpAny_call_entry F.slot_enumerate_next hT F.entry_enumerate_next ?_ (F.args_enumerate_next_1 _))))
  show wpAny _ _ (field (.ref e) 2 >>= _) _ _ _
  refine wpAny_bind (wpAny_field he rfl (x := .ref it) rfl ?_)
  refine wpAny_bind (nextOf_end_calm hh c hie hit hl hx fun h' x he' hx' => ?_)
  obtain ⟨o, ho, hc⟩ := hx'
  refine wpAny_bind (wpAny_isInstance (T := "StopIteration") (b := true) ⟨o, ho, hc⟩ isSubtype_stop ?_)
  exact wpAny_pure (hQ _ he')

/-- no exception is handled, or one without a context -/
noncomputable def Quiet (A : Around) (h : Heap) : Prop := A.handled = none ∨ ∃ x, A.handled = some (.ref x) ∧ Calm h x
theorem assign_pair {env : Env} {a b : Str} {pa pb tp : Pos} {kk : Nat} {T : Addr} {x y : Value} {m : Str → Option Value} {Q : Unit → Shared → Prop} (hq : Quiet A s.heap) (ht : s.heap.IsTuple T #[x, y])
    (ha : env.kindOf a = some .local) (hb : env.kindOf b = some .local) (hp : (env.scope.kind == .class || (env.scope.kind == .module && env.locals != env.globals)) = false) (hn : s.heap.Ns env.locals m)
    (h : ∀ (h' : Heap) (tk : Nat), h'.Ns env.locals (fun z => if z = b then some y else if z = a then some x else m z) → (∀ c o, c ≠ env.locals → s.heap.get? c = some o → h'.get? c = some o) → Q () { s with heap := h', toks := tk }) :
    wpAny (model prog w) A (assign (.Tuple [.Name a pa, .Name b pb] kk tp) env (.ref T)) Q E s := by
  have go : ∀ h₁, Heap.ExtBut s.heap.objs.size s.heap h₁ → wpAny (model prog w) A (assignInOrder ((assignEach [.Name a pa, .Name b pb] env).map (·.2)) [x, y]) Q E { s with heap := h₁ } := fun h₁ he₁ => by
    have hL : env.locals ≠ s.heap.objs.size := neLt hn.lt
    have hn₁ : h₁.Ns env.locals m := hn.at' fun o e => he₁ _ o hL e
    have up₁ : ∀ c o, s.heap.get? c = some o → h₁.get? c = some o := fun c o e => he₁ c o (neLt (lt_size' e)) e
    show wpAny _ _ (assignInOrder [assign (.Name a pa) env, assign (.Name b pb) env] [x, y]) _ _ _
    refine assignInOrder_cons ?_
    refine wpAny_assign_Name (wpAny_storeName_local ha hn₁ (fun h₂ hn₂ hs₂ => ?_) hp)
    refine assignInOrder_cons ?_
    refine wpAny_assign_Name (wpAny_storeName_local hb hn₂ (fun h₃ hn₃ hs₃ => ?_) hp)
    refine assignInOrder_nil ?_
    exact h h₃ _ hn₃ fun c o hc e => hs₃.extBut c o hc (hs₂.extBut c o hc (up₁ c o e))
  rcases hq with hh | ⟨e, hh, c⟩
  · exact wpAny_assign_Tuple hh ht rfl rfl go
  · exact assign_Tuple_calm hh c ht rfl rfl go
theorem enum_end {e it l : Addr} {i : Nat} {items : Array Value} {old : Value} {Q : Option Value → Shared → Prop} (hq : Quiet A s.heap)
    (he : IsEnum s.heap e it i old) (hit : s.heap.IsListIter it l i) (hl : s.heap.IsList l items) (hx : items[i]? = none)
    (hQ : ∀ h', Heap.ExtBut it s.heap h' → Q none { s with heap := h' }) : wpAny (model prog w) A (pyNext (.ref e)) Q E s := by
  rcases hq with hh | ⟨x, hh, c⟩
  · exact wpAny_pyNext_enum_end hh he hit hl hx hQ
  · refine enum_end_calm hh c (fun e' => ?_) he hit hl hx hQ
    subst e'
    obtain ⟨o, ws, ho, hd, h2⟩ := c
    obtain ⟨o', ho', _, hd'⟩ := hit
    rw [ho'] at ho
    cases ho
    rw [hd'] at hd
    cases hd
    simp at h2
end
end
section
open LCg (NsObj ns_obj lst lst_snoc fr_but news_but)
section
variable {prog : Program} {w : World} {A : Around} {E : Value → Shared → Prop} {s : Shared} {env : Env} {h₀ : Heap} {a b : Str} {pa pb tp : Pos} {kk : Nat} {body orelse : List Stmt}
/-- how a turn of a For over an enumerate ends -/
noncomputable def EnEnd (h₀ : Heap) (L : Addr) (s : Shared) (news : List (Addr × Obj)) (Jn : (Str → Option Value) → Prop) (Rv : Value → Shared → Prop) (f : Flow) (s₃ : Shared) : Prop :=
  match f with
  | .ret v => Rv v s₃
  | .brk => False
  | _ => ∃ h' tk' m', s₃ = { s with heap := h', toks := tk' } ∧ Fr h₀ L h' m' ∧ News h₀ L h' news ∧ Jn m'
theorem for_enum {R : Result → Shared → Prop} {l ax e it : Addr} {items : Array Value} {k : Nat} {m₀ : Str → Option Value} {news : List (Addr × Obj)} (J : Nat → (Str → Option Value) → Prop)
    (ha : env.kindOf a = some .local) (hb : env.kindOf b = some .local) (hp : (env.scope.kind == .class || (env.scope.kind == .module && env.locals != env.globals)) = false)
    (hq : A.handled = none ∨ ∃ x ox ws, A.handled = some (.ref x) ∧ (x, ox) ∈ news ∧ ox.data = .fields ws ∧ ws[2]? = some .none)
    (hl : (l, ({ cls := .type "list", data := .seq items k } : Obj)) ∈ news)
    (he : IsEnum s.heap e it 0 .none) (hit : s.heap.IsListIter it l 0) (hei : e ≠ it) (hnE : h₀.get? e = none) (hnI : h₀.get? it = none) (hLE : env.locals ≠ e) (hLI : env.locals ≠ it) (hlE : ∀ p ∈ news, p.1 ≠ e ∧ p.1 ≠ it)
    (F : Fr h₀ env.locals s.heap m₀) (N : News h₀ env.locals s.heap news) (h0 : J 0 m₀)
    (turn : ∀ i v m₁ t h tk E' oe oi, items[i]? = some v → J i m₁ → Fr h₀ env.locals h (fun y => if y = b then some v else if y = a then some (.int (i : Int) t) else m₁ y) → News h₀ env.locals h ((e, oe) :: (it, oi) :: news) →
      wpAny (model prog w) A (execs body env) (EnEnd h₀ env.locals { s with heap := h, toks := tk } ((e, oe) :: (it, oi) :: news) (J (i + 1)) (fun v s₃ => R (.ok (.ret v)) s₃)) E' { s with heap := h, toks := tk })
    (done : ∀ m₁ h tk, J items.size m₁ → Fr h₀ env.locals h m₁ → News h₀ env.locals h news → wpAny (model prog w) A (execs orelse env) (fun f s₃ => R (.ok f) s₃) (notedBy (model prog w) A env fun e s' => R (.error e) s') { s with heap := h, toks := tk }) :
    codeAny (model prog w) A (.forLoop (.Tuple [.Name a pa, .Name b pb] kk tp) (.ref e) body orelse env) R s := by
  have quiet : ∀ h, News h₀ env.locals h news → Quiet A h := fun h N => by
    rcases hq with hh | ⟨x, ox, ws, hh, hm, hd, h2⟩
    · exact .inl hh
    · exact .inr ⟨x, hh, ox, ws, (N _ hm).1, hd, h2⟩
  have list : ∀ h, News h₀ env.locals h news → h.IsList l items := fun h N => ⟨_, (N _ hl).1, rfl, k, rfl⟩
  refine codeAny_forLoop_any (fun n s' => ∃ i m₁ h tk old, s' = { s with heap := h, toks := tk } ∧ i ≤ items.size ∧ n = items.size + 1 - i ∧ IsEnum h e it (i : Int) old ∧ h.IsListIter it l i ∧ Fr h₀ env.locals h m₁ ∧ News h₀ env.locals h news ∧ J i m₁) ?_ (items.size + 1)
    ⟨0, m₀, s.heap, s.toks, _, rfl, Nat.zero_le _, rfl, he, hit, F, N, h0⟩
  rintro n s' ⟨i, m₁, h, tk, old, rfl, hi, rfl, he, hit, F, N, hJ⟩
  cases hc : items[i]? with
  | none =>
    refine enum_end (quiet h N) he hit (list h N) hc fun h' hx => ?_
    have hin : i = items.size := by
      have := Array.getElem?_eq_none_iff.mp hc
      omega
    subst hin
    exact done m₁ h' _ hJ (fr_but F (fun b ob hb e9 => hx b ob (by simpa using hb) e9) hLI hnI) (news_but N (fun b ob hb e9 => hx b ob (by simpa using hb) e9) fun p hp => (hlE p hp).2)
  | some v =>
    refine wpAny_pyNext_enum_item he hit (list h N) hc hei fun h' hout hit' hT hsz hk => ?_
    have hTe : h.objs.size ≠ e := neGt (lt_size' he)
    have hTit : h.objs.size ≠ it := by obtain ⟨o, ho, _⟩ := hit; exact neGt (lt_size' ho)
    refine wpAny_letOwnedTupleGo_enum hout fun h2 he2 hs2 => ?_
    have k2 : ∀ b o, b ≠ e → b ≠ it → h.get? b = some o → h2.get? b = some o := fun b o h1 h3 e9 => hs2.extBut b o h1 (hk b o h1 h3 e9)
    have N2 : News h₀ env.locals h2 news := fun p hp => ⟨k2 _ _ (hlE p hp).1 (hlE p hp).2 (N p hp).1, (N p hp).2⟩
    have hn2 : h2.Ns env.locals m₁ := F.ns.at' fun o e9 => k2 _ o hLE hLI e9
    have hT2 : h2.IsTuple h.objs.size #[.int (i : Int) tk, v] := ⟨_, hs2.extBut _ _ hTe hT, rfl, _, rfl⟩
    refine assign_pair (quiet h2 N2) hT2 ha hb hp hn2 fun h3 tk3 hn3 hk3 => ?_
    obtain ⟨oi, hoi, hci, hdi⟩ := hit'
    have hoi3 : h3.get? it = some oi := hk3 _ _ (Ne.symm hLI) (hs2.extBut _ _ (Ne.symm hei) hoi)
    obtain ⟨oe, hoe⟩ : ∃ oe, oe = ({ cls := .type "enumerate", dict := none, data := .fields #[.none, .bool false, .ref it, rawInt ((i : Int) + 1), .none, v], slots := #[] } : Obj) := ⟨_, rfl⟩
    have he2' : h2.get? e = some oe := hoe ▸ he2
    have N3 : News h₀ env.locals h3 ((e, oe) :: (it, oi) :: news) := fun p hp => by
      rcases List.mem_cons.mp hp with rfl | hp
      · exact ⟨hk3 _ _ (Ne.symm hLE) he2', Ne.symm hLE, hnE⟩
      · rcases List.mem_cons.mp hp with rfl | hp
        · exact ⟨hoi3, Ne.symm hLI, hnI⟩
        · exact ⟨hk3 _ _ (N p hp).2.1 (N2 p hp).1, (N p hp).2⟩
    have F3 : Fr h₀ env.locals h3 (fun y => if y = b then some v else if y = a then some (.int (i : Int) tk) else m₁ y) :=
      ⟨hn3, fun c o e9 => hk3 c o (fun q => by rw [q, Heap.get?_none_of_le F.above] at e9; cases e9) (k2 c o (fun q => by rw [q, hnE] at e9; cases e9) (fun q => by rw [q, hnI] at e9; cases e9) (F.keep c o e9)), F.above⟩
    refine wpAny_mono (turn i v m₁ tk h3 tk3 _ oe oi hc hJ F3 N3) (fun f s₃ h₃ => ?_) fun _ _ e => e
    have hlt : i < items.size := (Array.getElem?_eq_some_iff.mp hc).1
    have q : (∃ h' tk' m', s₃ = { s with heap := h', toks := tk' } ∧ Fr h₀ env.locals h' m' ∧ News h₀ env.locals h' ((e, oe) :: (it, oi) :: news) ∧ J (i + 1) m') → ∃ m, m < items.size + 1 - i ∧ ∃ i m₁ h tk old, s₃ = { s with heap := h, toks := tk } ∧ i ≤ items.size ∧ m = items.size + 1 - i ∧ IsEnum h e it (i : Int) old ∧ h.IsListIter it l i ∧ Fr h₀ env.locals h m₁ ∧ News h₀ env.locals h news ∧ J i m₁ := by
      rintro ⟨h4, tk4, m4, rfl, F4, N4, hJ4⟩
      have z := (N4 _ (List.mem_cons_self ..)).1
      rw [hoe] at z
      exact ⟨_, by omega, i + 1, m4, h4, tk4, v, rfl, hlt, rfl, z, ⟨oi, (N4 _ (List.mem_cons_of_mem _ (List.mem_cons_self ..))).1, hci, hdi⟩, F4, fun p hp => N4 p (List.mem_cons_of_mem _ (List.mem_cons_of_mem _ hp)), hJ4⟩
    cases f with
    | ret v => exact h₃
    | brk => exact h₃.elim
    | next => exact q h₃
    | cont => exact q h₃
end
end
section
/-- what is caught: the exception's object and its texts, and that it has no context -/
noncomputable def GotC (news : List (Addr × Obj)) (e t : Addr) (cls : Value) (vs : List Value) : Prop :=
  ∃ oe ot ws nt, (e, oe) ∈ news ∧ (t, ot) ∈ news ∧ oe.cls = cls ∧ oe.data = .fields ws ∧ ws[0]? = some (.ref t) ∧ ws[2]? = some .none ∧ ot.cls = .type "tuple" ∧ ot.data = .seq vs.toArray nt
theorem GotC.got {news : List (Addr × Obj)} {e t : Addr} {cls : Value} {vs : List Value} (x : GotC news e t cls vs) : Got news e t cls vs := by
  obtain ⟨oe, ot, ws, nt, a, b, c, d, f, _, g⟩ := x
  exact ⟨oe, ot, ws, nt, a, b, c, d, f, g⟩
section
variable {prog : Program} {w : World} {A₀ : Around} {E : Value → Shared → Prop} {s' : Shared} {base g g₀ G : Heap} {outer : List Env} {L a e t C : Addr} {m : Str → Option Value} {name : Str} {scope : Scope} {cd : Value}
  {vs : List Value} {n : Str} {b₀ : Stmt} {suite : List Stmt} {pos np : Pos} {rest : List ExceptHandler} {Q : Flow → Shared → Prop} {news : List (Addr × Obj)} {KF : Frag}
  {p : Program} {loose : List Str} {mean : ExcName → Option Value} {mg mb : Str → Option Value} {x : Str}
/-- an own class caught under a name, as the library's line does it, with the word that the caught one has no context -/
theorem caught_calm (R : RaisedS base G (envOf name scope L a cd :: outer) e (.ref C) t vs news s'.heap) (hc : Calm s'.heap e) (F : Fr g L G m) (K : Below A₀ base outer g) (hsm : G.UpToSlots s'.heap) (XB : KF.In base) (TB : Top p loose mean mg mb base)
    (D : KtsDicts (outer.filterMap (·.frame)) g) (T0 : KtsTurn (outer.filterMap (·.frame)) g₀ g)
    (ex : nsIn KF mainGlobals x = some (some (.ref C))) (q : ktsIn KF C "BaseException" = true)
    (k : ∀ h' g' news₂ tk, KtsTurn (outer.filterMap (·.frame)) g₀ g' → Fr g' L h' (fun y => if y = n then some (.ref e) else m y) → News g' L h' (news₂ ++ news) → GotC news₂ e t (.ref C) vs → Below A₀ base outer g' → KF.In g' → Top p loose mean mg mb g' → KtsDicts (outer.filterMap (·.frame)) g' →
      wpAny (model prog w) ((A₀.deeper (envOf name scope L a cd)).mark (some (.ref e))) (execs (b₀ :: suite) (envOf name scope L a cd))
        (fun f s₄ => wpAny (model prog w) (A₀.deeper (envOf name scope L a cd)) (do bindName (envOf name scope L a cd) n .none; unbindBehindTheSuite (envOf name scope L a cd) n pos) (fun _ s₅ => Q f s₅) E s₄)
        (AsSuiteRaised (model prog w) ((A₀.deeper (envOf name scope L a cd)).mark (some (.ref e))) (envOf name scope L a cd) n pos (notedBy (model prog w) ((A₀.deeper (envOf name scope L a cd)).mark (some (.ref e))) (envOf name scope L a cd) (cameBackBy (model prog w) (A₀.deeper (envOf name scope L a cd)) (envOf name scope L a cd) E)))
        { s' with heap := h', toks := tk })
    (hk : scope.kind = .function := by rfl) (hlo : (envOf name scope L a cd).kindOf n = some .local := by rfl) (hx : (envOf name scope L a cd).kindOf x = some .globalImplicit := by rfl) (hd : (x == ("__debug__" : Str)) = false := by decide) :
    wpAny (model prog w) (A₀.deeper (envOf name scope L a cd)) (noteFrame (.ref e) (envOf name scope L a cd))
      (fun _ s₂ => wpAny (model prog w) (A₀.deeper (envOf name scope L a cd)) (setFlight (.ref e) none) (fun _ s₃ =>
        wpAny (model prog w) (A₀.deeper (envOf name scope L a cd)) (handleBy (.ref e) (envOf name scope L a cd) (.ExceptHandler (some (.Name x np)) (some n) (b₀ :: suite) pos :: rest)) Q E s₃) E s₂) E s' := by
  obtain ⟨⟨B, hB, hBG, hl, hfl, hnew⟩, htup⟩ := R
  have hL : B.get? L = none := by
    obtain ⟨_, ⟨L', _, hf, hn', _⟩, _⟩ := hfl.2.2.1
    exact Option.some.inj hf ▸ hn'
  refine with_calm g_noteFrame hc (wpAny_looks_onW (Around.frames_deeper K.stack) rfl hfl fun hA heldA upA cA => ?_)
  refine with_calm g_setFlight cA (wpAny_landsW heldA fun hB' heldB upB cB => ?_)
  have up := hsm.trans (upA.trans upB)
  obtain ⟨gB, TB', FB, KB⟩ := kts_ground K F hBG heldB.1 up
  obtain ⟨ob, hob, hobc⟩ := heldB.there
  obtain ⟨nm, q', N, bs, bm, hdct, sn, sub, ab, col, dd, k0, k1, k2, k3, k5, newId, hC, hbase, _⟩ := kts_cls (XB.keeps KB.stays) q
  refine wpAny_handleBy_cons (codeAny_handlers_test (name_K FB (XB.keeps KB.stays) (topRead_of (TB.keeps KB.stays)) ex ?_ hk hx hd)) (by intro q; cases q)
  refine wpAny_excMatches_sub_self (FB.keep _ _ hC) hob hobc hbase (codeAny_handlers_suite_as ?_)
  refine with_calm g_setFlight cB (lands_againW heldB fun hC' flC upC cC => ?_)
  have upZ := up.trans upC
  obtain ⟨gC, TC, FC, KC⟩ := kts_ground K F hBG flC.1 upZ
  obtain ⟨oe, ws, hoe, hoec, hoed, hoe0⟩ := flC.first
  obtain ⟨oe', ws', hoe', hoed', h2⟩ := cC
  obtain rfl : oe = oe' := Option.some.inj (hoe.symm.trans hoe')
  obtain rfl : ws = ws' := by rw [hoed] at hoed'; exact Data.fields.inj hoed'
  obtain ⟨ot, nt, hot, hotc, hotd⟩ := (htup.of_slots (upA.trans upB)).of_slots upC
  have newE : gC.get? e = none := TC.none_ _ (kts_fresh F hBG flC.2.1 fun o ho hm => by
    obtain ⟨_, o', ho', hd⟩ := K.frames.mem hm
    obtain rfl : o = o' := Option.some.inj (ho.symm.trans ho')
    obtain ⟨sl, hs⟩ := upZ _ _ (F.keep _ _ ho) hd
    rw [hoe] at hs
    cases hs
    exact hd _ hoed)
  have newT : gC.get? t = none := TC.none_ _ (kts_fresh F hBG hnew fun o ho hm => by
    obtain ⟨o', es, n', ho', hd⟩ := D _ hm
    obtain rfl : o = o' := Option.some.inj (ho.symm.trans ho')
    obtain ⟨sl, hs⟩ := upZ _ _ (F.keep _ _ ho) (fun vs q => by rw [hd] at q; cases q)
    rw [hot] at hs
    cases hs
    exact nomatch hd.symm.trans hotd)
  have two := News.more FC (News.more FC News.nil hot (fun es n q => by rw [hotd] at q; cases q) newT) hoe (fun es n q => by rw [hoed] at q; cases q) newE
  refine stN FC (news := _ ++ news) (fun q hq => (List.mem_append.mp hq).elim (two q) fun hq =>
    ⟨flC.1 _ _ (hl q hq).1, (fun z => by have z1 := (hl q hq).1; rw [z, hL] at z1; cases z1), TC.none_ _ (kts_none F.keep (hl q hq).2.1)⟩) (fun hD FD ND => ?_) hk hlo
  exact k hD gC _ _ (T0.trans TC) FD ND ⟨oe, ot, ws, nt, .head _, .tail _ (.head _), hoec, hoed, hoe0, h2, hotc, hotd⟩ KC (XB.keeps KC.stays) (TB.keeps KC.stays) (D.turn TC)
end
end
section
/-- nothing is handled, or an exception of the ledger's without a context -/
noncomputable def QuietH (hd : Option Value) (news : List (Addr × Obj)) : Prop :=
  hd = none ∨ ∃ x ox ws, hd = some (.ref x) ∧ (x, ox) ∈ news ∧ ox.data = .fields ws ∧ ws[2]? = some .none
/-- an exception of the ledger's is handled, one without a context -/
noncomputable def HeldH (hd : Option Value) (news : List (Addr × Obj)) : Prop :=
  ∃ x ox ws, hd = some (.ref x) ∧ (x, ox) ∈ news ∧ ox.data = .fields ws ∧ ws[2]? = some .none
/-- a contract that stands under a handled exception too -/
noncomputable def ConQ (T : Nat) (w : World) (D : Nat) (f : Addr) (vs : List Value) (news : List (Addr × Obj)) (Post : List (Addr × Obj) → Value → Prop) : Prop :=
  ∀ (mean : ExcName → Option Value) (mg mb : Str → Option Value) (hd : Option Value) (dp un : Nat) (gd : Option (List Code)) (cn : Str) (cs : Scope) (a : Addr) (ccd : Value) (cl : List (Str × Addr)) (outer : List Env) (A₀ : Around) (base h₀ : Heap) (L : Addr) (m : Str → Option Value) (s : Shared) (Q E : Value → Shared → Prop),
    Below A₀ base outer h₀ → Fr h₀ L s.heap m → (K w.params).In h₀ → News h₀ L s.heap news → Top qv loose mean mg mb h₀ → cs.kind = .function → QuietH hd news → T ≤ s.toks → dp + D < recursionLimit → un + 8 * D < cLine →
    (∀ (r : Value) (tl : List (Addr × Obj)) (h' : Heap) (tk' : Nat), Post tl r → (∀ p ∈ tl, ∀ q ∈ news, q.1 < p.1) → Fr h₀ L h' m → News h₀ L h' (tl ++ news) → Q r { s with heap := h', toks := tk' }) →
    wpAny (model pw w) (yTop hd dp un gd cn cs L a ccd cl outer) (call (.ref f) vs) Q E s
/-- the same where it raises a built-in exception -/
noncomputable def ConQR (T : Nat) (w : World) (D : Nat) (f : Addr) (vs : List Value) (news : List (Addr × Obj)) (cls : String) : Prop :=
  ∀ (mean : ExcName → Option Value) (mg mb : Str → Option Value) (hd : Option Value) (dp un : Nat) (gd : Option (List Code)) (cn : Str) (cs : Scope) (a : Addr) (ccd : Value) (cl : List (Str × Addr)) (outer : List Env) (A₀ : Around) (base h₀ : Heap) (L : Addr) (m : Str → Option Value) (s : Shared) (Q E : Value → Shared → Prop),
    Below A₀ base outer h₀ → Fr h₀ L s.heap m → (K w.params).In h₀ → News h₀ L s.heap news → Top qv loose mean mg mb h₀ → cs.kind = .function → HeldH hd news → T ≤ s.toks → dp + D < recursionLimit → un + 8 * D < cLine →
    (∀ (e : Addr) (g' h' : Heap) (tk' : Nat), Fr h₀ L g' m → g'.UpToSlots h' → RaisedSN base g' (envX cn cs L a ccd cl :: outer) e (.type cls) news h' → E (.ref e) { s with heap := h', toks := tk' }) →
    wpAny (model pw w) (yTop hd dp un gd cn cs L a ccd cl outer) (call (.ref f) vs) Q E s
section
variable {T : Nat} {w : World} {D : Nat} {f : Addr} {vs : List Value} {news : List (Addr × Obj)} {mean : ExcName → Option Value} {mg mb : Str → Option Value} {hd : Option Value} {dp un : Nat} {gd : Option (List Code)} {cn : Str} {cs : Scope} {a : Addr} {ccd : Value} {cl : List (Str × Addr)} {outer : List Env} {A₀ : Around} {base h₀ : Heap} {L : Addr} {m : Str → Option Value} {s : Shared} {Q E : Value → Shared → Prop}
theorem conQ_use {Post : List (Addr × Obj) → Value → Prop} (C : ConQ T w D f vs news Post) (B : Below A₀ base outer h₀) (F : Fr h₀ L s.heap m) (X : (K w.params).In h₀) (N : News h₀ L s.heap news) (Tp : Top qv loose mean mg mb h₀) (hk : cs.kind = .function) (hH : QuietH hd news) (hT : T ≤ s.toks) (hd1 : dp + D < recursionLimit) (hu : un + 8 * D < cLine)
    (ret : ∀ (r : Value) (tl : List (Addr × Obj)) (h' : Heap) (tk' : Nat), s.toks ≤ tk' → Post tl r → (∀ p ∈ tl, ∀ q ∈ news, q.1 < p.1) → Fr h₀ L h' m → News h₀ L h' (tl ++ news) → Q r { s with heap := h', toks := tk' }) :
    wpAny (model pw w) (yTop hd dp un gd cn cs L a ccd cl outer) (call (.ref f) vs) Q E s :=
  wpAny_with_toks (Nat.le_refl _) (wpAny_mono (C _ _ _ _ _ _ _ _ _ _ _ _ _ _ _ _ _ _ _ (fun r s' => s.toks ≤ s'.toks → Q r s') (fun e s' => s.toks ≤ s'.toks → E e s') B F X N Tp hk hH hT hd1 hu fun r tl h' tk' P' l' F' N' hk' => ret r tl h' tk' hk' P' l' F' N') (fun _ _ x => x) fun _ _ x => x)
theorem conQR_use {cls : String} (C : ConQR T w D f vs news cls) (B : Below A₀ base outer h₀) (F : Fr h₀ L s.heap m) (X : (K w.params).In h₀) (N : News h₀ L s.heap news) (Tp : Top qv loose mean mg mb h₀) (hk : cs.kind = .function) (hH : HeldH hd news) (hT : T ≤ s.toks) (hd1 : dp + D < recursionLimit) (hu : un + 8 * D < cLine)
    (ret : ∀ (e : Addr) (g' h' : Heap) (tk' : Nat), s.toks ≤ tk' → Fr h₀ L g' m → g'.UpToSlots h' → RaisedSN base g' (envX cn cs L a ccd cl :: outer) e (.type cls) news h' → E (.ref e) { s with heap := h', toks := tk' }) :
    wpAny (model pw w) (yTop hd dp un gd cn cs L a ccd cl outer) (call (.ref f) vs) Q E s :=
  wpAny_with_toks (Nat.le_refl _) (wpAny_mono (C _ _ _ _ _ _ _ _ _ _ _ _ _ _ _ _ _ _ _ (fun r s' => s.toks ≤ s'.toks → Q r s') (fun e s' => s.toks ≤ s'.toks → E e s') B F X N Tp hk hH hT hd1 hu fun e g' h' tk' F' U' R' hk' => ret e g' h' tk' hk' F' U' R') (fun _ _ x => x) fun _ _ x => x)
end
section
variable {prog : Program} {w : World} {A : Around} {E : Value → Shared → Prop} {s : Shared} {env : Env}
theorem raiseStmt_calm {cls : String} (F : ExcRaiseFacts cls) {x : Sem Value} {c : Addr} {Q : Flow → Shared → Prop} (hh : A.handled = some (.ref c))
    (h : wpAny (model prog w) A x (fun v s₁ => ∃ e t, v = .ref e ∧ s₁.heap.get? e = some { cls := .type cls, data := .fields #[.ref t, .none, .none, .none, .bool false, .none] } ∧ Calm s₁.heap c ∧ c ≠ e ∧ E (.ref e) { s₁ with heap := s₁.heap.update e (Obj.mapFields (·.setIfInBounds 2 (.ref c))) }) E s) :
    wpAny (model prog w) A (raiseStmt env (some x) none) Q E s := by
  unfold raiseStmt
  refine wpAny_bind (wpAny_mono h (fun v s₁ h₁ => ?_) fun _ _ x => x)
  obtain ⟨e, t, rfl, he, hc, hne, hE⟩ := h₁
  obtain ⟨hp, g, d, tk, os⟩ := s₁
  have hsub := F.isExc
  have hmeta := F.plainMeta
  repeat (first | refine wpAny_loadPart he ?_ | wp_step)
  exact raiseNew_calm hh hne hc he rfl (by show 2 < 6; decide) hE
theorem Raise_calm {cls newId initId : String} (FC : ExcCallFacts cls newId initId) (FR : ExcRaiseFacts cls) {x : Str} {np cpos pos : Pos} {e₀ : Expr} {c : Addr} {Q : Flow → Shared → Prop} (hh : A.handled = some (.ref c))
    (h : wpAny (model prog w) A (eval (.Name x np) env) (fun f s₁ => f = .type cls ∧ wpAny (model prog w) A (spliced (backTo cpos (starEach [e₀] env)))
      (fun vs s₂ => vs.length ≤ sizeLine ∧ Calm s₂.heap c ∧ ∀ h' e, Heap.NewExcOf s₂.heap h' e cls → E (.ref e) { s₂ with heap := h' }) E s₁) E s)
    (he : starEach [e₀] env = [(false, eval e₀ env)] := by rfl) :
    wpAny (model prog w) A (exec (.Raise (some (.Call (.Name x np) [e₀] [] cpos)) none pos) env) Q E s := by
  rw [arm_exec_Raise]
  show wpAny _ _ (do standAt pos; raiseStmt env (some (do let v ← eval (.Call (.Name x np) [e₀] [] cpos) env; standAt pos; pure v)) none) Q E s
  refine wpAny_bind (wpAny_standAt (raiseStmt_calm FR hh (wpAny_bind (wpAny_mono (wpAny_Call_ofName (wpAny_mono h (fun f s₁ h₁ => ?_) fun _ _ x => x)) (fun v s₃ h₃ => wpAny_bind (wpAny_standAt (wpAny_pure h₃))) fun _ _ x => x))))
  obtain ⟨rfl, h₁⟩ := h₁
  refine callWith_excType (by rw [he]; rfl) ?_
  rw [he] at h₁ ⊢
  refine Calls.evalArgs_plain (wpAny_mono h₁ (fun vs s₂ h₂ => ?_) fun _ _ x => x)
  obtain ⟨hp, g, d, tk, os⟩ := s₂
  obtain ⟨hlen, hc, h₃⟩ := h₂
  refine wpAny_call_exc FC (hrest := hlen) fun h' e hm => ?_
  obtain ⟨t, ht, _, _⟩ := hm.there
  have hne : c ≠ e := by
    rintro rfl
    obtain ⟨o, ws, ho, _⟩ := hc
    have := hm.new
    rw [ho] at this
    cases this
  refine ⟨e, t, rfl, ht, hc.keeps hm.keeps, hne, h₃ _ e ⟨fun b o hb => ?_, hm.new, ?_⟩⟩
  · have : e ≠ b := by
      rintro rfl
      have z := hm.new
      rw [hb] at z
      cases z
    exact (Heap.get?_update_other _ _ this).trans (hm.keeps _ _ hb)
  · exact ⟨_, _, Heap.get?_update_self _ ht rfl, rfl, rfl, rfl⟩
end
section
variable {M : Model} {A : Around} {E : Value → Shared → Prop} {s' : Shared} {base g h : Heap} {outer : List Env} {L a e : Addr} {m : Str → Option Value} {name : Str} {scope : Scope} {cd : Value} {Q : Unit → Shared → Prop} {news : List (Addr × Obj)}
/-- a def's body raises a built-in exception, whose context may be another one -/
theorem leave_newC {cls : String} (K : Below A base outer g) (hx : Heap.NewExcOf h s'.heap e cls) (F : Fr g L h m) (N : News g L h news)
    (hQ : ∀ h', RaisedSN base g outer e (.type cls) news h' → g.UpToSlots h' → Q () { s' with heap := h' }) (hk : scope.kind = .function := by rfl) :
    wpAny M (A.deeper (envOf name scope L a cd)) (leaving (envOf name scope L a cd) (.ref e)) Q E s' := by
  have K' := K.push (name := name) (a := a) (cd := cd) F hk
  obtain ⟨ob, vs, he, hcl, hd, h1⟩ := hx.there
  have hB : ∀ {b o}, (hideAll h ((envOf name scope L a cd :: outer).filterMap (·.frame))).get? b = some o → h.get? b = some o := fun q => of_hideAll _ q
  have up : ∀ b o, h.get? b = some o → b ∉ (envOf name scope L a cd :: outer).filterMap (·.frame) → (hideAll h ((envOf name scope L a cd :: outer).filterMap (·.frame))).get? b = some o := fun b o q n => hideAll_get _ q n
  have fn : ∀ b, b ∈ outer.filterMap (·.frame) → ∃ o, g.get? b = some o := fun b hb => by
    obtain ⟨o, ho, _⟩ := (K.frames.mem hb).2
    exact ⟨o, ho⟩
  have new : (hideAll h ((envOf name scope L a cd :: outer).filterMap (·.frame))).get? e = none := by
    cases q : (hideAll h ((envOf name scope L a cd :: outer).filterMap (·.frame))).get? e with
    | none => rfl
    | some o => have z := hB q; rw [hx.new] at z; cases z
  subst_vars
  obtain ⟨oc, od, odt, os⟩ := ob
  dsimp only at hcl hd
  subst hcl hd
  refine wpAny_leaving_firstW (a0 := (vs[0]?).getD .none) K'.stack ((funFrames_hide K'.frames fun env he' b hb => List.mem_filterMap.mpr ⟨env, he', hb⟩).of_keeps fun b o hb _ => ⟨o, hx.keeps b o hb, rfl⟩) rfl he (fun b o hb => hx.keeps b o (hB hb)) new rfl h1 ?_ fun h' hL => ?_
  · have : 1 < vs.size := (Array.getElem?_eq_some_iff.mp h1).1
    rw [Array.getElem?_eq_getElem (by omega)]
    rfl
  · obtain ⟨k1, ⟨_, _, k2⟩, k3, k4⟩ := hL
    refine hQ h' ⟨_, _, fun b o q => up b o (K'.stays b o q) fun hm => ?_, fun b o q nm => up b o (F.keep b o q) fun hm => ?_, fun q hq => ⟨up _ _ (N q hq).1 fun hm => ?_, (N q hq).2.2, fresh_of_stays K.stays (N q hq).2.2⟩, k1, new, k2, k3⟩ (((Heap.UpToSlots.of_keeps F.keep).trans (Heap.UpToSlots.of_keeps hx.keeps)).trans k4)
    · rw [(K'.frames.mem hm).1] at q; cases q
    · rcases kts_mem hm with z | z
      · rw [z, kts_self F] at q; cases q
      · exact nm z
    · rcases kts_mem hm with z | z
      · exact (N q hq).2.1 z
      · obtain ⟨o, ho⟩ := fn _ z
        rw [(N q hq).2.2] at ho; cases ho
end
end
section
section
variable {prog : Program} {w : World} {A : Around} {E E₁ : Value → Shared → Prop} {s : Shared} {env : Env} {h₀ : Heap} {a b : Str} {pa pb tp : Pos} {kk : Nat} {body orelse : List Stmt}
theorem enum_loop {R : Result → Shared → Prop} {l : Addr} {items : Array Value} {k : Nat} {m₀ : Str → Option Value} {news : List (Addr × Obj)} (J : Nat → (Str → Option Value) → Prop)
    (ha : env.kindOf a = some .local) (hb : env.kindOf b = some .local) (hp : (env.scope.kind == .class || (env.scope.kind == .module && env.locals != env.globals)) = false)
    (hq : QuietH A.handled news)
    (hl : (l, W.listOf items k) ∈ news)
    (F : Fr h₀ env.locals s.heap m₀) (N : News h₀ env.locals s.heap news) (h0 : J 0 m₀)
    (turn : ∀ i v m₁ t h tk E' e it oe oi, items[i]? = some v → J i m₁ → (∀ p ∈ news, p.1 < it) → it < e → Fr h₀ env.locals h (fun y => if y = b then some v else if y = a then some (.int (i : Int) t) else m₁ y) → News h₀ env.locals h ((e, oe) :: (it, oi) :: news) →
      wpAny (model prog w) A (execs body env) (EnEnd h₀ env.locals { s with heap := h, toks := tk } ((e, oe) :: (it, oi) :: news) (J (i + 1)) (fun v s₃ => R (.ok (.ret v)) s₃)) E' { s with heap := h, toks := tk })
    (done : ∀ m₁ h tk, J items.size m₁ → Fr h₀ env.locals h m₁ → News h₀ env.locals h news → wpAny (model prog w) A (execs orelse env) (fun f s₃ => R (.ok f) s₃) (notedBy (model prog w) A env fun e s' => R (.error e) s') { s with heap := h, toks := tk }) :
    wpAny (model prog w) A (call (.type "enumerate") [.ref l]) (fun x s₁ => wpAny (model prog w) A (pyIter x) (fun it s₂ => codeAny (model prog w) A (.forLoop (.Tuple [.Name a pa, .Name b pb] kk tp) it body orelse env) R s₂) E₁ s₁) E s := by
  have hL : s.heap.IsList l items := ⟨_, (N _ hl).1, rfl, k, rfl⟩
  have hlt : @LT.lt Nat instLTNat env.locals s.heap.objs.size := F.ns.lt
  have hlp : ∀ p ∈ news, @LT.lt Nat instLTNat p.1 s.heap.objs.size := fun p hp => Heap.lt_size (N p hp).1
  have hab : @LE.le Nat instLENat h₀.objs.size env.locals := F.above
  refine call_enumerate_list hL fun h' he hit hsz hk => ?_
  refine wpAny_pyIter_enum he ?_
  have e0 : h₀.get? s.heap.objs.size = none := Heap.get?_none_of_le (Nat.le_trans hab (Nat.le_of_lt hlt))
  have e1 : h₀.get? (s.heap.objs.size + 1) = none := Heap.get?_none_of_le (Nat.le_trans hab (Nat.le_of_lt (Nat.lt_succ_of_lt hlt)))
  refine for_enum (ax := 0) (s := { s with heap := h' }) J ha hb hp hq hl he hit (Nat.succ_ne_self _) e1 e0 (Nat.ne_of_lt (Nat.lt_succ_of_lt hlt)) (Nat.ne_of_lt hlt) (fun p hp => ⟨Nat.ne_of_lt (Nat.lt_succ_of_lt (hlp p hp)), Nat.ne_of_lt (hlp p hp)⟩)
    (F.keeps hk) (N.grown hk) h0 (fun i v m₁ t h tk E' oe oi hi hJ F' N' => turn i v m₁ t h tk E' _ _ oe oi hi hJ hlp (Nat.lt_succ_self _) F' N') done
end
end
section
theorem idx_ltL {vs : List Value} {rows : List (List Bool)} {news : List (Addr × Obj)} (hv : All2 (RowR news) vs rows) {i : Nat} {v : Value} (h : vs.toArray[i]? = some v) : ∃ bs, rows[i]? = some bs ∧ RowR news v bs := hv.get (by simpa using h)
theorem off_ijL {i j : Str} {m₁ m₀ : Str → Option Value} {v u : Option Value} (h : ∀ y, y ≠ i → y ≠ j → m₁ y = m₀ y) : (fun y => if y = j then v else if y = i then u else m₁ y) = fun y => if y = j then v else if y = i then u else m₀ y := by
  funext y
  split
  · rfl
  · split
    · rfl
    · exact h y ‹_› ‹_›
theorem idx_isL {rows : List (List Bool)} {cs : List Bool} {i : Nat} (h1 : rows[i]? = some cs) (h2 : ∀ j, j < i → rows[j]? ≠ some cs) : rows.idxOf cs = i := by
  induction rows generalizing i with
  | nil => simp at h1
  | cons r rows ih =>
    cases i with
    | zero =>
      cases h1
      simp
    | succ i =>
      have hr : r ≠ cs := fun e => h2 0 (Nat.succ_pos _) (by rw [e]; rfl)
      have := ih (i := i) h1 fun j hj => h2 (j + 1) (by omega)
      rw [List.idxOf_cons, cond_eq_if, if_neg (by simpa using hr), this]
theorem low_nextL {rows : List (List Bool)} {bs cs : List Bool} {i : Nat} (h1 : rows[i]? = some bs) (hn : ¬ bs = cs) (h2 : ∀ j, j < i → rows[j]? ≠ some cs) : ∀ j, j < i + 1 → rows[j]? ≠ some cs := by
  intro j hj
  by_cases e : j = i
  · subst e
    rw [h1]
    intro q
    exact hn (Option.some.inj q)
  · exact h2 j (by omega)
theorem noOrdL {news : List (Addr × Obj)} : ∀ p ∈ ([] : List (Addr × Obj)), ∀ q ∈ news, q.1 < p.1 := fun _ h => nomatch h
set_option maxHeartbeats 4000000 in
theorem con_indexL (w : World) (news : List (Addr × Obj)) (la lb : Addr) (vs : List Value) (n : Nat) (rows : List (List Bool)) (cs : List Bool) (hm : (la, W.listOf vs.toArray n) ∈ news) (hv : All2 (RowR news) vs rows) (hb : RowR news (.ref lb) cs) (hne : ∀ v ∈ vs, v ≠ .ref lb) (hcs : cs ∈ rows) : Con false 0 w 12 49 [.ref la, .ref lb] news (fun tl r => ∃ t, r = .int (rows.idxOf cs : Nat) t ∧ tl = []) := by
  w_top off
  k_with_none
  k_with "y_room" => first | ((try simp only [depth_under_make, depth_under_kw, depth_in1, depth_deeper, depth_caller]); (try dsimp only [yTop]); first | exact lim2 (by assumption) rfl | exact lim1 (by assumption) rfl | exact lim0 (by assumption)) | ((try simp only [depth_under_make, depth_under_kw, depth_in1, depth_deeper, depth_caller] at *); (try dsimp only [yTop] at *); omega)
  k_with "y_units" => first | ((try simp only [units_in1, units_deeper, Around.mark_units, units_caller]); (try dsimp only [yTop]); first | exact lim2 (by assumption) rfl | exact lim1 (by assumption) rfl) | (have hcL9 := cLine_is; ((try simp only [units_in1, units_deeper, Around.mark_units, units_caller] at *); (try dsimp only [yTop] at *); omega))
  k_with "y_k5" => ((case k1 => k_asm); (case k2 => k_asm); (case k3 => k_asm); (case k4 => k_asm); (case k5 => k_asm))
  k_with "y_eC" => ((case kA => exact rfl); (case kF => exact rfl); (case kK => assumption); k_extra "y_k5"; (case k6 => k_is); (case k7 => k_is); (case k8 => ktr_room); (case k9 => exact BindsTo.of_eq rfl); (case c2 => exact rfl); (case c3 => exact rfl); (case c4 => exact rfl))
  k_with "y_e1" => (k_extra "y_eC"; (case c5 => decide); (case kB => exact locs rfl); k_whole; intro g' L' h' FG' F' N' B' X' T'; (try dsimp only); (try k_lift B'); (try k_fold))
  k_with "exec For Name Name cons nil" => (k_here; refine stop_ ?_)
  k_with "last pyIter ref" => (k_here; refine stop_ ?_)
  k_with "compareOp Eq ref ref" => (k_here; k_dflt (refine' eq_bools ?Nv2 ?av2 ?bv2 ?uv2 ?_; (case Nv2 => k_asm); (case av2 => assumption); (case bv2 => assumption); (case uv2 => (have hcL9 := cLine_is; (try simp only [units_in1, units_deeper, Around.mark_units, units_caller] at *); (try dsimp only [yTop] at *); omega))))
  k_with "compareOp Is ref ref" => (k_here; k_dflt (refine' is_rows ?Nv3 ?av3 ?bv3 ?cv3 ?_; (case Nv3 => k_asm); (case av3 => assumption); (case bv3 => assumption); (case cv3 => assumption)))
  k_with "exec For Tuple Call cons cons" => (k_here; refine stop_ ?_)
  k_with "call type:enumerate" => (k_here; refine stop_ ?_)
  unfold Con
  intros
  rename_i hret
  rename_i hH hTk _ _
  obtain rfl := hH.resolve_left Bool.false_ne_true
  refine wpAny_call ?_
  k_dflt (refine' code_def (binds := [(Str.ofString "a", .ref la), (Str.ofString "b", .ref lb)]) ?k1 ?k2 ?k3 ?k4 ?k5 ?kA ?kF ?kK ?k6 ?k7 ?k8 ?k9 ?kB ?_ ?c2 ?c3 ?c4 ?c5; k_extra "y_e1")
  k_steps
  unfold Stop
  rename Fr _ _ _ _ => lF'
  rename News _ _ _ _ => lN'
  refine wpAny_For ?_ (by intro z; rfl)
  k_steps
  unfold Stop
  k_dflt (refine' enum_loop (env := envOf (Str.ofString "indexOf") (fnScope (stAt 5)) _ 49 (Value.ref 48)) (items := vs.toArray) (fun i m => (∀ j, j < i → rows[j]? ≠ some cs) ∧ ∀ y, y ≠ Str.ofString "i" → y ≠ Str.ofString "j" → m y = List.lookup y [(Str.ofString "a", Value.ref la), (Str.ofString "b", Value.ref lb)].reverse) ?x1 ?x2 ?x3 ?x4 hm lF' lN' ?x5 ?tu ?dn)
  case x1 => exact rfl
  case x2 => exact rfl
  case x3 => exact rfl
  case x4 => exact .inl rfl
  case x5 => exact ⟨fun j hj => absurd hj (Nat.not_lt_zero _), fun y _ _ => rfl⟩
  case tu =>
    rintro i v m₁ t h tk E' e it oe oi hi ⟨hJ, hm1⟩ hlt hlt2 F N
    obtain ⟨bs, hbs, a9, n9, rfl, ha9⟩ := idx_ltL hv hi
    have hA9 : RowR ((e, oe) :: (it, oi) :: news) (.ref a9) bs := ⟨_, _, rfl, List.mem_cons_of_mem _ (List.mem_cons_of_mem _ ha9)⟩
    have hB9 : RowR ((e, oe) :: (it, oi) :: news) (.ref lb) cs := hb.mono fun _ h => List.mem_cons_of_mem _ (List.mem_cons_of_mem _ h)
    have hna : ¬ a9 = lb := fun e => hne _ (List.mem_of_getElem? (by simpa using hi)) (by rw [e])
    clear lF' lN'
    rw [off_ijL hm1] at F
    k_steps
    · obtain rfl : bs = cs := by assumption
      have hix := idx_isL hbs hJ
      dsimp only [EnEnd]
      k_steps
      all_goals (refine' hret _ [] _ _ ⟨_, by rw [hix], rfl⟩ ?o ?f ?n; (case o => exact noOrdL); (case f => k_asm); (case n => refine' y_drop ?N ?S; (case N => k_asm); (case S => kcj_all)))
    · refine' ⟨_, _, _, rfl, F, ?nn, low_nextL hbs (by assumption) hJ, fun y h1 h2 => ?mm⟩
      case nn => k_asm
      case mm => dsimp only; rw [if_neg h2, if_neg h1]
  case dn =>
    rintro m₁ h tk ⟨hJ, hm1⟩ F N
    exfalso
    obtain ⟨i, hi⟩ := List.getElem?_of_mem hcs
    have hi2 := (List.getElem?_eq_some_iff.mp hi).1
    exact hJ i (by rw [List.size_toArray, hv.length]; exact hi2) hi
end
section
noncomputable def rowB (k : Nat) : List Bool := [tab k 0, tab k 1, tab k 2, tab k 3, tab k 4, tab k 5, tab k 6]
theorem idx_inj {α β : Type} [BEq α] [LawfulBEq α] [BEq β] [LawfulBEq β] (f : α → β) (a : α) : ∀ l : List α, (∀ x ∈ l, f x = f a → x = a) → (l.map f).idxOf (f a) = l.idxOf a
  | [], _ => rfl
  | x :: r, h => by
    have ih := idx_inj f a r fun y hy => h y (List.mem_cons_of_mem _ hy)
    simp only [List.map_cons, List.idxOf_cons]
    by_cases e : x = a
    · subst e; simp
    · have e' : ¬ f x = f a := fun q => e (h x (List.mem_cons_self ..) q)
      rw [beq_false_of_ne e, beq_false_of_ne e', ih]
theorem count_inj {α β : Type} [BEq α] [LawfulBEq α] [BEq β] [LawfulBEq β] (f : α → β) (a : α) : ∀ l : List α, (∀ x ∈ l, f x = f a → x = a) → (l.map f).count (f a) = l.count a
  | [], _ => rfl
  | x :: r, h => by
    have ih := count_inj f a r fun y hy => h y (List.mem_cons_of_mem _ hy)
    simp only [List.map_cons, List.count_cons]
    by_cases e : x = a
    · subst e; simp [ih]
    · have e' : ¬ f x = f a := fun q => e (h x (List.mem_cons_self ..) q)
      simp [e, e', ih]
theorem ref_ne {a b : Addr} (h : @LT.lt Nat instLTNat a b) : Value.ref a ≠ Value.ref b := fun q => by
  injection q with q
  exact Nat.ne_of_lt h q
/-- a unit's row of answers -/
noncomputable def rowU (u : Int) : List Bool := [decide (u = 0), decide (u = 1), decide (u = 2), decide (u = 3), decide (u = 4), decide (u = 5), decide (u = 6)]
theorem rowB_U {k : Nat} {x : Int} (h : SignOk x.toNat k) (h0 : 0 ≤ x) : rowB k = rowU x := by
  have q : ∀ j : Nat, j < 7 → tab k j = decide (x = (j : Int)) := fun j hj => by
    rw [h.2.2 j hj]
    by_cases e : x.toNat = j
    · have : x = (j : Int) := by omega
      simp [e, this]
    · have : ¬ x = (j : Int) := fun q => e (by omega)
      simp [e, this]
  unfold rowB rowU
  rw [q 0 (by omega), q 1 (by omega), q 2 (by omega), q 3 (by omega), q 4 (by omega), q 5 (by omega), q 6 (by omega)]
  rfl
theorem rowU_dec : ∀ a < 8, ∀ b < 8, rowU ((a : Nat) : Int) = rowU ((b : Nat) : Int) → a = b := by decide +kernel
theorem rowU_inj {x y : Int} (hx : 0 ≤ x ∧ x < 8) (hy : 0 ≤ y ∧ y < 8) (h : rowU x = rowU y) : x = y := by
  have := rowU_dec x.toNat (by omega) y.toNat (by omega) (by rw [Int.toNat_of_nonneg hx.1, Int.toNat_of_nonneg hy.1]; exact h)
  omega
theorem rows_idx {x0 x1 x2 x3 : Int} (h0 : 0 ≤ x0 ∧ x0 < 8) (h1 : 0 ≤ x1 ∧ x1 < 8) (h2 : 0 ≤ x2 ∧ x2 < 8) (h3 : 0 ≤ x3 ∧ x3 < 8) : ([rowU x0, rowU x1, rowU x2, rowU x3] : List (List Bool)).idxOf (rowU x3) = ([x0, x1, x2, x3] : List Int).idxOf x3 :=
  idx_inj rowU x3 [x0, x1, x2, x3] fun x hx e => rowU_inj (by
    simp only [List.mem_cons, List.not_mem_nil, or_false] at hx
    rcases hx with rfl | rfl | rfl | rfl <;> assumption) h3 e
theorem rows_count {x0 x1 x2 x3 : Int} (h0 : 0 ≤ x0 ∧ x0 < 8) (h1 : 0 ≤ x1 ∧ x1 < 8) (h2 : 0 ≤ x2 ∧ x2 < 8) (h3 : 0 ≤ x3 ∧ x3 < 8) : ([rowU x0, rowU x1, rowU x2, rowU x3] : List (List Bool)).count (rowU x3) = ([x0, x1, x2, x3] : List Int).count x3 :=
  count_inj rowU x3 [x0, x1, x2, x3] fun x hx e => rowU_inj (by
    simp only [List.mem_cons, List.not_mem_nil, or_false] at hx
    rcases hx with rfl | rfl | rfl | rfl <;> assumption) h3 e
section
variable {prog : Program} {w : World} {A : Around} {E : Value → Shared → Prop} {s : Shared} {h₀ : Heap} {L ua : Addr} {news : List (Addr × Obj)} {n : Nat} {x0 x1 x2 x3 : Int} {e0 e1 e2 e3 t : Tok} {Q : Value → Shared → Prop}
theorem ints4 : IntsAre [.int x0 e0, .int x1 e1, .int x2 e2, .int x3 e3] [x0, x1, x2, x3] := .cons _ _ (.cons _ _ (.cons _ _ (.cons _ _ .nil)))
theorem lay4 : ∀ a < 8, ∀ b < 8, ∀ c < 8, ∀ d < 8, PyData.layable0 (.list (([((a : Nat) : Int), ((b : Nat) : Int), ((c : Nat) : Int), ((d : Nat) : Int)] : List Int).map .int)) = true := by decide +kernel
theorem lay4i (h0 : 0 ≤ x0 ∧ x0 < 8) (h1 : 0 ≤ x1 ∧ x1 < 8) (h2 : 0 ≤ x2 ∧ x2 < 8) (h3 : 0 ≤ x3 ∧ x3 < 8) : PyData.layable0 (.list (([x0, x1, x2, x3] : List Int).map .int)) = true := by
  have := lay4 x0.toNat (by omega) x1.toNat (by omega) x2.toNat (by omega) x3.toNat (by omega)
  rwa [Int.toNat_of_nonneg h0.1, Int.toNat_of_nonneg h1.1, Int.toNat_of_nonneg h2.1, Int.toNat_of_nonneg h3.1] at this
theorem ne_same {a : Int} {u : Tok} (h : Q (.bool false) s) : wpAny (model prog w) A (compareOp .NotEq (.int a t) (.int a u)) Q E s := by
  refine PyProof.Rows.ne_int ?_
  rw [show (a != a) = false by simp]
  exact h
theorem index4 (h0 : 0 ≤ x0 ∧ x0 < 8) (h1 : 0 ≤ x1 ∧ x1 < 8) (h2 : 0 ≤ x2 ∧ x2 < 8) (h3 : 0 ≤ x3 ∧ x3 < 8) (N : News h₀ L s.heap news) (hm : (ua, W.listOf #[.int x0 e0, .int x1 e1, .int x2 e2, .int x3 e3] n) ∈ news) (h : Q (.int (([x0, x1, x2, x3] : List Int).idxOf x3 : Nat) s.toks) { s with toks := s.toks + 1 }) : wpAny (model prog w) A (call (.builtin "list.index") [.ref ua, .int x3 t]) Q E s :=
  index_list_ints (vs := [.int x0 e0, .int x1 e1, .int x2 e2, .int x3 e3]) (ns := [x0, x1, x2, x3]) ⟨_, (N _ hm).1, rfl, n, rfl⟩ ints4 (lay4i h0 h1 h2 h3) (by simp) h
theorem count4 (N : News h₀ L s.heap news) (hm : (ua, W.listOf #[.int x0 e0, .int x1 e1, .int x2 e2, .int x3 e3] n) ∈ news) (h : Q (.int (([x0, x1, x2, x3] : List Int).count x3 : Nat) s.toks) { s with toks := s.toks + 1 }) : wpAny (model prog w) A (call (.builtin "list.count") [.ref ua, .int x3 t]) Q E s :=
  count_list_ints (vs := [.int x0 e0, .int x1 e1, .int x2 e2, .int x3 e3]) (ns := [x0, x1, x2, x3]) ⟨_, (N _ hm).1, rfl, n, rfl⟩ ints4 h
end
set_option maxHeartbeats 4000000 in
theorem stage_d (SC : LawR 7) : LawR 6 := by
  w_top off
  k_with_none
  k_with "y_room" => first | ((try simp only [depth_under_make, depth_under_kw, depth_in1, depth_deeper, depth_caller]); (try dsimp only [yTop]); first | exact lim2 (by assumption) rfl | exact lim1 (by assumption) rfl | exact lim0 (by assumption)) | ((try simp only [depth_under_make, depth_under_kw, depth_in1, depth_deeper, depth_caller] at *); (try dsimp only [yTop] at *); omega)
  k_with "y_units" => first | ((try simp only [units_in1, units_deeper, Around.mark_units, units_caller]); (try dsimp only [yTop]); first | exact lim2 (by assumption) rfl | exact lim1 (by assumption) rfl) | (have hcL9 := cLine_is; ((try simp only [units_in1, units_deeper, Around.mark_units, units_caller] at *); (try dsimp only [yTop] at *); omega))
  k_with "y_k5" => ((case k1 => k_asm); (case k2 => k_asm); (case k3 => k_asm); (case k4 => k_asm); (case k5 => k_asm))
  k_with "y_args" => (k_extra "y_k5"; (case kK => first | exact rfl | assumption); (case kH => first | exact Or.inl rfl | exact Or.inr rfl | assumption); (case kT => first | exact Nat.zero_le _ | (dsimp only at *; omega)); (case kd => ktr_room); (case ku => ktr_units))
  k_with "call builtin:list.index" => (k_here; k_dflt (refine' index4 ?i1v0 ?i2v0 ?i3v0 ?i4v0 ?iav0 ?ibv0 ?_; (case iav0 => k_asm); (case ibv0 => k_mem); (case i1v0 => assumption); (case i2v0 => assumption); (case i3v0 => assumption); (case i4v0 => assumption)); (try dsimp only))
  k_with "call builtin:list.count" => (k_here; k_dflt (refine' count4 ?iav1 ?ibv1 ?_; (case iav1 => k_asm); (case ibv1 => k_mem)); (try dsimp only))
  k_with "compareOp NotEq int int" => (k_here; (with_reducible refine ne_same ?_); (try dsimp only))
  k_with "execs cons" => (k_here; (with_reducible show wpAny _ _ (execs (PySem.Stmt.Assign _ _ _ :: _) _) _ _ _); refine stop_ ?_)
  k_with "call ref" => (k_here; (with_reducible show wpAny _ _ (call (Value.ref 49) _) _ _ _); refine stop_ ?_)
  k_with "call ref" => (k_here; (with_reducible show wpAny _ _ (call (Value.ref 42) _) _ _ _); refine stop_ ?_)
  k_with "subscriptTail Name Constant ref int" => (k_here; k_dflt (refine' item_mem ?iNv6 ?iMv6 ?i0v6 ?i1v6 ?i2v6 ?_ ?i3v6; (case iNv6 => k_asm); (case iMv6 => k_mem); (case i0v6 => decide); (case i1v6 => decide); (case i2v6 => rfl); (case i3v6 => with_unfolding_all rfl); (try dsimp only); (try k_fold)))
  intro w mean mg mb dp un gd L fa cdv A₀ h₀ sa c0 c1 c2 c3 k0 k1 k2 k3 ca ta ua da r0 r1 r2 r3 a0 a1 a2 a3 b0 b1 b2 b3 e0 e1 e2 e3 n1 n2 n3 n4 o1 o2 o3 o4  s Q E B F X N d4 d3 d2 d1 g0 g1 g2 g3 lda lr0 lr1 lr2 lr3 lua lta lca  Tp hdp hun hret
  have f0 := fmod8 c0
  have f1 := fmod8 c1
  have f2 := fmod8 c2
  have f3 := fmod8 c3
  have w0 := rowB_U g0 f0.1
  have w1 := rowB_U g1 f1.1
  have w2 := rowB_U g2 f2.1
  have w3 := rowB_U g3 f3.1
  k_steps
  unfold Stop
  rename_i D9 z9 _ _ _ l9
  k_dflt (refine' con_use (con_indexL w _ da D9 [.ref r0, .ref r1, .ref r2, .ref r3] n4 [rowB k0, rowB k1, rowB k2, rowB k3] (rowB k3) ?m8 ?m9 ?m10 ?m11 ?m12) ?k1 ?k2 ?k3 ?k4 ?k5 ?kK ?kH ?kT ?kd ?ku ?_)
  k_extra "y_args"
  case m8 => k_mem
  case m9 => exact .cons ⟨r0, 0, rfl, by k_mem⟩ (.cons ⟨r1, 0, rfl, by k_mem⟩ (.cons ⟨r2, 0, rfl, by k_mem⟩ (.cons ⟨r3, 0, rfl, by k_mem⟩ .nil)))
  case m10 => exact ⟨D9, z9, rfl, by k_mem⟩
  case m11 =>
    simp only [List.forall_mem_cons]
    exact ⟨ref_ne l9.2.1, ref_ne l9.2.2.1, ref_ne l9.2.2.2.1, ref_ne l9.2.2.2.2.1, fun _ h => nomatch h⟩
  case m12 => simp
  intro r9 tl9 h9 tk9 T9 P9 l8 F9 N9
  obtain ⟨t9, rfl, rfl⟩ := P9
  simp only [List.nil_append] at N9
  rw [w0, w1, w2, w3, rows_idx f0 f1 f2 f3]
  dsimp only
  k_fold
  k_steps
  unfold Stop
  rename_i D8 z8 _ _ _ l7
  k_dflt (refine' conV_use (con_countL w _ da D8 [.ref r0, .ref r1, .ref r2, .ref r3] n4 [rowB k0, rowB k1, rowB k2, rowB k3] (rowB k3) ?m8 ?m9 ?m10 ?m11) ?k1 ?k2 ?k3 ?k4 ?k5 ?kK ?kH ?kT ?kd ?ku ?_)
  k_extra "y_args"
  case m8 => k_mem
  case m9 => exact .cons ⟨r0, 0, rfl, by k_mem⟩ (.cons ⟨r1, 0, rfl, by k_mem⟩ (.cons ⟨r2, 0, rfl, by k_mem⟩ (.cons ⟨r3, 0, rfl, by k_mem⟩ .nil)))
  case m10 => exact ⟨D8, z8, rfl, by k_mem⟩
  case m11 =>
    simp only [List.forall_mem_cons]
    exact ⟨ref_ne l7.2.2.1, ref_ne l7.2.2.2.1, ref_ne l7.2.2.2.2.1, ref_ne l7.2.2.2.2.2.1, fun _ h => nomatch h⟩
  intro t9 h9 tk9 T9 F9 N9
  rw [w0, w1, w2, w3, rows_count f0 f1 f2 f3]
  dsimp only
  k_fold
  k_steps
  unfold Stop
  rename News _ _ _ _ => lN9
  rename Fr _ _ _ _ => lF9
  have N8 : News _ _ _ [(da, W.listOf #[.ref r0, .ref r1, .ref r2, .ref r3] n4), (r0, rowO k0), (r1, rowO k1), (r2, rowO k2), (r3, rowO k3), (ua, W.listOf #[.int (c0.fmod 8) e0, .int (c1.fmod 8) e1, .int (c2.fmod 8) e2, .int (c3.fmod 8) e3] n3), (ta, W.listOf #[.str ⟨#[k0]⟩ b0, .str ⟨#[k1]⟩ b1, .str ⟨#[k2]⟩ b2, .str ⟨#[k3]⟩ b3] n2), (ca, W.listOf #[.int c0 a0, .int c1 a1, .int c2 a2, .int c3 a3] n1), (L + 1 + 1 + 1 + 1, o4), (L + 1 + 1 + 1, o3), (L + 1 + 1, o2), (L + 1, o1)] := fun p hp => lN9 p (by repeat (first | exact hp | apply List.mem_cons_of_mem))
  exact SC w mean mg mb dp un gd L fa cdv A₀ h₀ sa c0 c1 c2 c3 k0 k1 k2 k3 ca ta ua da r0 r1 r2 r3 a0 a1 a2 a3 b0 b1 b2 b3 e0 e1 e2 e3 n1 n2 n3 n4 o1 o2 o3 o4 _ Q E B lF9 X N8 d4 d3 d2 d1 g0 g1 g2 g3 lda lr0 lr1 lr2 lr3 lua lta lca Tp hdp hun hret
end
section
noncomputable def towerZ (b : Int) (n : Nat) : List Int := (List.range n).map fun i => b ^ i
/-- the same behind the tower -/
noncomputable def LawT (k : Nat) : Prop := ∀ (w : World) (mean : ExcName → Option Value) (mg mb : Str → Option Value) (dp un : Nat) (gd : Option (List Code)) (L fa : Addr) (cdv : Value) (A₀ : Around) (h₀ : Heap) (sa : Addr) (c0 c1 c2 c3 : Int) (k0 k1 k2 k3 : Nat) (ca ta ua da r0 r1 r2 r3 : Addr) (a0 a1 a2 a3 b0 b1 b2 b3 e0 e1 e2 e3 : Tok) (n1 n2 n3 n4 : Nat) (o1 o2 o3 o4 : Obj) (tw : Addr) (tvs : List Value) (nt : Nat) (ok : Option Value) (s : Shared) (Q : Flow → Shared → Prop) (E : Value → Shared → Prop),
  Below A₀ h₀ [] h₀ → Fr h₀ L s.heap (fun y => if y = Str.ofString "k" then ok else (fun x => if x = Str.ofString "tower" then some (.ref tw) else (fun z => if z = Str.ofString "typed" then some (.ref ta) else (fun y => if y = Str.ofString "script" then some (.ref sa) else none) z) x) y) → (K w.params).In h₀ → News h₀ L s.heap ((tw, W.listOf tvs.toArray nt) :: [(da, W.listOf #[.ref r0, .ref r1, .ref r2, .ref r3] n4), (r0, rowO k0), (r1, rowO k1), (r2, rowO k2), (r3, rowO k3), (ua, W.listOf #[.int (c0.fmod 8) e0, .int (c1.fmod 8) e1, .int (c2.fmod 8) e2, .int (c3.fmod 8) e3] n3), (ta, W.listOf #[.str ⟨#[k0]⟩ b0, .str ⟨#[k1]⟩ b1, .str ⟨#[k2]⟩ b2, .str ⟨#[k3]⟩ b3] n2), (ca, W.listOf #[.int c0 a0, .int c1 a1, .int c2 a2, .int c3 a3] n1), (L + 1 + 1 + 1 + 1, o4), (L + 1 + 1 + 1, o3), (L + 1 + 1, o2), (L + 1, o1)]) → o4.data = .cell none → o3.data = .cell (some (.ref da)) → o2.data = .cell (some (.ref ua)) → o1.data = .cell (some (.ref ca)) → SignOk (c0.fmod 8).toNat k0 → SignOk (c1.fmod 8).toNat k1 → SignOk (c2.fmod 8).toNat k2 → SignOk (c3.fmod 8).toNat k3 → AllLt da [(L + 1 + 1 + 1 + 1, o4)] → AllLt r0 [(L + 1 + 1 + 1 + 1, o4)] → AllLt r1 [(L + 1 + 1 + 1 + 1, o4)] → AllLt r2 [(L + 1 + 1 + 1 + 1, o4)] → AllLt r3 [(L + 1 + 1 + 1 + 1, o4)] → AllLt ua [(L + 1 + 1 + 1 + 1, o4)] → AllLt ta [(L + 1 + 1 + 1 + 1, o4)] → AllLt ca [(L + 1 + 1 + 1 + 1, o4)] → IntsAre tvs (towerZ (c3.fmod 19 - 9) 23) → AllLt tw [(L + 1 + 1 + 1 + 1, o4)] → Top qv loose mean mg mb h₀ → dp + 20 < recursionLimit → un + 200 < cLine →
  (∀ (h' : Heap) (tk' : Nat) (m' : Str → Option Value), Fr h₀ L h' m' → Q (.ret (.bool true)) { s with heap := h', toks := tk' }) →
  wpAny (model pw w) (yTop none dp un gd (Str.ofString "law") (fnScope (stAt 45)) L fa cdv (cellsFrom (L + 1) (fnScope (stAt 45)).names []) []) (execs ((fnBody (stAt 45)).drop k) (envOfC (Str.ofString "law") (fnScope (stAt 45)) L fa cdv)) Q E s
end
section
theorem unr1 {h₀ : Heap} {L I : Addr} {it : Obj} {p : Addr × Obj} {news : List (Addr × Obj)} {rest : (Str → Option Value) → List (Addr × Obj) → Prop} {s₁ : Shared} {h' : Heap} {tk : Nat} {m' : Str → Option Value} (F : Fr h₀ L h' m') (N : News h₀ L h' ((I, it) :: p :: news)) (l : p.1 < I ∧ AllLt I news) (r : rest m' (p :: news)) : UnrEnd h₀ L s₁ I it rest { s₁ with heap := h', toks := tk } :=
  UnrEnd.intro F N (p :: news) (fun _ h => h) (fun q hq => by
    rcases List.mem_cons.mp hq with rfl | hq
    · exact Nat.ne_of_lt l.1
    · exact Nat.ne_of_lt (allLt_all l.2 q hq)) r
set_option maxHeartbeats 4000000 in
theorem con_numbers (w : World) (news : List (Addr × Obj))   : Con false 0 w 1 292 [] news (fun tl r => ∃ a t0 t1 t2 t3 t4 t5 t6 t7 n, r = .ref a ∧ tl = [(a, W.listOf #[.int 4 t0, .int 1 t1, .int 2 t2, .int 5 t3, .int 3 t4, .int 7 t5, .int 6 t6, .int 0 t7] n)]) := by
  w_top off
  k_with_none
  k_with "y_room" => first | ((try simp only [depth_under_make, depth_under_kw, depth_in1, depth_deeper, depth_caller]); (try dsimp only [yTop]); first | exact lim2 (by assumption) rfl | exact lim1 (by assumption) rfl | exact lim0 (by assumption)) | ((try simp only [depth_under_make, depth_under_kw, depth_in1, depth_deeper, depth_caller] at *); (try dsimp only [yTop] at *); omega)
  k_with "y_units" => first | ((try simp only [units_in1, units_deeper, Around.mark_units, units_caller]); (try dsimp only [yTop]); first | exact lim2 (by assumption) rfl | exact lim1 (by assumption) rfl) | (have hcL9 := cLine_is; ((try simp only [units_in1, units_deeper, Around.mark_units, units_caller] at *); (try dsimp only [yTop] at *); omega))
  k_with "y_k5" => ((case k1 => k_asm); (case k2 => k_asm); (case k3 => k_asm); (case k4 => k_asm); (case k5 => k_asm))
  k_with "y_eC" => ((case kA => exact rfl); (case kF => exact rfl); (case kK => assumption); k_extra "y_k5"; (case k6 => k_is); (case k7 => k_is); (case k8 => ktr_room); (case k9 => exact BindsTo.of_eq rfl); (case c2 => exact rfl); (case c3 => exact rfl); (case c4 => exact rfl))
  k_with "y_e1" => (k_extra "y_eC"; (case c5 => decide); (case kB => exact locs rfl); k_whole; intro g' L' h' FG' F' N' B' X' T'; (try dsimp only); (try k_lift B'); (try k_fold))
  k_with "y_ord" => first | exact ord1 (by assumption) | exact ord1 (allLt_all (by assumption : _ ∧ AllLt _ _).2) | exact ord1 (allLt_all (by assumption : _ ∧ _ ∧ AllLt _ _).2.2) | exact ord1 (allLt_all (by assumption : _ ∧ _ ∧ _ ∧ AllLt _ _).2.2.2) | exact ord1 (allLt_all (by assumption : _ ∧ _ ∧ _ ∧ _ ∧ AllLt _ _).2.2.2.2) | exact ord1 (allLt_all (by assumption : _ ∧ _ ∧ _ ∧ _ ∧ _ ∧ AllLt _ _).2.2.2.2.2)
  k_with "UnrEnd" => (refine unr1 (by assumption) (by assumption) (by assumption) ?_)
  unfold Con
  intros
  rename_i hret
  rename_i hH hTk _ _
  obtain rfl := hH.resolve_left Bool.false_ne_true
  refine wpAny_call ?_
  k_dflt (refine' code_def (binds := []) ?k1 ?k2 ?k3 ?k4 ?k5 ?kA ?kF ?kK ?k6 ?k7 ?k8 ?k9 ?kB ?_ ?c2 ?c3 ?c4 ?c5; k_extra "y_e1")
  k_steps
  all_goals (refine' hret _ _ _ _ ⟨_, _, _, _, _, _, _, _, _, _, rfl, rfl⟩ ?zo ?zf ?zn; (case zo => k_extra "y_ord"); (case zf => k_asm); (case zn => first | k_asm | exact drop2 (by assumption) | exact drop3 (by assumption)))
end
section
theorem tower_len (b : Int) (n : Nat) : (towerZ b n).length = n := by simp [towerZ]
theorem tower_get (b : Int) {i n : Nat} (h : i < n) : (towerZ b n).getD i 0 = b ^ i := by
  simp [towerZ, List.getD_eq_getElem?_getD, h]
theorem tower_step (b : Int) (n : Nat) : towerZ b (n + 1) = towerZ b n ++ [b ^ n] := by
  simp [towerZ, List.range_succ]
theorem fmod19 (c : Int) : 0 ≤ c.fmod 19 ∧ c.fmod 19 < 19 := by
  rw [Int.fmod_eq_emod_of_nonneg _ (by decide)]
  exact ⟨Int.emod_nonneg _ (by decide), Int.emod_lt_of_pos _ (by decide)⟩
theorem ints_snoc {x : Int} {t : Tok} : ∀ {vs : List Value} {ns : List Int}, IntsAre vs ns → IntsAre (vs ++ [.int x t]) (ns ++ [x])
  | _, _, .nil => .cons _ _ .nil
  | _, _, .cons c z h => .cons c z (ints_snoc h)
set_option maxHeartbeats 4000000 in
theorem stage_e (SC : LawT 9) : LawR 7 := by
  w_top off
  k_with_none
  k_with "y_room" => first | ((try simp only [depth_under_make, depth_under_kw, depth_in1, depth_deeper, depth_caller]); (try dsimp only [yTop]); first | exact lim2 (by assumption) rfl | exact lim1 (by assumption) rfl | exact lim0 (by assumption)) | ((try simp only [depth_under_make, depth_under_kw, depth_in1, depth_deeper, depth_caller] at *); (try dsimp only [yTop] at *); omega)
  k_with "y_units" => first | ((try simp only [units_in1, units_deeper, Around.mark_units, units_caller]); (try dsimp only [yTop]); first | exact lim2 (by assumption) rfl | exact lim1 (by assumption) rfl) | (have hcL9 := cLine_is; ((try simp only [units_in1, units_deeper, Around.mark_units, units_caller] at *); (try dsimp only [yTop] at *); omega))
  k_with "UnrEnd" => (refine stop_ ?_)
  k_with "last pyIter ref" => (k_here; refine stop_ ?_)
  k_with "pyIter ref" => (k_here; refine stop_ ?_)
  k_with "exec For Name Call cons nil" => (k_here; (rename Fr _ _ _ _ => lF'); (with_unfolding_all refine' For_invVF lF' ?k1v3 ?k2v3 ?_; (case k1v3 => exact rfl); (case k2v3 => exact rfl); k_whole))
  k_with "execs cons" => (k_here; (with_reducible show wpAny _ _ (execs (PySem.Stmt.If _ _ _ _ :: _) _) _ _ _); refine stop_ ?_)
  k_with "binaryOp Mult int int" => (k_here; k_dflt (refine' PyProof.Rows.mul_int ?_ ?zmv5; (case zmv5 => exact PySem.IntMulOk.of_right (PySem.intBits_le_64 (by omega) (by omega)))); (try dsimp only))
  k_with "subscriptTail Name Name ref int" => (k_here; k_dflt (refine' ints_sub ?k1v6 ?k2v6 ?k3v6 ?k4v6 ?k5v6 ?k6v6 ?_ ?k7v6; (case k1v6 => k_asm); (case k2v6 => exact List.mem_cons_of_mem _ (List.mem_cons_self ..)); (case k3v6 => with_reducible assumption); (case k4v6 => omega); (case k5v6 => (rw [tower_len]; omega)); (case k6v6 => omega); (case k7v6 => with_unfolding_all rfl); intro z9; (try dsimp only); (try k_fold)))
  k_with "subscriptTail Name Constant ref int" => (k_here; k_dflt (refine' item_mem ?iNv7 ?iMv7 ?i0v7 ?i1v7 ?i2v7 ?_ ?i3v7; (case iNv7 => k_asm); (case iMv7 => k_mem); (case i0v7 => decide); (case i1v7 => decide); (case i2v7 => rfl); (case i3v7 => with_unfolding_all rfl); (try dsimp only); (try k_fold)))
  intro w mean mg mb dp un gd L fa cdv A₀ h₀ sa c0 c1 c2 c3 k0 k1 k2 k3 ca ta ua da r0 r1 r2 r3 a0 a1 a2 a3 b0 b1 b2 b3 e0 e1 e2 e3 n1 n2 n3 n4 o1 o2 o3 o4  s Q E B F X N d4 d3 d2 d1 g0 g1 g2 g3 lda lr0 lr1 lr2 lr3 lua lta lca  Tp hdp hun hret
  have f9 := fmod19 c3
  refine wpAny_noRaise ?_
  k_steps
  unfold Stop
  rename News _ _ _ _ => lN'
  rename Fr _ _ _ _ => lF8
  rename IsRange _ _ _ _ _ _ _ _ => R9
  rename_i tw _ ltw _ _ _ _ _ _ _ _ _
  refine iter_rangeJ (n := 22) (J := fun I i nw => ∃ vs n, IntsAre vs (towerZ (c3.fmod 19 - 9) (i + 1)) ∧ (tw < I ∧ AllLt I [(da, W.listOf #[.ref r0, .ref r1, .ref r2, .ref r3] n4), (r0, rowO k0), (r1, rowO k1), (r2, rowO k2), (r3, rowO k3), (ua, W.listOf #[.int (c0.fmod 8) e0, .int (c1.fmod 8) e1, .int (c2.fmod 8) e2, .int (c3.fmod 8) e3] n3), (ta, W.listOf #[.str ⟨#[k0]⟩ b0, .str ⟨#[k1]⟩ b1, .str ⟨#[k2]⟩ b2, .str ⟨#[k3]⟩ b3] n2), (ca, W.listOf #[.int c0 a0, .int c1 a1, .int c2 a2, .int c3 a3] n1), (L + 1 + 1 + 1 + 1, o4), (L + 1 + 1 + 1, o3), (L + 1 + 1, o2), (L + 1, o1)]) ∧ nw = (tw, W.listOf vs.toArray n) :: [(da, W.listOf #[.ref r0, .ref r1, .ref r2, .ref r3] n4), (r0, rowO k0), (r1, rowO k1), (r2, rowO k2), (r3, rowO k3), (ua, W.listOf #[.int (c0.fmod 8) e0, .int (c1.fmod 8) e1, .int (c2.fmod 8) e2, .int (c3.fmod 8) e3] n3), (ta, W.listOf #[.str ⟨#[k0]⟩ b0, .str ⟨#[k1]⟩ b1, .str ⟨#[k2]⟩ b2, .str ⟨#[k3]⟩ b3] n2), (ca, W.listOf #[.int c0 a0, .int c1 a1, .int c2 a2, .int c3 a3] n1), (L + 1 + 1 + 1 + 1, o4), (L + 1 + 1 + 1, o3), (L + 1 + 1, o2), (L + 1, o1)]) rfl R9 rfl (by decide) lF8 lN' ?st ?tu ?dn
  case st =>
    intro I hI
    exact ⟨[.int 1 s.toks], 0, by rw [show towerZ (c3.fmod 19 - 9) (0 + 1) = [1] from by simp [towerZ]]; exact .cons _ _ .nil, ⟨hI _ (List.mem_cons_self ..), allLt_of fun p hp => hI p (List.mem_cons_of_mem _ hp)⟩, rfl⟩
  case tu =>
    rintro I i _ t h tk hin ⟨vs9, n9, I9, l9, rfl⟩ F N
    have l7 : @LT.lt Nat instLTNat tw I := l9.1
    have l8 := l9.2
    simp only [AllLt, and_true] at l8
    clear lN' lF8 R9 hret SC
    have hz9 : vs9.toArray.size ≤ sizeLine := by
      rw [List.size_toArray, I9.length, tower_len]
      have : 100 ≤ sizeLine := by decide
      omega
    k_steps
    have e9 : (towerZ (c3.fmod 19 - 9) (i + 1)).getD (i : Int).toNat 0 * (c3.fmod 19 - 9) = (c3.fmod 19 - 9) ^ (i + 1) := by
      rw [Int.toNat_natCast, tower_get _ (Nat.lt_succ_self i), Int.pow_succ]
    rename News _ _ _ _ => lN9
    rename Fr _ _ _ _ => lF9
    rw [e9, List.push_toArray] at lN9
    unfold Stop
    refine unr1 lF9 lN9 l9 ?_
    refine ⟨fun y hy => if_neg hy, vs9 ++ [_], n9 + 1, ?_, l9, rfl⟩
    rw [tower_step]
    exact ints_snoc I9
  case dn =>
    rintro I o _ h tk ⟨vs9, n9, I9, l9, rfl⟩ F N
    exact SC w mean mg mb dp un gd L fa cdv A₀ h₀ sa c0 c1 c2 c3 k0 k1 k2 k3 ca ta ua da r0 r1 r2 r3 a0 a1 a2 a3 b0 b1 b2 b3 e0 e1 e2 e3 n1 n2 n3 n4 o1 o2 o3 o4 tw vs9 n9 o _ Q _ B F X N d4 d3 d2 d1 g0 g1 g2 g3 lda lr0 lr1 lr2 lr3 lua lta lca I9 ⟨ltw.2.2.2.2.2.2.2.2.1, trivial⟩ Tp hdp hun hret
end
section
set_option maxHeartbeats 4000000 in
theorem con_quat (w : World) (news : List (Addr × Obj)) (p q : Int) (t1 t2 : Tok)  : ConV false 0 w 1 299 [.int p t1, .int q t2] news (fun t => .int (quat p q) t) := by
  w_top off
  k_with_none
  k_with "y_room" => first | ((try simp only [depth_under_make, depth_under_kw, depth_in1, depth_deeper, depth_caller]); (try dsimp only [yTop]); first | exact lim2 (by assumption) rfl | exact lim1 (by assumption) rfl | exact lim0 (by assumption)) | ((try simp only [depth_under_make, depth_under_kw, depth_in1, depth_deeper, depth_caller] at *); (try dsimp only [yTop] at *); omega)
  k_with "y_units" => first | ((try simp only [units_in1, units_deeper, Around.mark_units, units_caller]); (try dsimp only [yTop]); first | exact lim2 (by assumption) rfl | exact lim1 (by assumption) rfl) | (have hcL9 := cLine_is; ((try simp only [units_in1, units_deeper, Around.mark_units, units_caller] at *); (try dsimp only [yTop] at *); omega))
  k_with "y_k5" => ((case k1 => k_asm); (case k2 => k_asm); (case k3 => k_asm); (case k4 => k_asm); (case k5 => k_asm))
  k_with "y_eC" => ((case kA => exact rfl); (case kF => exact rfl); (case kK => assumption); k_extra "y_k5"; (case k6 => k_is); (case k7 => k_is); (case k8 => ktr_room); (case k9 => exact BindsTo.of_eq rfl); (case c2 => exact rfl); (case c3 => exact rfl); (case c4 => exact rfl))
  k_with "y_e1" => (k_extra "y_eC"; (case c5 => decide); (case kB => exact locs rfl); k_whole; intro g' L' h' FG' F' N' B' X' T'; (try dsimp only); (try k_lift B'); (try k_fold))
  unfold ConV
  intros
  rename_i hret
  rename_i hH hTk _ _
  obtain rfl := hH.resolve_left Bool.false_ne_true
  refine wpAny_call ?_
  k_dflt (refine' code_def (binds := [(Str.ofString "p", .int p t1), (Str.ofString "q", .int q t2)]) ?k1 ?k2 ?k3 ?k4 ?k5 ?kA ?kF ?kK ?k6 ?k7 ?k8 ?k9 ?kB ?_ ?c2 ?c3 ?c4 ?c5; k_extra "y_e1")
  k_steps
  all_goals (refine cb_retI hret ?e1 ?e2 ?e3; (case e2 => k_asm); (case e3 => first | k_asm | (refine' y_drop ?N ?S; (case N => k_asm); (case S => kcj_all))); (case e1 => (unfold quat; (try law_fm); simp_all)))
set_option maxHeartbeats 4000000 in
theorem con_two (w : World) (news : List (Addr × Obj)) (x y : Int) (t1 t2 : Tok) (hx : 0 ≤ x ∧ x < 8) (hy : 0 ≤ y ∧ y < 8) : ConV false 0 w 3 306 [.int x t1, .int y t2] news (fun t => .int (two x y) t) := by
  w_top off
  k_with_none
  k_with "y_room" => first | ((try simp only [depth_under_make, depth_under_kw, depth_in1, depth_deeper, depth_caller]); (try dsimp only [yTop]); first | exact lim2 (by assumption) rfl | exact lim1 (by assumption) rfl | exact lim0 (by assumption)) | ((try simp only [depth_under_make, depth_under_kw, depth_in1, depth_deeper, depth_caller] at *); (try dsimp only [yTop] at *); omega)
  k_with "y_units" => first | ((try simp only [units_in1, units_deeper, Around.mark_units, units_caller]); (try dsimp only [yTop]); first | exact lim2 (by assumption) rfl | exact lim1 (by assumption) rfl) | (have hcL9 := cLine_is; ((try simp only [units_in1, units_deeper, Around.mark_units, units_caller] at *); (try dsimp only [yTop] at *); omega))
  k_with "y_k5" => ((case k1 => k_asm); (case k2 => k_asm); (case k3 => k_asm); (case k4 => k_asm); (case k5 => k_asm))
  k_with "y_args" => (k_extra "y_k5"; (case kK => first | exact rfl | assumption); (case kH => first | exact Or.inl rfl | exact Or.inr rfl | assumption); (case kT => first | exact Nat.zero_le _ | (dsimp only at *; omega)); (case kd => ktr_room); (case ku => ktr_units))
  k_with "y_eC" => ((case kA => exact rfl); (case kF => exact rfl); (case kK => assumption); k_extra "y_k5"; (case k6 => k_is); (case k7 => k_is); (case k8 => ktr_room); (case k9 => exact BindsTo.of_eq rfl); (case c2 => exact rfl); (case c3 => exact rfl); (case c4 => exact rfl))
  k_with "y_e1" => (k_extra "y_eC"; (case c5 => decide); (case kB => exact locs rfl); k_whole; intro g' L' h' FG' F' N' B' X' T'; (try dsimp only); (try k_lift B'); (try k_fold))
  k_with "call ref" => (k_here; k_dflt (refine' conV_use (con_quat _ _ _ _ _ _) ?k1 ?k2 ?k3 ?k4 ?k5 ?kK ?kH ?kT ?kd ?ku ?_; k_extra "y_args"; intro t9 h9 tk9 T9 F9 N9; (try dsimp only); (try k_fold)))
  unfold ConV
  intros
  rename_i hret
  rename_i hH hTk _ _
  obtain rfl := hH.resolve_left Bool.false_ne_true
  refine wpAny_call ?_
  k_dflt (refine' code_def (binds := [(Str.ofString "x", .int x t1), (Str.ofString "y", .int y t2)]) ?k1 ?k2 ?k3 ?k4 ?k5 ?kA ?kF ?kK ?k6 ?k7 ?k8 ?k9 ?kB ?_ ?c2 ?c3 ?c4 ?c5; k_extra "y_e1")
  k_steps
  all_goals (refine cb_retI hret ?e1 ?e2 ?e3; (case e2 => k_asm); (case e3 => first | k_asm | (refine' y_drop ?N ?S; (case N => k_asm); (case S => kcj_all))); (case e1 => first | (simp_all [two]; done) | (unfold two; (repeat' split) <;> first | rfl | omega | (simp_all; done) | (simp_all; omega))))
set_option maxHeartbeats 4000000 in
theorem con_turn (w : World) (news : List (Addr × Obj)) (x y z : Int) (t1 t2 t3 : Tok)  : ConV false 0 w 1 313 [.int x t1, .int y t2, .int z t3] news (fun t => .int (turn x y z) t) := by
  w_top off
  k_with_none
  k_with "y_room" => first | ((try simp only [depth_under_make, depth_under_kw, depth_in1, depth_deeper, depth_caller]); (try dsimp only [yTop]); first | exact lim2 (by assumption) rfl | exact lim1 (by assumption) rfl | exact lim0 (by assumption)) | ((try simp only [depth_under_make, depth_under_kw, depth_in1, depth_deeper, depth_caller] at *); (try dsimp only [yTop] at *); omega)
  k_with "y_units" => first | ((try simp only [units_in1, units_deeper, Around.mark_units, units_caller]); (try dsimp only [yTop]); first | exact lim2 (by assumption) rfl | exact lim1 (by assumption) rfl) | (have hcL9 := cLine_is; ((try simp only [units_in1, units_deeper, Around.mark_units, units_caller] at *); (try dsimp only [yTop] at *); omega))
  k_with "y_k5" => ((case k1 => k_asm); (case k2 => k_asm); (case k3 => k_asm); (case k4 => k_asm); (case k5 => k_asm))
  k_with "y_args" => (k_extra "y_k5"; (case kK => first | exact rfl | assumption); (case kH => first | exact Or.inl rfl | exact Or.inr rfl | assumption); (case kT => first | exact Nat.zero_le _ | (dsimp only at *; omega)); (case kd => ktr_room); (case ku => ktr_units))
  k_with "y_eC" => ((case kA => exact rfl); (case kF => exact rfl); (case kK => assumption); k_extra "y_k5"; (case k6 => k_is); (case k7 => k_is); (case k8 => ktr_room); (case k9 => exact BindsTo.of_eq rfl); (case c2 => exact rfl); (case c3 => exact rfl); (case c4 => exact rfl))
  k_with "y_e1" => (k_extra "y_eC"; (case c5 => decide); (case kB => exact locs rfl); k_whole; intro g' L' h' FG' F' N' B' X' T'; (try dsimp only); (try k_lift B'); (try k_fold))
  k_with "call ref" => (k_here; k_dflt (refine' conV_use (con_quat _ _ _ _ _ _) ?k1 ?k2 ?k3 ?k4 ?k5 ?kK ?kH ?kT ?kd ?ku ?_; k_extra "y_args"; intro t9 h9 tk9 T9 F9 N9; (try dsimp only); (try k_fold)))
  unfold ConV
  intros
  rename_i hret
  rename_i hH hTk _ _
  obtain rfl := hH.resolve_left Bool.false_ne_true
  refine wpAny_call ?_
  k_dflt (refine' code_def (binds := [(Str.ofString "x", .int x t1), (Str.ofString "y", .int y t2), (Str.ofString "z", .int z t3)]) ?k1 ?k2 ?k3 ?k4 ?k5 ?kA ?kF ?kK ?k6 ?k7 ?k8 ?k9 ?kB ?_ ?c2 ?c3 ?c4 ?c5; k_extra "y_e1")
  k_steps
  all_goals (refine cb_retI hret ?e1 ?e2 ?e3; (case e2 => k_asm); (case e3 => first | k_asm | (refine' y_drop ?N ?S; (case N => k_asm); (case S => kcj_all))); (case e1 => (unfold turn; simp_all)))
end
section
theorem bx_dec : ∀ a < 8, ∀ b < 8, 0 ≤ Builtin.bitXor ((a : Nat) : Int) ((b : Nat) : Int) ∧ Builtin.bitXor ((a : Nat) : Int) ((b : Nat) : Int) < 8 := by decide +kernel
theorem bx {a b : Int} (ha : 0 ≤ a ∧ a < 8) (hb : 0 ≤ b ∧ b < 8) : 0 ≤ Builtin.bitXor a b ∧ Builtin.bitXor a b < 8 := by
  have := bx_dec a.toNat (by omega) b.toNat (by omega)
  rwa [Int.toNat_of_nonneg ha.1, Int.toNat_of_nonneg hb.1] at this
noncomputable def PM (v : Int) : Prop := v = 1 ∨ v = -1
theorem PM.abs {v : Int} (h : PM v) : v.natAbs ≤ 1 := by rcases h with rfl | rfl <;> decide
theorem PM.mul {v u : Int} (h : PM v) (k : PM u) : PM (v * u) := by
  rcases h with rfl | rfl <;> rcases k with rfl | rfl <;> first | exact .inl rfl | exact .inr rfl
theorem quat_pm (p q : Int) : PM (quat p q) := by unfold quat; split <;> first | exact .inl rfl | exact .inr rfl
theorem two_pm (x y : Int) : PM (two x y) := by
  unfold two
  split <;> refine (quat_pm _ _).mul ?_ <;> (repeat' split) <;> first | exact .inl rfl | exact .inr rfl
theorem turn_pm (x y z : Int) : PM (turn x y z) := by unfold turn; split <;> first | exact .inl rfl | exact .inr rfl
theorem con_twoP (w : World) (news : List (Addr × Obj)) (x y : Int) (t1 t2 : Tok) (hx : 0 ≤ x ∧ x < 8) (hy : 0 ≤ y ∧ y < 8) : ConV false 0 w 3 306 [.int x t1, .int y t2] news (fun t => .int (two x y) t) := con_two w news x y t1 t2 hx hy
theorem mul_pm {prog : Program} {w : World} {A : Around} {E : Value → Shared → Prop} {s : Shared} {a b : Int} {t u : Tok} {Q : Value → Shared → Prop} (ha : PM a) (hb : PM b) (h : Q (.int (a * b) s.toks) { s with toks := s.toks + 1 }) : wpAny (model prog w) A (binaryOp .Mult (.int a t) (.int b u)) Q E s := by
  have h1 := ha.abs
  have h2 := hb.abs
  exact mul_int h (by mul_fits)
noncomputable def istr (n : Int) : Str := Str.ofString (toString n)
/-- the place of a number in [4, 1, 2, 5, 3, 7, 6, 0] -/
noncomputable def posN (n : Int) : Int := (([4, 1, 2, 5, 3, 7, 6, 0] : List Int).idxOf n : Nat)
theorem num_dec : ∀ k < 8, ((k : Nat) : Int) ∈ ([4, 1, 2, 5, 3, 7, 6, 0] : List Int) := by decide
theorem num_mem {k : Int} (hk : 0 ≤ k ∧ k < 8) : k ∈ ([4, 1, 2, 5, 3, 7, 6, 0] : List Int) := by
  have := num_dec k.toNat (by omega)
  rwa [Int.toNat_of_nonneg hk.1] at this
theorem posN_lt {k : Int} (hk : 0 ≤ k ∧ k < 8) : 0 ≤ posN k ∧ posN k < 8 := by
  have := List.idxOf_lt_length_iff.mpr (num_mem hk)
  unfold posN
  simp only [List.length_cons, List.length_nil] at this
  omega
theorem index8 {prog : Program} {w : World} {A : Around} {E : Value → Shared → Prop} {s : Shared} {h₀ : Heap} {L l : Addr} {news : List (Addr × Obj)} {n : Nat} {k : Int} {t t0 t1 t2 t3 t4 t5 t6 t7 : Tok} {Q : Value → Shared → Prop} (N : News h₀ L s.heap news) (hm : (l, W.listOf #[.int 4 t0, .int 1 t1, .int 2 t2, .int 5 t3, .int 3 t4, .int 7 t5, .int 6 t6, .int 0 t7] n) ∈ news)
    (hk : 0 ≤ k ∧ k < 8) (h : Q (.int (posN k) s.toks) { s with toks := s.toks + 1 }) : wpAny (model prog w) A (call (.builtin "list.index") [.ref l, .int k t]) Q E s :=
  index_list_ints (vs := [.int 4 t0, .int 1 t1, .int 2 t2, .int 5 t3, .int 3 t4, .int 7 t5, .int 6 t6, .int 0 t7]) (ns := [4, 1, 2, 5, 3, 7, 6, 0]) ⟨_, (N _ hm).1, rfl, n, rfl⟩
    (.cons _ _ (.cons _ _ (.cons _ _ (.cons _ _ (.cons _ _ (.cons _ _ (.cons _ _ (.cons _ _ .nil)))))))) (by decide) (num_mem hk) h
noncomputable def dueS (x y z v : Int) : List Int :=
  [two x y * two (Builtin.bitXor x y) z * two (Builtin.bitXor (Builtin.bitXor x y) z) v,
   two x y * two (Builtin.bitXor x y) z * two (Builtin.bitXor (Builtin.bitXor x y) z) v * turn x y z,
   two x y * two (Builtin.bitXor x y) z * two (Builtin.bitXor (Builtin.bitXor x y) z) v * turn (Builtin.bitXor x y) z v,
   two x y * two (Builtin.bitXor x y) z * two (Builtin.bitXor (Builtin.bitXor x y) z) v * turn x y z * turn x (Builtin.bitXor y z) v,
   two x y * two (Builtin.bitXor x y) z * two (Builtin.bitXor (Builtin.bitXor x y) z) v * turn x y z * turn x (Builtin.bitXor y z) v * turn y z v]
noncomputable def DueR (ss : List Int) (u : Int) (i : Nat) (ex : List (Addr × Obj)) (v : Value) : Prop :=
  ∃ a s t1 t2 n, ss[i]? = some s ∧ v = .ref a ∧ (a, W.listOf #[.str (istr s) t1, .str (istr u) t2] n) ∈ ex
theorem DueR.mono {ss : List Int} {u : Int} {i : Nat} {ex ex' : List (Addr × Obj)} {v : Value} (h : DueR ss u i ex v) (s : ∀ p ∈ ex, p ∈ ex') : DueR ss u i ex' v := by
  obtain ⟨a, s', t1, t2, n, h1, h2, h3⟩ := h
  exact ⟨a, s', t1, t2, n, h1, h2, s _ h3⟩
noncomputable def DuePost (ss : List Int) (u : Int) (tl : List (Addr × Obj)) (r : Value) : Prop :=
  ∃ D ys, r = .ref D ∧ (D, LCg.lst ys) ∈ tl ∧ ys.length = 5 ∧ ∀ i v, ys[i]? = some v → DueR ss u i tl v
theorem news_drop5 {h₀ h : Heap} {L : Addr} {z y i j k a b c d : Addr × Obj} {nw : List (Addr × Obj)} (N : News h₀ L h (z :: y :: i :: j :: k :: a :: b :: c :: d :: nw)) : News h₀ L h (z :: i :: j :: k :: nw) := fun p hp => N p (by
  simp only [List.mem_cons] at hp ⊢
  rcases hp with h | h | h | h | h
  · exact .inl h
  · exact .inr (.inr (.inl h))
  · exact .inr (.inr (.inr (.inl h)))
  · exact .inr (.inr (.inr (.inr (.inl h))))
  · exact .inr (.inr (.inr (.inr (.inr (.inr (.inr (.inr (.inr h)))))))))
theorem due_end {h₀ h : Heap} {L : Addr} {x l a b c d : Addr × Obj} {ex nw news : List (Addr × Obj)} (N : News h₀ L h (x :: nw)) (e : nw = ex ++ (l :: a :: b :: c :: d :: news)) : News h₀ L h ((x :: ex) ++ news) := fun p hp => N p (by
  subst e
  simp only [List.mem_cons, List.mem_append] at hp ⊢
  rcases hp with (h | h) | h
  · exact .inl h
  · exact .inr (.inl h)
  · exact .inr (.inr (.inr (.inr (.inr (.inr (.inr h)))))))
theorem due_item {s0 s1 s2 s3 s4 : Int} {t0 t1 t2 t3 t4 : Tok} (h0 : PM s0) (h1 : PM s1) (h2 : PM s2) (h3 : PM s3) (h4 : PM s4) {i : Nat} {vv : Value} (h : (#[Value.int s0 t0, Value.int s1 t1, Value.int s2 t2, Value.int s3 t3, Value.int s4 t4] : Array Value)[i]? = some vv) : ∃ s t, vv = .int s t ∧ [s0, s1, s2, s3, s4][i]? = some s ∧ PM s := by
  match i, h with
  | 0, h => cases h; exact ⟨_, _, rfl, rfl, h0⟩
  | 1, h => cases h; exact ⟨_, _, rfl, rfl, h1⟩
  | 2, h => cases h; exact ⟨_, _, rfl, rfl, h2⟩
  | 3, h => cases h; exact ⟨_, _, rfl, rfl, h3⟩
  | 4, h => cases h; exact ⟨_, _, rfl, rfl, h4⟩
  | n + 5, h => simp at h
theorem news_front4 {h₀ h : Heap} {L : Addr} {i j k a b c d : Addr × Obj} {nw : List (Addr × Obj)} (N : News h₀ L h (i :: j :: k :: nw)) (ha : a ∈ nw) (hb : b ∈ nw) (hc : c ∈ nw) (hd : d ∈ nw) : News h₀ L h (i :: j :: k :: a :: b :: c :: d :: nw) := fun p hp => N p (by
  simp only [List.mem_cons] at hp ⊢
  rcases hp with h | h | h | h | h | h | h | h
  · exact .inl h
  · exact .inr (.inl h)
  · exact .inr (.inr (.inl h))
  · exact .inr (.inr (.inr (h ▸ ha)))
  · exact .inr (.inr (.inr (h ▸ hb)))
  · exact .inr (.inr (.inr (h ▸ hc)))
  · exact .inr (.inr (.inr (h ▸ hd)))
  · exact .inr (.inr (.inr h)))
set_option maxHeartbeats 4000000 in
theorem con_due (w : World) (news : List (Addr × Obj)) (x y z v : Int) (t1 t2 t3 t4 : Tok) (hx8 : 0 ≤ x ∧ x < 8) (hy : 0 ≤ y ∧ y < 8) (hz : 0 ≤ z ∧ z < 8) (hv : 0 ≤ v ∧ v < 8) : Con false 0 w 5 318 [.int x t1, .int y t2, .int z t3, .int v t4] news (fun tl r => DuePost (dueS x y z v) (posN (Builtin.bitXor (Builtin.bitXor (Builtin.bitXor x y) z) v)) tl r) := by
  w_top off
  k_with_none
  k_with "y_room" => first | ((try simp only [depth_under_make, depth_under_kw, depth_in1, depth_deeper, depth_caller]); (try dsimp only [yTop]); first | exact lim2 (by assumption) rfl | exact lim1 (by assumption) rfl | exact lim0 (by assumption)) | ((try simp only [depth_under_make, depth_under_kw, depth_in1, depth_deeper, depth_caller] at *); (try dsimp only [yTop] at *); omega)
  k_with "y_units" => first | ((try simp only [units_in1, units_deeper, Around.mark_units, units_caller]); (try dsimp only [yTop]); first | exact lim2 (by assumption) rfl | exact lim1 (by assumption) rfl) | (have hcL9 := cLine_is; ((try simp only [units_in1, units_deeper, Around.mark_units, units_caller] at *); (try dsimp only [yTop] at *); omega))
  k_with "y_k5" => ((case k1 => k_asm); (case k2 => k_asm); (case k3 => k_asm); (case k4 => k_asm); (case k5 => k_asm))
  k_with "y_args" => (k_extra "y_k5"; (case kK => first | exact rfl | assumption); (case kH => first | exact Or.inl rfl | exact Or.inr rfl | assumption); (case kT => first | exact Nat.zero_le _ | (dsimp only at *; omega)); (case kd => ktr_room); (case ku => ktr_units))
  k_with "y_eC" => ((case kA => exact rfl); (case kF => exact rfl); (case kK => assumption); k_extra "y_k5"; (case k6 => k_is); (case k7 => k_is); (case k8 => ktr_room); (case k9 => exact BindsTo.of_eq rfl); (case c2 => exact rfl); (case c3 => exact rfl); (case c4 => exact rfl))
  k_with "y_e2" => (k_extra "y_eC"; (case kB => exact rfl); (case kD => decide +kernel); k_whole; intro g' L' h' tk' cells' FG' F' N' Y' B' X' T' l1; (try k_lt l1); k_cells Y'; (try simp only [List.cons_append, List.nil_append] at N'); (try dsimp only); (try k_lift B'); (try k_fold))
  k_with "call ref" => (k_here; k_dflt (refine' conV_use (con_two _ _ _ _ _ _ (by first | assumption | exact bx (by assumption) (by assumption) | exact bx (bx (by assumption) (by assumption)) (by assumption)) (by assumption)) ?k1 ?k2 ?k3 ?k4 ?k5 ?kK ?kH ?kT ?kd ?ku ?_; k_extra "y_args"; intro t9 h9 tk9 T9 F9 N9; (try dsimp only); (try k_fold)))
  k_with "call ref" => (k_here; k_dflt (refine' conV_use (con_turn _ _ _ _ _ _ _ _) ?k1 ?k2 ?k3 ?k4 ?k5 ?kK ?kH ?kT ?kd ?ku ?_; k_extra "y_args"; intro t9 h9 tk9 T9 F9 N9; (try dsimp only); (try k_fold)))
  k_with "call ref" => (k_here; (try k_fold); k_dflt (refine' con_use (con_numbers _ _) ?k1 ?k2 ?k3 ?k4 ?k5 ?kK ?kH ?kT ?kd ?ku ?_; k_extra "y_args"; intro r9 tl9 h9 tk9 T9 P9 l9 F9 N9; obtain ⟨x9, t0, t1, t2, t3, t4, t5, t6, t7, n9, e8, e9⟩ := P9; subst e8; subst e9; (try simp only [List.forall_mem_cons, List.forall_mem_nil, and_true] at l9); (try k_lt l9); (try simp only [List.cons_append, List.nil_append] at N9); (try dsimp only); (try k_fold)))
  k_with "y_pm" => first | exact two_pm _ _ | exact turn_pm _ _ _ | exact PM.mul (by k_extra "y_pm") (by k_extra "y_pm")
  k_with "binaryOp Mult int int" => (k_here; k_dflt (refine' mul_pm ?hav4 ?hbv4 ?_; (case hav4 => k_extra "y_pm"); (case hbv4 => k_extra "y_pm")); (try dsimp only))
  k_with "eval ListComp" => (k_here; k_dflt (refine' listcomp1 (by k_asm : Fr _ _ _ _) ?c1v5 ?c2v5 ?c3v5 ?c4v5 ?c5v5 ?_ ?c6v5; (case c1v5 => with_unfolding_all rfl); (case c2v5 => decide); (case c3v5 => rfl); (case c4v5 => decide); (case c5v5 => rfl); (case c6v5 => (intro _; rfl))))
  k_with "call builtin:list.index" => (k_here; k_dflt (refine' index8 ?iav6 ?ibv6 ?icv6 ?_; (case iav6 => k_asm); (case ibv6 => exact List.Mem.head _); (case icv6 => assumption)); (try dsimp only))
  unfold Con
  intros
  rename_i hret
  rename_i hH hTk _ _
  obtain rfl := hH.resolve_left Bool.false_ne_true
  refine wpAny_call ?_
  k_dflt (refine' code_defC (binds := [(Str.ofString "x", .int x t1), (Str.ofString "y", .int y t2), (Str.ofString "z", .int z t3), (Str.ofString "w", .int v t4)]) ?k1 ?k2 ?k3 ?k4 ?k5 ?kA ?kF ?kK ?k6 ?k7 ?k8 ?k9 ?kB ?kD ?_ ?c2 ?c3 ?c4; k_extra "y_e2")
  k_steps
  have p0 : PM (two x y * two (Builtin.bitXor x y) z * two (Builtin.bitXor (Builtin.bitXor x y) z) v) := ((two_pm _ _).mul (two_pm _ _)).mul (two_pm _ _)
  have p1 : PM (two x y * two (Builtin.bitXor x y) z * two (Builtin.bitXor (Builtin.bitXor x y) z) v * turn x y z) := p0.mul (turn_pm _ _ _)
  have p2 : PM (two x y * two (Builtin.bitXor x y) z * two (Builtin.bitXor (Builtin.bitXor x y) z) v * turn (Builtin.bitXor x y) z v) := p0.mul (turn_pm _ _ _)
  have p3 : PM (two x y * two (Builtin.bitXor x y) z * two (Builtin.bitXor (Builtin.bitXor x y) z) v * turn x y z * turn x (Builtin.bitXor y z) v) := p1.mul (turn_pm _ _ _)
  have p4 : PM (two x y * two (Builtin.bitXor x y) z * two (Builtin.bitXor (Builtin.bitXor x y) z) v * turn x y z * turn x (Builtin.bitXor y z) v * turn y z v) := p3.mul (turn_pm _ _ _)
  have hss : dueS x y z v = [two x y * two (Builtin.bitXor x y) z * two (Builtin.bitXor (Builtin.bitXor x y) z) v, two x y * two (Builtin.bitXor x y) z * two (Builtin.bitXor (Builtin.bitXor x y) z) v * turn x y z, two x y * two (Builtin.bitXor x y) z * two (Builtin.bitXor (Builtin.bitXor x y) z) v * turn (Builtin.bitXor x y) z v, two x y * two (Builtin.bitXor x y) z * two (Builtin.bitXor (Builtin.bitXor x y) z) v * turn x y z * turn x (Builtin.bitXor y z) v, two x y * two (Builtin.bitXor x y) z * two (Builtin.bitXor (Builtin.bitXor x y) z) v * turn x y z * turn x (Builtin.bitXor y z) v * turn y z v] := rfl

  rename Fr _ _ _ _ => lF'
  rename News _ _ _ _ => lN'
  generalize dueS x y z v = ss at *
  generalize two x y * two (Builtin.bitXor x y) z * two (Builtin.bitXor (Builtin.bitXor x y) z) v * turn x y z * turn x (Builtin.bitXor y z) v * turn y z v = s4 at *
  generalize two x y * two (Builtin.bitXor x y) z * two (Builtin.bitXor (Builtin.bitXor x y) z) v * turn x y z * turn x (Builtin.bitXor y z) v = s3 at *
  generalize two x y * two (Builtin.bitXor x y) z * two (Builtin.bitXor (Builtin.bitXor x y) z) v * turn (Builtin.bitXor x y) z v = s2 at *
  generalize two x y * two (Builtin.bitXor x y) z * two (Builtin.bitXor (Builtin.bitXor x y) z) v * turn x y z = s1 at *
  generalize two x y * two (Builtin.bitXor x y) z * two (Builtin.bitXor (Builtin.bitXor x y) z) v = s0 at *
  have hu := bx (bx (bx hx8 hy) hz) hv
  have hu2 := posN_lt hu
  refine Comp1.grow (R := DueR ss (posN (Builtin.bitXor (Builtin.bitXor (Builtin.bitXor x y) z) v))) (fun i ex ex' v hs hr => hr.mono hs) rfl lF' lN' (.list (List.mem_cons_self ..)) (by show 5 ≤ sizeLine; decide) ?tu ?dn
  case tu =>
    rintro I C D i vv oI oC mC ys ex nw h tk E' hID hDC hi hP hl hX hsub oc hx F N ap _ _
    obtain ⟨s9, t9, rfl, hs9, hp9⟩ := due_item p0 p1 p2 p3 p4 hP
    rw [← hss] at hs9
    have N2 := news_front4 N (hsub _ (.tail _ (.head _))) (hsub _ (.tail _ (.tail _ (.head _)))) (hsub _ (.tail _ (.tail _ (.tail _ (.head _))))) (hsub _ (.tail _ (.tail _ (.tail _ (.tail _ (.head _))))))
    clear lN' lF' hP hi N hss hsub p0 p1 p2 p3 p4
    rcases hp9 with rfl | rfl
    · k_steps
      refine cend_new (by assumption) (news_drop5 (by assumption)) ?zl oc ap ?zs ⟨rfl, [_], rfl, fun p hp => ?_, ?_⟩
      case zl =>
        rename _ ∧ _ ∧ _ ∧ _ ∧ _ ∧ _ ∧ _ ∧ _ ∧ AllLt _ _ => hL9
        exact ⟨hL9.2.1, hL9.2.2.1, hL9.2.2.2.1, hL9.2.2.2.2.2.2.2.2⟩
      case zs => exact List.mem_cons_of_mem _ (by assumption)
      · rw [List.mem_singleton.mp hp]
        rename _ ∧ _ ∧ _ ∧ _ ∧ _ ∧ _ ∧ _ ∧ _ ∧ AllLt _ _ => hL9
        exact hL9.2.1
      · exact ⟨_, _, _, _, _, hs9, rfl, List.mem_cons_self ..⟩
    · k_steps
      refine cend_new (by assumption) (news_drop5 (by assumption)) ?zl oc ap ?zs ⟨rfl, [_], rfl, fun p hp => ?_, ?_⟩
      case zl =>
        rename _ ∧ _ ∧ _ ∧ _ ∧ _ ∧ _ ∧ _ ∧ _ ∧ AllLt _ _ => hL9
        exact ⟨hL9.2.1, hL9.2.2.1, hL9.2.2.2.1, hL9.2.2.2.2.2.2.2.2⟩
      case zs => exact List.mem_cons_of_mem _ (by assumption)
      · rw [List.mem_singleton.mp hp]
        rename _ ∧ _ ∧ _ ∧ _ ∧ _ ∧ _ ∧ _ ∧ _ ∧ AllLt _ _ => hL9
        exact hL9.2.1
      · exact ⟨_, _, _, _, _, hs9, rfl, List.mem_cons_self ..⟩
  case dn =>
    intro D ys ex nw h tk hl hR hE hD off hX hsub F N
    clear lN' lF'
    k_steps
    refine' hret _ (_ :: ex) _ _ ⟨D, ys, rfl, List.mem_cons_self .., hl, fun i v hv => (hR i v hv).mono fun p hp => List.mem_cons_of_mem _ hp⟩ ?zo ?zf ?zn
    case zf => k_asm
    case zn => exact due_end (by assumption) hX
    case zo =>
      intro p hp q hq
      rcases List.mem_cons.mp hp with rfl | hp
      · exact hD q (List.mem_cons_of_mem _ (List.mem_cons_of_mem _ (List.mem_cons_of_mem _ (List.mem_cons_of_mem _ (List.mem_cons_of_mem _ hq)))))
      · exact hE p hp q (List.mem_cons_of_mem _ (List.mem_cons_of_mem _ (List.mem_cons_of_mem _ (List.mem_cons_of_mem _ (List.mem_cons_of_mem _ hq)))))
end
section
theorem idx_lt {bs : List Bool} {i : Nat} {v : Value} (h : (bs.map Value.bool).toArray[i]? = some v) : ∃ b, bs[i]? = some b ∧ v = .bool b := by
  rw [List.getElem?_toArray, List.getElem?_map] at h
  obtain ⟨b, h1, h2⟩ := Option.map_eq_some_iff.mp h
  exact ⟨b, h1, h2.symm⟩
theorem off_ij {i j : Str} {m₁ m₀ : Str → Option Value} {v u : Option Value} (h : ∀ y, y ≠ i → y ≠ j → m₁ y = m₀ y) : (fun y => if y = j then v else if y = i then u else m₁ y) = fun y => if y = j then v else if y = i then u else m₀ y := by
  funext y
  split
  · rfl
  · split
    · rfl
    · exact h y ‹_› ‹_›
theorem idx_is {bs : List Bool} {i i0 : Nat} (h1 : bs[i]? = some true) (h2 : ∀ j, j < i → bs[j]? = some false) (h3 : bs[i0]? = some true) (h4 : ∀ j, j < i0 → bs[j]? = some false) : i = i0 := by
  rcases Nat.lt_trichotomy i i0 with h | h | h
  · have := h4 _ h; rw [h1] at this; cases this
  · exact h
  · have := h2 _ h; rw [h3] at this; cases this
theorem low_next {bs : List Bool} {i : Nat} (h1 : bs[i]? = some false) (h2 : ∀ j, j < i → bs[j]? = some false) : ∀ j, j < i + 1 → bs[j]? = some false := by
  intro j hj
  by_cases e : j = i
  · subst e; exact h1
  · exact h2 j (by omega)
theorem noOrd {news : List (Addr × Obj)} : ∀ p ∈ ([] : List (Addr × Obj)), ∀ q ∈ news, q.1 < p.1 := fun _ h => nomatch h
set_option maxHeartbeats 4000000 in
theorem con_indexB (w : World) (news : List (Addr × Obj)) (la : Addr) (bs : List Bool) (n : Nat) (i0 : Nat) (hm : (la, W.listOf (bs.map Value.bool).toArray n) ∈ news) (hi0 : bs[i0]? = some true) (hlow : ∀ j, j < i0 → bs[j]? = some false) : ConQ 0 w 1 49 [.ref la, .bool true] news (fun tl r => ∃ t, r = .int i0 t ∧ tl = []) := by
  w_top off
  k_with_none
  k_with "y_room" => first | ((try simp only [depth_under_make, depth_under_kw, depth_in1, depth_deeper, depth_caller]); (try dsimp only [yTop]); first | exact lim2 (by assumption) rfl | exact lim1 (by assumption) rfl | exact lim0 (by assumption)) | ((try simp only [depth_under_make, depth_under_kw, depth_in1, depth_deeper, depth_caller] at *); (try dsimp only [yTop] at *); omega)
  k_with "y_units" => first | ((try simp only [units_in1, units_deeper, Around.mark_units, units_caller]); (try dsimp only [yTop]); first | exact lim2 (by assumption) rfl | exact lim1 (by assumption) rfl) | (have hcL9 := cLine_is; ((try simp only [units_in1, units_deeper, Around.mark_units, units_caller] at *); (try dsimp only [yTop] at *); omega))
  k_with "y_k5" => ((case k1 => k_asm); (case k2 => k_asm); (case k3 => k_asm); (case k4 => k_asm); (case k5 => k_asm))
  k_with "y_eC" => ((case kA => exact rfl); (case kF => exact rfl); (case kK => assumption); k_extra "y_k5"; (case k6 => k_is); (case k7 => k_is); (case k8 => ktr_room); (case k9 => exact BindsTo.of_eq rfl); (case c2 => exact rfl); (case c3 => exact rfl); (case c4 => exact rfl))
  k_with "y_e1" => (k_extra "y_eC"; (case c5 => decide); (case kB => exact locs rfl); k_whole; intro g' L' h' FG' F' N' B' X' T'; (try dsimp only); (try k_lift B'); (try k_fold))
  k_with "exec For Tuple Call cons cons" => (k_here; refine stop_ ?_)
  k_with "call type:enumerate" => (k_here; refine stop_ ?_)
  unfold ConQ
  intros
  rename_i hret
  rename_i hQt hTk _ _
  refine wpAny_call ?_
  k_dflt (refine' code_def (binds := [(Str.ofString "a", .ref la), (Str.ofString "b", .bool true)]) ?k1 ?k2 ?k3 ?k4 ?k5 ?kA ?kF ?kK ?k6 ?k7 ?k8 ?k9 ?kB ?_ ?c2 ?c3 ?c4 ?c5; k_extra "y_e1")
  k_steps
  unfold Stop
  rename Fr _ _ _ _ => lF'
  rename News _ _ _ _ => lN'
  refine wpAny_For ?_ (by intro z; rfl)
  k_steps
  unfold Stop
  k_dflt (refine' enum_loop (env := envOf (Str.ofString "indexOf") (fnScope (stAt 5)) _ 49 (Value.ref 48)) (items := (bs.map Value.bool).toArray) (fun i m => (∀ j, j < i → bs[j]? = some false) ∧ ∀ y, y ≠ Str.ofString "i" → y ≠ Str.ofString "j" → m y = List.lookup y [(Str.ofString "a", Value.ref la), (Str.ofString "b", Value.bool true)].reverse) ?x1 ?x2 ?x3 ?x4 hm lF' lN' ?x5 ?tu ?dn)
  case x1 => exact rfl
  case x2 => exact rfl
  case x3 => exact rfl
  case x4 => exact hQt
  case x5 => exact ⟨fun j hj => absurd hj (Nat.not_lt_zero _), fun y _ _ => rfl⟩
  case tu =>
    rintro i v m₁ t h tk E' e it oe oi hi ⟨hJ, hm1⟩ hlt hlt2 F N
    obtain ⟨b, hb, rfl⟩ := idx_lt hi
    clear lF' lN'
    rw [off_ij hm1] at F
    cases b
    · k_steps
      refine' ⟨_, _, _, rfl, F, ?nn, low_next hb hJ, fun y h1 h2 => ?mm⟩
      case nn => k_asm
      case mm => dsimp only; rw [if_neg h2, if_neg h1]
    · obtain rfl := idx_is hb hJ hi0 hlow
      k_steps
      dsimp only [EnEnd]
      k_steps
      all_goals (refine' hret _ [] _ _ ⟨_, rfl, rfl⟩ ?o ?f ?n; (case o => exact noOrd); (case f => k_asm); (case n => refine' y_drop ?N ?S; (case N => k_asm); (case S => kcj_all)))
  case dn =>
    rintro m₁ h tk ⟨hJ, hm1⟩ F N
    exfalso
    have h9 := hJ i0 (by have := (List.getElem?_eq_some_iff.mp hi0).1; simpa using this)
    rw [hi0] at h9
    cases h9
end
section
set_option maxHeartbeats 4000000 in
theorem con_indexN (w : World) (news : List (Addr × Obj)) (la : Addr) (bs : List Bool) (n : Nat) (hm : (la, W.listOf (bs.map Value.bool).toArray n) ∈ news) (hall : ∀ b ∈ bs, b = false) : ConQR 0 w 1 49 [.ref la, .bool true] news "ValueError" := by
  w_top off
  k_with_none
  k_with "y_room" => first | ((try simp only [depth_under_make, depth_under_kw, depth_in1, depth_deeper, depth_caller]); (try dsimp only [yTop]); first | exact lim2 (by assumption) rfl | exact lim1 (by assumption) rfl | exact lim0 (by assumption)) | ((try simp only [depth_under_make, depth_under_kw, depth_in1, depth_deeper, depth_caller] at *); (try dsimp only [yTop] at *); omega)
  k_with "y_units" => first | ((try simp only [units_in1, units_deeper, Around.mark_units, units_caller]); (try dsimp only [yTop]); first | exact lim2 (by assumption) rfl | exact lim1 (by assumption) rfl) | (have hcL9 := cLine_is; ((try simp only [units_in1, units_deeper, Around.mark_units, units_caller] at *); (try dsimp only [yTop] at *); omega))
  k_with "y_k5" => ((case k1 => k_asm); (case k2 => k_asm); (case k3 => k_asm); (case k4 => k_asm); (case k5 => k_asm))
  k_with "y_eC" => ((case kA => exact rfl); (case kF => exact rfl); (case kK => assumption); k_extra "y_k5"; (case k6 => k_is); (case k7 => k_is); (case k8 => ktr_room); (case k9 => exact BindsTo.of_eq rfl); (case c2 => exact rfl); (case c3 => exact rfl); (case c4 => exact rfl))
  k_with "y_e1" => (k_extra "y_eC"; (case c5 => decide); (case kB => exact locs rfl); k_whole; intro g' L' h' FG' F' N' B' X' T'; (try dsimp only); (try k_lift B'); (try k_fold))
  k_with "exec Raise some none" => (k_here; k_dflt (refine' Raise_calm PySem.F.excCall_ValueError PySem.F.excRaise_ValueError ?hhv0 ?_ ?hev0; (case hhv0 => exact rfl); (case hev0 => exact rfl)))
  k_with "leaving ref" => (k_here; (refine' leave_newC ?k1v1 ?k0v1 ?k2v1 ?k3v1 ?_; (case k0v1 => assumption); (case k2v1 => assumption); (case k1v1 => assumption); (case k3v1 => k_asm); k_whole; intro h' S' U'; (try dsimp only at S' U' ⊢)))
  k_with "exec For Tuple Call cons cons" => (k_here; refine stop_ ?_)
  k_with "call type:enumerate" => (k_here; refine stop_ ?_)
  unfold ConQR
  intros
  rename_i hret
  rename_i hQt hTk _ _
  have kd9 : KtsDicts [] ({} : Heap) := ktsDicts_nil
  refine wpAny_call ?_
  k_dflt (refine' code_def (binds := [(Str.ofString "a", .ref la), (Str.ofString "b", .bool true)]) ?k1 ?k2 ?k3 ?k4 ?k5 ?kA ?kF ?kK ?k6 ?k7 ?k8 ?k9 ?kB ?_ ?c2 ?c3 ?c4 ?c5; k_extra "y_e1")
  k_steps
  obtain ⟨x9, ox9, ws9, rfl, hx1, hx2, hx3⟩ := hQt
  unfold Stop
  rename Fr _ _ _ _ => lF'
  rename News _ _ _ _ => lN'
  refine wpAny_For ?_ (by intro z; rfl)
  k_steps
  unfold Stop
  k_dflt (refine' enum_loop (env := envOf (Str.ofString "indexOf") (fnScope (stAt 5)) _ 49 (Value.ref 48)) (items := (bs.map Value.bool).toArray) (fun _ m => ∀ y, y ≠ Str.ofString "i" → y ≠ Str.ofString "j" → m y = List.lookup y [(Str.ofString "a", Value.ref la), (Str.ofString "b", Value.bool true)].reverse) ?x1 ?x2 ?x3 ?x4 hm lF' lN' ?x5 ?tu ?dn)
  case x1 => exact rfl
  case x2 => exact rfl
  case x3 => exact rfl
  case x4 => exact Or.inr ⟨x9, ox9, ws9, rfl, hx1, hx2, hx3⟩
  case x5 => exact fun y _ _ => rfl
  case tu =>
    rintro i v m₁ t h tk E' e it oe oi hi hm1 hlt hlt2 F N
    obtain ⟨b, hb, rfl⟩ := idx_lt hi
    clear lF' lN'
    rw [off_ij hm1] at F
    obtain rfl := hall b (List.mem_of_getElem? hb)
    k_steps
    refine' ⟨_, _, _, rfl, F, ?nn, fun y h1 h2 => ?mm⟩
    case nn => k_asm
    case mm => dsimp only; rw [if_neg h2, if_neg h1]
  case dn =>
    rintro m₁ h tk hm1 F N
    clear lF' lN'
    k_steps
    · exact ⟨ox9, ws9, (N _ hx1).1, hx2, hx3⟩
    · refine' (?po : PassesOwn _ _ _ _) _ _ ?_
      case po => with_unfolding_all passes_own
      k_steps
      all_goals (refine' hret _ _ _ _ ?f ?u ?r; (case r => assumption); (case u => assumption); (case f => k_asm))
end
section
/-- a contract of a def that catches, called where an exception is handled -/
noncomputable def ConSH (T : Nat) (w : World) (D : Nat) (f : Addr) (vs : List Value) (news : List (Addr × Obj)) (Post : List (Addr × Obj) → Value → Prop) : Prop :=
  ∀ (mean : ExcName → Option Value) (mg mb : Str → Option Value) (hd : Option Value) (dp un : Nat) (gd : Option (List Code)) (cn : Str) (cs : Scope) (a : Addr) (ccd : Value) (cl : List (Str × Addr)) (outer : List Env) (A₀ : Around) (base h₀ : Heap) (L : Addr) (m : Str → Option Value) (s : Shared) (Q E : Value → Shared → Prop),
    Below A₀ base outer h₀ → Fr h₀ L s.heap m → (K w.params).In h₀ → News h₀ L s.heap news → Top qv loose mean mg mb h₀ → (K w.params).In base → Top qv loose mean mg mb base → KtsDicts (outer.filterMap (·.frame)) h₀ → cs.kind = .function → HeldH hd news → T ≤ s.toks → dp + D < recursionLimit → un + 8 * D < cLine →
    (∀ (r : Value) (tl : List (Addr × Obj)) (h' h₀' : Heap) (tk' : Nat), Post tl r → (∀ p ∈ tl, ∀ q ∈ news, q.1 < p.1) → KtsTurn (outer.filterMap (·.frame)) h₀ h₀' → Fr h₀' L h' m → News h₀' L h' (tl ++ news) → Below A₀ base outer h₀' → (K w.params).In h₀' → Top qv loose mean mg mb h₀' → KtsDicts (outer.filterMap (·.frame)) h₀' → Q r { s with heap := h', toks := tk' }) →
    wpAny (model pw w) (yTop hd dp un gd cn cs L a ccd cl outer) (call (.ref f) vs) Q E s
section
variable {T : Nat} {w : World} {D : Nat} {f : Addr} {vs : List Value} {news : List (Addr × Obj)} {mean : ExcName → Option Value} {mg mb : Str → Option Value} {hd : Option Value} {dp un : Nat} {gd : Option (List Code)} {cn : Str} {cs : Scope} {a : Addr} {ccd : Value} {cl : List (Str × Addr)} {outer : List Env} {A₀ : Around} {base h₀ : Heap} {L : Addr} {m : Str → Option Value} {s : Shared} {Q E : Value → Shared → Prop} {Post : List (Addr × Obj) → Value → Prop}
theorem conSH_use {g₀ : Heap} (C : ConSH T w D f vs news Post) (B : Below A₀ base outer h₀) (F : Fr h₀ L s.heap m) (X : (K w.params).In h₀) (N : News h₀ L s.heap news) (Tp : Top qv loose mean mg mb h₀) (XB : (K w.params).In base) (TB : Top qv loose mean mg mb base) (DD : KtsDicts (outer.filterMap (·.frame)) h₀) (T0 : KtsTurn (outer.filterMap (·.frame)) g₀ h₀) (hk : cs.kind = .function) (hH : HeldH hd news) (hT : T ≤ s.toks) (hd1 : dp + D < recursionLimit) (hu : un + 8 * D < cLine)
    (ret : ∀ (r : Value) (tl : List (Addr × Obj)) (h' h₀' : Heap) (tk' : Nat), s.toks ≤ tk' → Post tl r → (∀ p ∈ tl, ∀ q ∈ news, q.1 < p.1) → KtsTurn (outer.filterMap (·.frame)) g₀ h₀' → Fr h₀' L h' m → News h₀' L h' (tl ++ news) → Below A₀ base outer h₀' → (K w.params).In h₀' → Top qv loose mean mg mb h₀' → KtsDicts (outer.filterMap (·.frame)) h₀' → Q r { s with heap := h', toks := tk' }) :
    wpAny (model pw w) (yTop hd dp un gd cn cs L a ccd cl outer) (call (.ref f) vs) Q E s :=
  wpAny_with_toks (Nat.le_refl _) (wpAny_mono (C _ _ _ _ _ _ _ _ _ _ _ _ _ _ _ _ _ _ _ (fun r s' => s.toks ≤ s'.toks → Q r s') (fun e s' => s.toks ≤ s'.toks → E e s') B F X N Tp XB TB DD hk hH hT hd1 hu fun r tl h' h₀' tk' P' l' T' F' N' B' X' P2 D' hk' => ret r tl h' h₀' tk' hk' P' l' (T0.trans T') F' N' B' X' P2 D') (fun _ _ x => x) fun _ _ x => x)
theorem QuietH.of (h : HeldH hd news) : QuietH hd news := .inr h
theorem HeldH.more {news' : List (Addr × Obj)} (h : HeldH hd news) (s : ∀ p ∈ news, p ∈ news') : HeldH hd news' := by
  obtain ⟨x, ox, ws, a, b, c⟩ := h
  exact ⟨x, ox, ws, a, s _ b, c⟩
end
end
section
theorem con_indexB2 (w : World) (news : List (Addr × Obj)) (la : Addr) (arr : Array Value) (bs : List Bool) (n : Nat) (i0 : Nat) (hm : (la, W.listOf arr n) ∈ news) (ha : arr = (bs.map Value.bool).toArray) (hi0 : bs[i0]? = some true) (hlow : ∀ j, j < i0 → bs[j]? = some false) : ConQ 0 w 1 49 [.ref la, .bool true] news (fun tl r => ∃ t, r = .int i0 t ∧ tl = []) := by
  subst ha
  exact con_indexB w news la bs n i0 hm hi0 hlow
theorem con_indexN2 (w : World) (news : List (Addr × Obj)) (la : Addr) (arr : Array Value) (bs : List Bool) (n : Nat) (hm : (la, W.listOf arr n) ∈ news) (ha : arr = (bs.map Value.bool).toArray) (hall : ∀ b ∈ bs, b = false) : ConQR 0 w 1 49 [.ref la, .bool true] news "ValueError" := by
  subst ha
  exact con_indexN w news la bs n hm hall
set_option maxHeartbeats 4000000 in
theorem con_unitF (w : World) (news : List (Addr × Obj)) (c : Nat) (t1 : Tok) (i0 : Nat) (hcode : c < 1114112) (hi0 : ([tab c 0, tab c 1, tab c 2, tab c 3, tab c 4, tab c 5, tab c 6, tab c 0, tab c 1, tab c 2, tab c 3, tab c 4, tab c 5, tab c 6] : List Bool)[i0]? = some true) (hlow : ∀ j, j < i0 → ([tab c 0, tab c 1, tab c 2, tab c 3, tab c 4, tab c 5, tab c 6, tab c 0, tab c 1, tab c 2, tab c 3, tab c 4, tab c 5, tab c 6] : List Bool)[j]? = some false) : ConSH 0 w 5 259 [.str ⟨#[c]⟩ t1] news (fun tl r => ∃ t, r = .int i0 t ∧ tl = []) := by
  w_top off
  k_with_none
  k_with "y_room" => first | ((try simp only [depth_under_make, depth_under_kw, depth_in1, depth_deeper, depth_caller]); (try dsimp only [yTop]); first | exact lim2 (by assumption) rfl | exact lim1 (by assumption) rfl | exact lim0 (by assumption)) | ((try simp only [depth_under_make, depth_under_kw, depth_in1, depth_deeper, depth_caller] at *); (try dsimp only [yTop] at *); omega)
  k_with "y_units" => first | ((try simp only [units_in1, units_deeper, Around.mark_units, units_caller]); (try dsimp only [yTop]); first | exact lim2 (by assumption) rfl | exact lim1 (by assumption) rfl) | (have hcL9 := cLine_is; ((try simp only [units_in1, units_deeper, Around.mark_units, units_caller] at *); (try dsimp only [yTop] at *); omega))
  k_with "y_k5" => ((case k1 => k_asm); (case k2 => k_asm); (case k3 => k_asm); (case k4 => k_asm); (case k5 => k_asm))
  k_with "y_args" => (k_extra "y_k5"; (case kK => first | exact rfl | assumption); (case kH => first | exact Or.inl rfl | exact Or.inr rfl | assumption); (case kT => first | exact Nat.zero_le _ | (dsimp only at *; omega)); (case kd => ktr_room); (case ku => ktr_units))
  k_with "y_eC" => ((case kA => exact rfl); (case kF => exact rfl); (case kK => assumption); k_extra "y_k5"; (case k6 => k_is); (case k7 => k_is); (case k8 => ktr_room); (case k9 => exact BindsTo.of_eq rfl); (case c2 => exact rfl); (case c3 => exact rfl); (case c4 => exact rfl))
  k_with "y_eS" => ((case XB => assumption); (case TB => assumption); (case DD => assumption); k_extra "y_eC"; (case c5 => decide); (case kB => exact locs rfl); k_whole; intro g' L' h' FG' F' N' B' X' T' D'; (try dsimp only); (try k_lift B'); (try k_fold))
  k_with "call ref" => (k_here; (try k_fold); k_dflt (refine' con_use (con_answers _ _ _ _ (by assumption)) ?k1 ?k2 ?k3 ?k4 ?k5 ?kK ?kH ?kT ?kd ?ku ?_; k_extra "y_args"; intro r9 tl9 h9 tk9 T9 P9 l9 F9 N9; obtain ⟨x9, e8, e9⟩ := P9; subst e8; subst e9; (try simp only [List.forall_mem_cons, List.forall_mem_nil, and_true] at l9); (try k_lt l9); (try simp only [List.cons_append, List.nil_append] at N9); (try dsimp only); (try k_fold)))
  k_with "y_argsQ" => ((case k1 => k_asm); (case k2 => k_asm); (case k3 => k_asm); (case k4 => k_asm); (case k5 => k_asm); (case kK => first | exact rfl | assumption); (case kT => first | exact Nat.zero_le _ | (dsimp only at *; omega)); (case kd => ktr_room); (case ku => ktr_units))
  k_with "y_mem" => first | exact List.mem_cons_self .. | exact List.mem_cons_of_mem _ (List.mem_cons_self ..)
  k_with "y_quiet" => first | exact QuietH.of (HeldH.more (by assumption) (by kcj_all)) | exact HeldH.more (by assumption) (by kcj_all)
  k_with "call ref" => (k_here; (try k_fold); k_dflt (refine' conQ_use (con_indexB2 _ _ _ _ _ _ _ ?hmv4 ?hav4 ?hz1v4 ?hz2v4) ?k1 ?k2 ?k3 ?k4 ?k5 ?kK ?kQv4 ?kT ?kd ?ku ?_; (case hz1v4 => assumption); (case hz2v4 => assumption); k_extra "y_argsQ"; (case hmv4 => exact List.Mem.head _); (case hav4 => exact rfl); (case kQv4 => k_extra "y_quiet"); intro r9 tl9 h9 tk9 T9 P9 l9 F9 N9; obtain ⟨t9, e8, e9⟩ := P9; subst e8; subst e9; (try dsimp only); (try k_fold)))
  unfold ConSH
  intros
  rename_i hret
  rename_i hQt hTk _ _
  refine wpAny_call ?_
  k_dflt (refine' code_defX (binds := [(Str.ofString "sign", .str ⟨#[c]⟩ t1)]) ?k1 ?k2 ?k3 ?k4 ?k5 ?XB ?TB ?DD ?kA ?kF ?kK ?k6 ?k7 ?k8 ?k9 ?kB ?_ ?c2 ?c3 ?c4 ?c5; k_extra "y_eS")
  k_steps
  all_goals (refine' hret _ [] _ _ _ ⟨_, rfl, rfl⟩ ?zo ?zt ?zf ?zn ?zb ?zx ?zp ?zd; (case zt => first | assumption | exact KtsTurn.refl); (case zb => k_asm); (case zx => k_asm); (case zp => k_asm); (case zd => first | assumption | k_asm); (case zo => exact noOrd); (case zf => k_asm); (case zn => first | k_asm | (refine' y_drop ?N ?S; (case N => k_asm); (case S => kcj_all))))
set_option maxHeartbeats 4000000 in
theorem con_unitN (w : World) (news : List (Addr × Obj)) (c : Nat) (t1 : Tok) (hcode : c < 1114112) (hall : ∀ b ∈ ([tab c 0, tab c 1, tab c 2, tab c 3, tab c 4, tab c 5, tab c 6, tab c 0, tab c 1, tab c 2, tab c 3, tab c 4, tab c 5, tab c 6] : List Bool), b = false) : ConSH 0 w 5 259 [.str ⟨#[c]⟩ t1] news (fun tl r => ∃ t, r = .int 7 t ∧ tl = []) := by
  w_top off
  k_with_none
  k_with "y_room" => first | ((try simp only [depth_under_make, depth_under_kw, depth_in1, depth_deeper, depth_caller]); (try dsimp only [yTop]); first | exact lim2 (by assumption) rfl | exact lim1 (by assumption) rfl | exact lim0 (by assumption)) | ((try simp only [depth_under_make, depth_under_kw, depth_in1, depth_deeper, depth_caller] at *); (try dsimp only [yTop] at *); omega)
  k_with "y_units" => first | ((try simp only [units_in1, units_deeper, Around.mark_units, units_caller]); (try dsimp only [yTop]); first | exact lim2 (by assumption) rfl | exact lim1 (by assumption) rfl) | (have hcL9 := cLine_is; ((try simp only [units_in1, units_deeper, Around.mark_units, units_caller] at *); (try dsimp only [yTop] at *); omega))
  k_with "y_k5" => ((case k1 => k_asm); (case k2 => k_asm); (case k3 => k_asm); (case k4 => k_asm); (case k5 => k_asm))
  k_with "y_args" => (k_extra "y_k5"; (case kK => first | exact rfl | assumption); (case kH => first | exact Or.inl rfl | exact Or.inr rfl | assumption); (case kT => first | exact Nat.zero_le _ | (dsimp only at *; omega)); (case kd => ktr_room); (case ku => ktr_units))
  k_with "y_eC" => ((case kA => exact rfl); (case kF => exact rfl); (case kK => assumption); k_extra "y_k5"; (case k6 => k_is); (case k7 => k_is); (case k8 => ktr_room); (case k9 => exact BindsTo.of_eq rfl); (case c2 => exact rfl); (case c3 => exact rfl); (case c4 => exact rfl))
  k_with "y_eS" => ((case XB => assumption); (case TB => assumption); (case DD => assumption); k_extra "y_eC"; (case c5 => decide); (case kB => exact locs rfl); k_whole; intro g' L' h' FG' F' N' B' X' T' D'; (try dsimp only); (try k_lift B'); (try k_fold))
  k_with "call ref" => (k_here; (try k_fold); k_dflt (refine' con_use (con_answers _ _ _ _ (by assumption)) ?k1 ?k2 ?k3 ?k4 ?k5 ?kK ?kH ?kT ?kd ?ku ?_; k_extra "y_args"; intro r9 tl9 h9 tk9 T9 P9 l9 F9 N9; obtain ⟨x9, e8, e9⟩ := P9; subst e8; subst e9; (try simp only [List.forall_mem_cons, List.forall_mem_nil, and_true] at l9); (try k_lt l9); (try simp only [List.cons_append, List.nil_append] at N9); (try dsimp only); (try k_fold)))
  k_with "y_argsQ" => ((case k1 => k_asm); (case k2 => k_asm); (case k3 => k_asm); (case k4 => k_asm); (case k5 => k_asm); (case kK => first | exact rfl | assumption); (case kT => first | exact Nat.zero_le _ | (dsimp only at *; omega)); (case kd => ktr_room); (case ku => ktr_units))
  k_with "y_mem" => first | exact List.mem_cons_self .. | exact List.mem_cons_of_mem _ (List.mem_cons_self ..)
  k_with "y_quiet" => first | exact QuietH.of (HeldH.more (by assumption) (by kcj_all)) | exact HeldH.more (by assumption) (by kcj_all)
  k_with "call ref" => (k_here; (try k_fold); k_dflt (refine' conQ_use (con_indexB2 _ _ _ _ _ _ _ ?hmv4 ?hav4 ?hz1v4 ?hz2v4) ?k1 ?k2 ?k3 ?k4 ?k5 ?kK ?kQv4 ?kT ?kd ?ku ?_; (case hz1v4 => assumption); (case hz2v4 => assumption); k_extra "y_argsQ"; (case hmv4 => exact List.Mem.head _); (case hav4 => exact rfl); (case kQv4 => k_extra "y_quiet"); intro r9 tl9 h9 tk9 T9 P9 l9 F9 N9; obtain ⟨t9, e8, e9⟩ := P9; subst e8; subst e9; (try dsimp only); (try k_fold)))
  k_with "y_argsQ" => ((case k1 => k_asm); (case k2 => k_asm); (case k3 => k_asm); (case k4 => k_asm); (case k5 => k_asm); (case kK => first | exact rfl | assumption); (case kT => first | exact Nat.zero_le _ | (dsimp only at *; omega)); (case kd => ktr_room); (case ku => ktr_units))
  k_with "y_mem" => first | exact List.mem_cons_self .. | exact List.mem_cons_of_mem _ (List.mem_cons_self ..)
  k_with "y_quiet" => first | exact QuietH.of (HeldH.more (by assumption) (by kcj_all)) | exact HeldH.more (by assumption) (by kcj_all)
  k_with "call ref" => (k_here; k_dflt (refine' conQR_use (con_indexN2 _ _ _ _ _ _ ?hmv8 ?hav8 ?hz1v8) ?k1 ?k2 ?k3 ?k4 ?k5 ?kK ?kQv8 ?kT ?kd ?ku ?_; (case hz1v8 => assumption); k_extra "y_argsQ"; (case hmv8 => exact List.Mem.head _); (case hav8 => exact rfl); (case kQv8 => k_extra "y_quiet"); intro e9 g9 h9 tk9 T9 F9 U9 R9; (try dsimp only); (try k_fold)))
  unfold ConSH
  intros
  rename_i hret
  rename_i hQt hTk _ _
  refine wpAny_call ?_
  k_dflt (refine' code_defX (binds := [(Str.ofString "sign", .str ⟨#[c]⟩ t1)]) ?k1 ?k2 ?k3 ?k4 ?k5 ?XB ?TB ?DD ?kA ?kF ?kK ?k6 ?k7 ?k8 ?k9 ?kB ?_ ?c2 ?c3 ?c4 ?c5; k_extra "y_eS")
  k_steps
  all_goals (refine' hret _ [] _ _ _ ⟨_, rfl, rfl⟩ ?zo ?zt ?zf ?zn ?zb ?zx ?zp ?zd; (case zt => first | assumption | exact KtsTurn.refl); (case zb => k_asm); (case zx => k_asm); (case zp => k_asm); (case zd => first | assumption | k_asm); (case zo => exact noOrd); (case zf => k_asm); (case zn => first | k_asm | (refine' y_drop ?N ?S; (case N => k_asm); (case S => kcj_all))))
end
section
theorem con_unit (w : World) (news : List (Addr × Obj)) (c : Nat) (t1 : Tok) (hcode : c < 1114112) : ConSH 0 w 5 259 [.str ⟨#[c]⟩ t1] news (fun tl r => ∃ t, r = .int (unitOf c) t ∧ tl = []) := by
  cases h0 : tab c 0 with
  | true =>
    have e : unitOf c = ((0 : Nat) : Int) := by simp [unitOf, fst7, h0]
    rw [e]
    exact con_unitF w news c t1 0 hcode (by simp [h0]) (fun j hj => absurd hj (Nat.not_lt_zero _))
  | false =>
    cases h1 : tab c 1 with
    | true =>
      have e : unitOf c = ((1 : Nat) : Int) := by simp [unitOf, fst7, h0, h1]
      rw [e]
      exact con_unitF w news c t1 1 hcode (by simp [h0, h1]) (fun j hj => match j, hj with | 0, _ => by simp [h0])
    | false =>
      cases h2 : tab c 2 with
      | true =>
        have e : unitOf c = ((2 : Nat) : Int) := by simp [unitOf, fst7, h0, h1, h2]
        rw [e]
        exact con_unitF w news c t1 2 hcode (by simp [h0, h1, h2]) (fun j hj => match j, hj with | 0, _ => by simp [h0] | 1, _ => by simp [h1])
      | false =>
        cases h3 : tab c 3 with
        | true =>
          have e : unitOf c = ((3 : Nat) : Int) := by simp [unitOf, fst7, h0, h1, h2, h3]
          rw [e]
          exact con_unitF w news c t1 3 hcode (by simp [h0, h1, h2, h3]) (fun j hj => match j, hj with | 0, _ => by simp [h0] | 1, _ => by simp [h1] | 2, _ => by simp [h2])
        | false =>
          cases h4 : tab c 4 with
          | true =>
            have e : unitOf c = ((4 : Nat) : Int) := by simp [unitOf, fst7, h0, h1, h2, h3, h4]
            rw [e]
            exact con_unitF w news c t1 4 hcode (by simp [h0, h1, h2, h3, h4]) (fun j hj => match j, hj with | 0, _ => by simp [h0] | 1, _ => by simp [h1] | 2, _ => by simp [h2] | 3, _ => by simp [h3])
          | false =>
            cases h5 : tab c 5 with
            | true =>
              have e : unitOf c = ((5 : Nat) : Int) := by simp [unitOf, fst7, h0, h1, h2, h3, h4, h5]
              rw [e]
              exact con_unitF w news c t1 5 hcode (by simp [h0, h1, h2, h3, h4, h5]) (fun j hj => match j, hj with | 0, _ => by simp [h0] | 1, _ => by simp [h1] | 2, _ => by simp [h2] | 3, _ => by simp [h3] | 4, _ => by simp [h4])
            | false =>
              cases h6 : tab c 6 with
              | true =>
                have e : unitOf c = ((6 : Nat) : Int) := by simp [unitOf, fst7, h0, h1, h2, h3, h4, h5, h6]
                rw [e]
                exact con_unitF w news c t1 6 hcode (by simp [h0, h1, h2, h3, h4, h5, h6]) (fun j hj => match j, hj with | 0, _ => by simp [h0] | 1, _ => by simp [h1] | 2, _ => by simp [h2] | 3, _ => by simp [h3] | 4, _ => by simp [h4] | 5, _ => by simp [h5])
              | false =>
                have e : unitOf c = 7 := by simp [unitOf, fst7, h0, h1, h2, h3, h4, h5, h6]
                rw [e]
                exact con_unitN w news c t1 hcode (by simp [h0, h1, h2, h3, h4, h5, h6])
/-- what _law_value gives back: a list of a sign and a unit -/
noncomputable def ValPost (s u : Int) (tl : List (Addr × Obj)) (r : Value) : Prop := ∃ x ta tb n, r = .ref x ∧ tl = [(x, W.listOf #[.int s ta, .int u tb] n)]
theorem HeldH.ofGot {n₂ news : List (Addr × Obj)} {e t : Addr} {cls : Value} {vs : List Value} (g : GotC n₂ e t cls vs) (s : ∀ p ∈ n₂, p ∈ news) : HeldH (some (.ref e)) news := by
  obtain ⟨oe, ot, ws, nt, a, b, c, d, f, h, _⟩ := g
  exact ⟨e, oe, ws, rfl, s _ a, d, h⟩
theorem keep1 {h₀ h : Heap} {L : Addr} {p : Addr × Obj} {n₂ news : List (Addr × Obj)} (N : News h₀ L h (p :: ([] ++ (n₂ ++ news)))) : News h₀ L h ([p] ++ news) := fun q hq => N q (by
  rcases List.mem_append.mp hq with hq | hq
  · rw [List.mem_singleton] at hq; subst hq; exact List.mem_cons_self
  · exact List.mem_cons_of_mem _ (List.mem_append_right _ (List.mem_append_right _ hq)))
theorem keepO {x : Addr} {o : Obj} {n₂ news : List (Addr × Obj)} (h : ∀ p ∈ [] ++ (n₂ ++ news), p.1 < x) : ∀ p ∈ [(x, o)], ∀ q ∈ news, q.1 < p.1 :=
  ord1 fun p hp => h p (List.mem_append_right _ (List.mem_append_right _ hp))
theorem one_not257 {c : Nat} : Txt.slice (⟨#[c]⟩ : Str) none (some 3) ≠ Str.ofString "257" := by
  intro h
  have e := congrArg (fun s : Str => s.cps.toList.length) h
  have z := slice_ns (x := (⟨#[c]⟩ : Str)) 3
  rw [show ((3 : Nat) : Int) = 3 from rfl] at z
  rw [z, show (Str.ofString "257").cps.toList.length = 3 by decide] at e
  simp at e
set_option maxHeartbeats 4000000 in
theorem con_valueL (w : World) (news : List (Addr × Obj)) (c : Nat) (t1 : Tok) (pa : Addr) (hcode : c < 1114112) : ConS false 0 w 7 273 [.str ⟨#[c]⟩ t1, .ref pa] news (fun tl r => ValPost 1 (unitOf c) tl r) := by
  w_top off
  k_with_none
  k_with "y_room" => first | ((try simp only [depth_under_make, depth_under_kw, depth_in1, depth_deeper, depth_caller]); (try dsimp only [yTop]); first | exact lim2 (by assumption) rfl | exact lim1 (by assumption) rfl | exact lim0 (by assumption)) | ((try simp only [depth_under_make, depth_under_kw, depth_in1, depth_deeper, depth_caller] at *); (try dsimp only [yTop] at *); omega)
  k_with "y_units" => first | ((try simp only [units_in1, units_deeper, Around.mark_units, units_caller]); (try dsimp only [yTop]); first | exact lim2 (by assumption) rfl | exact lim1 (by assumption) rfl) | (have hcL9 := cLine_is; ((try simp only [units_in1, units_deeper, Around.mark_units, units_caller] at *); (try dsimp only [yTop] at *); omega))
  k_with "y_k5" => ((case k1 => k_asm); (case k2 => k_asm); (case k3 => k_asm); (case k4 => k_asm); (case k5 => k_asm))
  k_with "y_args" => (k_extra "y_k5"; (case kK => first | exact rfl | assumption); (case kH => first | exact Or.inl rfl | exact Or.inr rfl | assumption); (case kT => first | exact Nat.zero_le _ | (dsimp only at *; omega)); (case kd => ktr_room); (case ku => ktr_units))
  k_with "y_eC" => ((case kA => exact rfl); (case kF => exact rfl); (case kK => assumption); k_extra "y_k5"; (case k6 => k_is); (case k7 => k_is); (case k8 => ktr_room); (case k9 => exact BindsTo.of_eq rfl); (case c2 => exact rfl); (case c3 => exact rfl); (case c4 => exact rfl))
  k_with "y_eS" => ((case XB => assumption); (case TB => assumption); (case DD => assumption); k_extra "y_eC"; (case c5 => decide); (case kB => exact locs rfl); k_whole; intro g' L' h' FG' F' N' B' X' T' D'; (try dsimp only); (try k_lift B'); (try k_fold))
  k_with "call ref" => (k_here; k_dflt (refine' conR_use (con_parseR _ _ _ _ (by first | assumption | exact Nat.le_of_ble_eq_true rfl) (by first | assumption | exact one_not257)) ?k1 ?k2 ?k3 ?k4 ?k5 ?kK ?kH ?kT ?kd ?ku ?_; k_extra "y_args"; intro e9 t9 g9 h9 tk9 T9 F9 U9 R9 C9; (try dsimp only); (try k_fold)))
  k_with "call type:str" => (k_here; (with_reducible show wpAny _ _ (call (Value.type "str") [Value.ref _]) _ _ _); k_dflt (refine' strOwn_got ?sUv1 ?sXv1 ?sNv1 ?sGv1 ?sSv1 ?sMv1 ?_; (case sGv1 => exact GotC.got (by assumption)); (case sNv1 => exact y_drop (by assumption) (fun p hp => List.mem_append_left _ hp)); (case sXv1 => k_in); (case sUv1 => (have hcL9 := cLine_is; (try simp only [units_in1, units_deeper, Around.mark_units, units_caller] at *); (try dsimp only [yTop] at *); omega)); (case sSv1 => k_is); (case sMv1 => k_is); (try dsimp only); (try k_fold)))
  k_with "noteFrame ref" => (k_here; k_dflt (refine' caught_calm ?Rv2 ?Cv2 ?Fv2 ?Kv2 ?Uv2 ?XBv2 ?TBv2 ?Dv2 ?T0v2 ?exv2 ?qv2 ?_; (case Rv2 => assumption); (case Cv2 => assumption); (case Fv2 => assumption); (case Kv2 => assumption); (case Uv2 => assumption); (case XBv2 => assumption); (case TBv2 => assumption); (case Dv2 => assumption); (case T0v2 => first | assumption | exact KtsTurn.refl); (case exv2 => k_is); (case qv2 => kts_isx); k_whole); intro h' g' n₂ tk' T' F' N' G' K' X' P' D'; (try dsimp only); (try k_lift K'); (try k_fold))
  k_with "y_argsQ" => ((case k1 => k_asm); (case k2 => k_asm); (case k3 => k_asm); (case k4 => k_asm); (case k5 => k_asm); (case kK => first | exact rfl | assumption); (case kT => first | exact Nat.zero_le _ | (dsimp only at *; omega)); (case kd => ktr_room); (case ku => ktr_units))
  k_with "y_mem" => first | exact List.mem_cons_self .. | exact List.mem_cons_of_mem _ (List.mem_cons_self ..)
  k_with "y_quiet" => first | exact QuietH.of (HeldH.more (by assumption) (by kcj_all)) | exact HeldH.more (by assumption) (by kcj_all)
  k_with "call ref" => (k_here; (try k_fold); k_dflt (refine' conSH_use (con_unit _ _ _ _ (by assumption)) ?k1 ?k2 ?k3 ?k4 ?k5 ?XB ?TB ?DD ?T0 ?kK ?kQv6 ?kT ?kd ?ku ?_; k_extra "y_argsQ"; (case XB => assumption); (case TB => assumption); (case DD => assumption); (case T0 => first | assumption | exact KtsTurn.refl); (case kQv6 => exact HeldH.ofGot (by assumption) (fun p hp => List.mem_append_left _ hp)); intro r9 tl9 h9 g9 tk9 T9 P9 l9 K9 F9 N9 B9 X9 Q9 D9; obtain ⟨t9, e8, e9⟩ := P9; subst e8; subst e9; (try dsimp only); (try k_lift B9); (try k_fold)))
  unfold ConS
  intros
  rename_i hret
  rename_i hH hTk _ _
  obtain rfl := hH.resolve_left Bool.false_ne_true
  refine wpAny_call ?_
  k_dflt (refine' code_defX (binds := [(Str.ofString "text", .str ⟨#[c]⟩ t1), (Str.ofString "powers", .ref pa)]) ?k1 ?k2 ?k3 ?k4 ?k5 ?XB ?TB ?DD ?kA ?kF ?kK ?k6 ?k7 ?k8 ?k9 ?kB ?_ ?c2 ?c3 ?c4 ?c5; k_extra "y_eS")
  k_steps
  all_goals first | (exfalso; simp_all; done) | skip
  all_goals (refine' hret _ _ _ _ _ ⟨_, _, _, _, rfl, rfl⟩ ?zo ?zt ?zf ?zn ?zb ?zx ?zp ?zd; (case zt => first | assumption | exact KtsTurn.refl); (case zb => k_asm); (case zx => k_asm); (case zp => k_asm); (case zd => first | assumption | k_asm); (case zf => k_asm); (case zn => exact keep1 (by assumption)); (case zo => exact keepO (by assumption)))
end
section
theorem off_i {k : Str} {m₁ m₀ : Str → Option Value} {v : Option Value} (h : ∀ y, y ≠ k → m₁ y = m₀ y) : (fun y => if y = k then v else m₁ y) = fun y => if y = k then v else m₀ y := by
  funext y
  split
  · rfl
  · exact h y ‹_›
theorem at_i {k : Str} {m₁ m₀ : Str → Option Value} (h : ∀ y, y ≠ k → m₁ y = m₀ y) : m₁ = fun y => if y = k then m₁ k else m₀ y := by
  funext y
  split
  · rw [‹y = k›]
  · exact h y ‹_›
theorem inc_end {k i : Str} {n n' : Int} {t : Tok} {v w : Option Value} {base : Str → Option Value} (e : n + 1 = n') : ∀ y, y ≠ i → (if y = k then some (Value.int (n + 1) t) else if y = i then v else if y = k then w else base y) = if y = k then some (Value.int n' t) else base y := by
  intro y hy
  subst e
  by_cases h : y = k
  · rw [if_pos h, if_pos h]
  · rw [if_neg h, if_neg h, if_neg hy, if_neg h]
theorem same_end {k i : Str} {n n' : Int} {t : Tok} {v : Option Value} {base : Str → Option Value} (e : n = n') : ∀ y, y ≠ i → (if y = i then v else if y = k then some (Value.int n t) else base y) = if y = k then some (Value.int n' t) else base y := by
  intro y hy
  subst e
  rw [if_neg hy]
theorem cnt_step {x : Str} {i c : Nat} (hc : x.cps[i]? = some c) : (x.cps.toList.take (i + 1)).count 34 = (x.cps.toList.take i).count 34 + if c = 34 then 1 else 0 := by
  rw [List.take_add_one, List.count_append, Array.getElem?_toList, hc]
  simp [List.count_cons]
theorem cnt_yes {x : Str} {i c : Nat} (hc : x.cps[i]? = some c) (h : c = 34) : (((x.cps.toList.take i).count 34 : Nat) : Int) + 1 = ((x.cps.toList.take (i + 1)).count 34 : Nat) := by
  rw [cnt_step hc, if_pos h]
  rfl
theorem cnt_no {x : Str} {i c : Nat} (hc : x.cps[i]? = some c) (h : ¬ c = 34) : (((x.cps.toList.take i).count 34 : Nat) : Int) = ((x.cps.toList.take (i + 1)).count 34 : Nat) := by
  rw [cnt_step hc, if_neg h]
  rfl
theorem one_is {c : Nat} : (⟨#[c]⟩ : Str) = Str.ofString "\"" ↔ c = 34 := by
  rw [show Str.ofString "\"" = ⟨#[34]⟩ by decide]
  simp
theorem one_eq {c : Nat} : ((⟨#[c]⟩ : Str) == Str.ofString "\"") = true ↔ c = 34 := by
  rw [beq_iff_eq]
  exact one_is
set_option maxHeartbeats 4000000 in
theorem con_countS (w : World) (news : List (Addr × Obj)) (x : Str) (t1 t2 : Tok) (ht : 0 < t2) : ConV false (t2 + 1) w 1 42 [.str x t1, .str (Str.ofString "\"") t2] news (fun t => .int (x.cps.toList.count 34 : Nat) t) := by
  w_top off
  k_with_none
  k_with "y_room" => first | ((try simp only [depth_under_make, depth_under_kw, depth_in1, depth_deeper, depth_caller]); (try dsimp only [yTop]); first | exact lim2 (by assumption) rfl | exact lim1 (by assumption) rfl | exact lim0 (by assumption)) | ((try simp only [depth_under_make, depth_under_kw, depth_in1, depth_deeper, depth_caller] at *); (try dsimp only [yTop] at *); omega)
  k_with "y_units" => first | ((try simp only [units_in1, units_deeper, Around.mark_units, units_caller]); (try dsimp only [yTop]); first | exact lim2 (by assumption) rfl | exact lim1 (by assumption) rfl) | (have hcL9 := cLine_is; ((try simp only [units_in1, units_deeper, Around.mark_units, units_caller] at *); (try dsimp only [yTop] at *); omega))
  k_with "y_k5" => ((case k1 => k_asm); (case k2 => k_asm); (case k3 => k_asm); (case k4 => k_asm); (case k5 => k_asm))
  k_with "y_eC" => ((case kA => exact rfl); (case kF => exact rfl); (case kK => assumption); k_extra "y_k5"; (case k6 => k_is); (case k7 => k_is); (case k8 => ktr_room); (case k9 => exact BindsTo.of_eq rfl); (case c2 => exact rfl); (case c3 => exact rfl); (case c4 => exact rfl))
  k_with "y_e1" => (k_extra "y_eC"; (case c5 => decide); (case kB => exact locs rfl); k_whole; intro g' L' h' FG' F' N' B' X' T'; (try dsimp only); (try k_lift B'); (try k_fold))
  k_with "exec For Name Name cons nil" => (k_here; refine stop_ ?_)
  k_with "compareOp Is str str" => (k_here; k_dflt (refine' is_tok ?av1 ?bv1 ?cv1 ?dv1 ?_; (case av1 => exact Nat.lt_of_lt_of_le (Nat.succ_pos _) (by assumption)); (case bv1 => assumption); (case cv1 => exact Nat.ne_of_gt (by assumption)); (case dv1 => exact booked' (by assumption) (by assumption))); intro b9 hb9)
  unfold ConV
  intros
  rename_i hret
  rename_i hH hTk _ _
  obtain rfl := hH.resolve_left Bool.false_ne_true
  refine wpAny_call ?_
  k_dflt (refine' code_def (binds := [(Str.ofString "a", .str x t1), (Str.ofString "b", .str (Str.ofString "\"") t2)]) ?k1 ?k2 ?k3 ?k4 ?k5 ?kA ?kF ?kK ?k6 ?k7 ?k8 ?k9 ?kB ?_ ?c2 ?c3 ?c4 ?c5; k_extra "y_e1")
  k_steps
  unfold Stop
  rename Fr _ _ _ _ => lF'
  rename News _ _ _ _ => lN'
  refine wpAny_For ?_ (by intro z; rfl)
  k_steps
  k_dflt (refine' for_str (T := t2 + 1) (fun i m => ∃ t', ∀ y, y ≠ Str.ofString "i" → m y = if y = Str.ofString "count" then some (.int ((x.cps.toList.take i).count 34 : Nat) t') else List.lookup y [(Str.ofString "a", Value.str x t1), (Str.ofString "b", Value.str (Str.ofString "\"") t2)].reverse) ?x1 ?x2 ?x3 lF' lN' ?x4 ?x5 ?tu ?dn)
  case x1 => exact rfl
  case x2 => exact rfl
  case x3 => exact rfl
  case x4 => exact Nat.le_trans hTk (Nat.le_trans (Nat.le_add_right _ _) (Nat.le_trans (Nat.le_add_right _ _) (Nat.le_add_right _ _)))
  case x5 => exact ⟨_, fun y _ => rfl⟩
  case tu =>
    rintro i c u m₁ I oI h tk E' hc hTu hut ⟨t', hm⟩ hI F N
    rw [off_i hm] at F
    clear lF' lN'
    have hFk := F.keep
    k_steps
    · subst_vars
      refine' ⟨.inl rfl, _, _, _, rfl, ?zf, ?zn, _, inc_end (cnt_yes hc ?zc)⟩
      case zf => k_asm
      case zn => k_asm
      case zc => exact one_is.mp (by simp_all)
    · refine' ⟨.inl rfl, _, _, _, rfl, ?zf, ?zn, _, inc_end (cnt_yes hc ?zc)⟩
      case zf => k_asm
      case zn => k_asm
      case zc => exact one_eq.mp (by simp_all)
    · refine' ⟨.inl rfl, _, _, _, rfl, ?zf, ?zn, _, same_end (cnt_no hc ?zc)⟩
      case zf => k_asm
      case zn => k_asm
      case zc => exact fun h9 => by have := one_eq.mpr h9; simp_all
  case dn =>
    rintro m₁ h tk ⟨t', hm⟩ F N
    rw [at_i hm] at F
    generalize m₁ (Str.ofString "i") = o at F
    clear lF' lN'
    have e9 : x.cps.toList.take x.cps.size = x.cps.toList := by rw [← Array.length_toList, List.take_length]
    rw [e9] at F
    dsimp only
    k_steps
    all_goals (refine cb_retI hret ?e1 ?e2 ?e3; (case e2 => k_asm); (case e3 => first | k_asm | (refine' y_drop ?N ?S; (case N => k_asm); (case S => kcj_all))); (case e1 => rfl))
end
section
set_option maxHeartbeats 4000000 in
theorem con_ipow (w : World) (news : List (Addr × Obj)) (a b : Int) (t1 t2 : Tok) (ha : a.natAbs ≤ 9) (hb : 0 ≤ b ∧ b ≤ 22) : ConV false 0 w 1 77 [.int a t1, .int b t2] news (fun t => .int (a ^ b.toNat) t) := by
  w_top off
  k_with_none
  k_with "y_room" => first | ((try simp only [depth_under_make, depth_under_kw, depth_in1, depth_deeper, depth_caller]); (try dsimp only [yTop]); first | exact lim2 (by assumption) rfl | exact lim1 (by assumption) rfl | exact lim0 (by assumption)) | ((try simp only [depth_under_make, depth_under_kw, depth_in1, depth_deeper, depth_caller] at *); (try dsimp only [yTop] at *); omega)
  k_with "y_units" => first | ((try simp only [units_in1, units_deeper, Around.mark_units, units_caller]); (try dsimp only [yTop]); first | exact lim2 (by assumption) rfl | exact lim1 (by assumption) rfl) | (have hcL9 := cLine_is; ((try simp only [units_in1, units_deeper, Around.mark_units, units_caller] at *); (try dsimp only [yTop] at *); omega))
  k_with "y_k5" => ((case k1 => k_asm); (case k2 => k_asm); (case k3 => k_asm); (case k4 => k_asm); (case k5 => k_asm))
  k_with "y_eC" => ((case kA => exact rfl); (case kF => exact rfl); (case kK => assumption); k_extra "y_k5"; (case k6 => k_is); (case k7 => k_is); (case k8 => ktr_room); (case k9 => exact BindsTo.of_eq rfl); (case c2 => exact rfl); (case c3 => exact rfl); (case c4 => exact rfl))
  k_with "y_e1" => (k_extra "y_eC"; (case c5 => decide); (case kB => exact locs rfl); k_whole; intro g' L' h' FG' F' N' B' X' T'; (try dsimp only); (try k_lift B'); (try k_fold))
  unfold ConV
  intros
  rename_i hret
  rename_i hH hTk _ _
  obtain rfl := hH.resolve_left Bool.false_ne_true
  refine wpAny_call ?_
  k_dflt (refine' code_def (binds := [(Str.ofString "a", .int a t1), (Str.ofString "b", .int b t2)]) ?k1 ?k2 ?k3 ?k4 ?k5 ?kA ?kF ?kK ?k6 ?k7 ?k8 ?k9 ?kB ?_ ?c2 ?c3 ?c4 ?c5; k_extra "y_e1")
  k_steps
  all_goals first | (refine cb_retI hret ?e1 ?e2 ?e3; (case e2 => k_asm); (case e3 => k_asm); (case e1 => rfl)) | trace_state
end
section
set_option maxHeartbeats 4000000 in
theorem con_times (w : World) (news : List (Addr × Obj)) (fa sa pa : Addr) (s1 u1 s2 u2 p0 p1 : Int) (a1 b1 a2 b2 a3 b3 : Tok) (n1 n2 n3 : Nat) (hs1 : s1 = 1 ∨ s1 = -1) (hs2 : s2 = 1 ∨ s2 = -1) (hu1 : 0 ≤ u1 ∧ u1 ≤ 7) (hu2 : 0 ≤ u2 ∧ u2 ≤ 7) (hp0 : 0 ≤ p0 ∧ p0 ≤ 22) (hp1 : 0 ≤ p1 ∧ p1 ≤ 22) (hf : (fa, W.listOf #[.int s1 a1, .int u1 b1] n1) ∈ news) (hs : (sa, W.listOf #[.int s2 a2, .int u2 b2] n2) ∈ news) (hp : (pa, W.listOf #[.int p0 a3, .int p1 b3] n3) ∈ news) : Con false 0 w 3 266 [.ref fa, .ref sa, .ref pa] news (fun tl r => ∃ x ta tb, r = .ref x ∧ tl = [(x, W.listOf #[.int (timesS s1 u1 s2 u2 p0) ta, .int (timesU u1 u2 p1) tb] 0)]) := by
  w_top off
  k_with_none
  k_with "y_room" => first | ((try simp only [depth_under_make, depth_under_kw, depth_in1, depth_deeper, depth_caller]); (try dsimp only [yTop]); first | exact lim2 (by assumption) rfl | exact lim1 (by assumption) rfl | exact lim0 (by assumption)) | ((try simp only [depth_under_make, depth_under_kw, depth_in1, depth_deeper, depth_caller] at *); (try dsimp only [yTop] at *); omega)
  k_with "y_units" => first | ((try simp only [units_in1, units_deeper, Around.mark_units, units_caller]); (try dsimp only [yTop]); first | exact lim2 (by assumption) rfl | exact lim1 (by assumption) rfl) | (have hcL9 := cLine_is; ((try simp only [units_in1, units_deeper, Around.mark_units, units_caller] at *); (try dsimp only [yTop] at *); omega))
  k_with "y_k5" => ((case k1 => k_asm); (case k2 => k_asm); (case k3 => k_asm); (case k4 => k_asm); (case k5 => k_asm))
  k_with "y_args" => (k_extra "y_k5"; (case kK => first | exact rfl | assumption); (case kH => first | exact Or.inl rfl | exact Or.inr rfl | assumption); (case kT => first | exact Nat.zero_le _ | (dsimp only at *; omega)); (case kd => ktr_room); (case ku => ktr_units))
  k_with "y_eC" => ((case kA => exact rfl); (case kF => exact rfl); (case kK => assumption); k_extra "y_k5"; (case k6 => k_is); (case k7 => k_is); (case k8 => ktr_room); (case k9 => exact BindsTo.of_eq rfl); (case c2 => exact rfl); (case c3 => exact rfl); (case c4 => exact rfl))
  k_with "y_e1" => (k_extra "y_eC"; (case c5 => decide); (case kB => exact locs rfl); k_whole; intro g' L' h' FG' F' N' B' X' T'; (try dsimp only); (try k_lift B'); (try k_fold))
  k_with "y_mm" => first | with_reducible assumption | (refine List.mem_cons_of_mem _ ?_; k_extra "y_mm")
  k_with "subscriptTail Name Constant ref int" => (k_here; k_dflt (refine' item_mem ?iNw ?iMw ?i0w ?i1w ?i2w ?_ ?i3w; (case iNw => k_asm); (case iMw => k_extra "y_mm"); (case i0w => decide); (case i1w => decide); (case i2w => rfl); (case i3w => with_unfolding_all rfl); (try dsimp only); (try k_fold)))
  k_with "y_ord" => first | exact ord1 (by assumption) | exact ord1 (allLt_all (by assumption : _ ∧ AllLt _ _).2) | exact ord1 (allLt_all (by assumption : _ ∧ _ ∧ AllLt _ _).2.2) | exact ord1 (allLt_all (by assumption : _ ∧ _ ∧ _ ∧ AllLt _ _).2.2.2) | exact ord1 (allLt_all (by assumption : _ ∧ _ ∧ _ ∧ _ ∧ AllLt _ _).2.2.2.2) | exact ord1 (allLt_all (by assumption : _ ∧ _ ∧ _ ∧ _ ∧ _ ∧ AllLt _ _).2.2.2.2.2)
  k_with "STOPCALL" => skip
  k_with "call ref" => (k_here; refine stop_ ?_)
  k_with "call ref" => (k_here; k_dflt (refine' conV_use (con_neg _ _ _ _) ?k1 ?k2 ?k3 ?k4 ?k5 ?kK ?kH ?kT ?kd ?ku ?_; k_extra "y_args"; intro t9 h9 tk9 T9 F9 N9; (try dsimp only); (try k_fold)))
  k_with "call ref" => (k_here; k_dflt (refine' conV_use (con_iadd _ _ _ _ _ _) ?k1 ?k2 ?k3 ?k4 ?k5 ?kK ?kH ?kT ?kd ?ku ?_; k_extra "y_args"; intro t9 h9 tk9 T9 F9 N9; (try dsimp only); (try k_fold)))
  k_with "call ref" => (k_here; k_dflt (refine' conV_use (con_isub _ _ _ _ _ _) ?k1 ?k2 ?k3 ?k4 ?k5 ?kK ?kH ?kT ?kd ?ku ?_; k_extra "y_args"; intro t9 h9 tk9 T9 F9 N9; (try dsimp only); (try k_fold)))
  k_with "call ref" => (k_here; k_dflt (refine' conV_use (con_imul _ _ _ _ _ _ (by first | assumption | decide | exact menu_bd _ | omega) (by first | assumption | decide | exact menu_bd _ | omega)) ?k1 ?k2 ?k3 ?k4 ?k5 ?kK ?kH ?kT ?kd ?ku ?_; k_extra "y_args"; intro t9 h9 tk9 T9 F9 N9; (try dsimp only); (try k_fold)))
  k_with "call ref" => (k_here; k_dflt (refine' conV_use (con_imod _ _ _ _ _ _ (by first | assumption | decide | exact menu_bd _ | omega) (by first | assumption | decide | exact menu_bd _ | omega)) ?k1 ?k2 ?k3 ?k4 ?k5 ?kK ?kH ?kT ?kd ?ku ?_; k_extra "y_args"; intro t9 h9 tk9 T9 F9 N9; (try dsimp only); (try k_fold)))
  k_with "call ref" => (k_here; k_dflt (refine' conV_use (con_not _ _ _ _) ?k1 ?k2 ?k3 ?k4 ?k5 ?kK ?kH ?kT ?kd ?ku ?_; k_extra "y_args"; intro t9 h9 tk9 T9 F9 N9; (try dsimp only); (try k_fold)))
  k_with "call ref" => (k_here; k_dflt (refine' conV_use (con_isB _ _ _ _) ?k1 ?k2 ?k3 ?k4 ?k5 ?kK ?kH ?kT ?kd ?ku ?_; k_extra "y_args"; intro t9 h9 tk9 T9 F9 N9; (try dsimp only); (try k_fold)))
  k_with "call ref" => (k_here; k_dflt (refine' conV_use (con_ipow _ _ _ _ _ _ (by first | assumption | decide | exact menu_bd _ | omega) (by first | assumption | decide | exact menu_bd _ | omega)) ?k1 ?k2 ?k3 ?k4 ?k5 ?kK ?kH ?kT ?kd ?ku ?_; k_extra "y_args"; intro t9 h9 tk9 T9 F9 N9; (try dsimp only); (try k_fold)))
  unfold Con
  intros
  rename_i hret
  rename_i hH hTk _ _
  obtain rfl := hH.resolve_left Bool.false_ne_true
  have hss : (s1 * s2).natAbs ≤ 1000000 := by rcases hs1 with rfl | rfl <;> rcases hs2 with rfl | rfl <;> decide
  have hs1a : s1.natAbs ≤ 1000000 := by rcases hs1 with rfl | rfl <;> decide
  have hs2a : s2.natAbs ≤ 1000000 := by rcases hs2 with rfl | rfl <;> decide
  have hst : (u2 - u1).natAbs ≤ 9 := by omega
  refine wpAny_call ?_
  k_dflt (refine' code_def (binds := [(Str.ofString "first", .ref fa), (Str.ofString "second", .ref sa), (Str.ofString "powers", .ref pa)]) ?k1 ?k2 ?k3 ?k4 ?k5 ?kA ?kF ?kK ?k6 ?k7 ?k8 ?k9 ?kB ?_ ?c2 ?c3 ?c4 ?c5; k_extra "y_e1")
  k_steps
  all_goals (try (exact (noBoth (by assumption) (by assumption)).elim))
  all_goals (refine' hret _ _ _ _ ⟨_, _, _, rfl, rfl⟩ ?o ?f ?n; (case o => k_extra "y_ord"); (case f => k_asm); (case n => first
    | (rw [tS1 (by assumption), tU1 (by assumption)]; k_asm)
    | (rw [tS2 (by assumption) (by assumption), tU2 (by assumption) (by assumption)]; k_asm)
    | (rw [tS3 (by assumption) (by assumption) (by assumption), tU3 (by assumption) (by assumption) (by assumption)]; k_asm)
    | (rw [tS4 (by assumption) (by assumption) (by assumption), tU4 (by assumption) (by assumption) (by assumption)]; k_asm)
    | (rw [tS4 (by assumption) (by assumption) (by assumption), tU4 (by assumption) (by assumption) (by assumption)]; refine' drop2 ?N; (case N => k_asm))
    | skip))
end
section
theorem con_parseP (w : World) (news : List (Addr × Obj)) (x y : Str) (t1 : Tok) (hx : (pairS x y).length ≤ 1000) : ConV false 0 w 1 116 [.str (pairS x y) t1] news (fun t => .str x t) := by
  have h := con_parse w news (pairS x y) t1 hx (pair_257 x y) (pair_quote x y)
  rw [pair_first] at h
  exact h
theorem conS_useV {w : World} {Dv : Nat} {pa : Addr} {o : Obj} {z : Str} {su uu : Int} {t : Tok} {news : List (Addr × Obj)} {mean : ExcName → Option Value} {mg mb : Str → Option Value} {hd : Option Value} {dp un : Nat} {gd : Option (List Code)} {cn : Str} {cs : Scope} {a : Addr} {ccd : Value} {cl : List (Str × Addr)} {outer : List Env} {A₀ : Around} {base h₀ g₀ : Heap} {L : Addr} {m : Str → Option Value} {s : Shared} {Q E : Value → Shared → Prop}
    (C : ∀ nw t, (pa, o) ∈ nw → ConS false 0 w Dv 273 [.str z t, .ref pa] nw (ValPost su uu)) (hp : (pa, o) ∈ news) (B : Below A₀ base outer h₀) (F : Fr h₀ L s.heap m) (X : (K w.params).In h₀) (N : News h₀ L s.heap news) (Tp : Top qv loose mean mg mb h₀) (XB : (K w.params).In base) (TB : Top qv loose mean mg mb base) (DD : KtsDicts (outer.filterMap (·.frame)) h₀) (T0 : KtsTurn (outer.filterMap (·.frame)) g₀ h₀) (hk : cs.kind = .function) (hH : hd = none) (hT : 0 ≤ s.toks) (hd1 : dp + Dv < recursionLimit) (hu : un + 8 * Dv < cLine)
    (ret : ∀ (r : Value) (tl : List (Addr × Obj)) (h' h₀' : Heap) (tk' : Nat), s.toks ≤ tk' → ValPost su uu tl r → (∀ p ∈ tl, ∀ q ∈ news, q.1 < p.1) → KtsTurn (outer.filterMap (·.frame)) g₀ h₀' → Fr h₀' L h' m → News h₀' L h' (tl ++ news) → Below A₀ base outer h₀' → (K w.params).In h₀' → Top qv loose mean mg mb h₀' → KtsDicts (outer.filterMap (·.frame)) h₀' → Q r { s with heap := h', toks := tk' }) :
    wpAny (model pw w) (yTop hd dp un gd cn cs L a ccd cl outer) (call (.ref 273) [.str z t, .ref pa]) Q E s :=
  conS_use (C news t hp) B F X N Tp XB TB DD T0 hk (.inr hH) hT hd1 hu ret
set_option maxHeartbeats 4000000 in
theorem con_valueN (w : World) (news : List (Addr × Obj)) (x y : Str) (t1 : Tok) (pa : Addr) (p0 p1 s1 u1 s2 u2 : Int) (a3 b3 : Tok) (n3 Dv : Nat) (hx : x.length ≤ 1000) (hy : y.length ≤ 1000) (hxy : (pairS x y).length ≤ 1000) (hD : 7 ≤ Dv) (hs1 : s1 = 1 ∨ s1 = -1) (hs2 : s2 = 1 ∨ s2 = -1) (hu1 : 0 ≤ u1 ∧ u1 ≤ 7) (hu2 : 0 ≤ u2 ∧ u2 ≤ 7) (hp0 : 0 ≤ p0 ∧ p0 ≤ 22) (hp1 : 0 ≤ p1 ∧ p1 ≤ 22) (hp : (pa, W.listOf #[.int p0 a3, .int p1 b3] n3) ∈ news) (CA : ∀ nw t, (pa, W.listOf #[.int p0 a3, .int p1 b3] n3) ∈ nw → ConS false 0 w Dv 273 [.str x t, .ref pa] nw (ValPost s1 u1)) (CB : ∀ nw t, (pa, W.listOf #[.int p0 a3, .int p1 b3] n3) ∈ nw → ConS false 0 w Dv 273 [.str y t, .ref pa] nw (ValPost s2 u2)) : ConS false 0 w (Dv + 1) 273 [.str (pairS x y) t1, .ref pa] news (fun tl r => ValPost (timesS s1 u1 s2 u2 p0) (timesU u1 u2 p1) tl r) := by
  w_top off
  k_with_none
  k_with "y_room" => first | ((try simp only [depth_under_make, depth_under_kw, depth_in1, depth_deeper, depth_caller]); (try dsimp only [yTop]); first | exact lim2 (by assumption) rfl | exact lim1 (by assumption) rfl | exact lim0 (by assumption)) | ((try simp only [depth_under_make, depth_under_kw, depth_in1, depth_deeper, depth_caller] at *); (try dsimp only [yTop] at *); omega)
  k_with "y_units" => first | ((try simp only [units_in1, units_deeper, Around.mark_units, units_caller]); (try dsimp only [yTop]); first | exact lim2 (by assumption) rfl | exact lim1 (by assumption) rfl) | (have hcL9 := cLine_is; ((try simp only [units_in1, units_deeper, Around.mark_units, units_caller] at *); (try dsimp only [yTop] at *); omega))
  k_with "y_k5" => ((case k1 => k_asm); (case k2 => k_asm); (case k3 => k_asm); (case k4 => k_asm); (case k5 => k_asm))
  k_with "y_args" => (k_extra "y_k5"; (case kK => first | exact rfl | assumption); (case kH => first | exact Or.inl rfl | exact Or.inr rfl | assumption); (case kT => first | exact Nat.zero_le _ | (dsimp only at *; omega)); (case kd => ktr_room); (case ku => ktr_units))
  k_with "y_eC" => ((case kA => exact rfl); (case kF => exact rfl); (case kK => assumption); k_extra "y_k5"; (case k6 => k_is); (case k7 => k_is); (case k8 => ktr_room); (case k9 => exact BindsTo.of_eq rfl); (case c2 => exact rfl); (case c3 => exact rfl); (case c4 => exact rfl))
  k_with "y_eS" => ((case XB => assumption); (case TB => assumption); (case DD => assumption); k_extra "y_eC"; (case c5 => decide); (case kB => exact locs rfl); k_whole; intro g' L' h' FG' F' N' B' X' T' D'; (try dsimp only); (try k_lift B'); (try k_fold))
  k_with "call ref" => (k_here; k_dflt (refine' conV_use (con_parseP _ _ _ _ _ (by assumption)) ?k1 ?k2 ?k3 ?k4 ?k5 ?kK ?kH ?kT ?kd ?ku ?_; k_extra "y_args"; intro t9 h9 tk9 T9 F9 N9; (try dsimp only); (try k_fold)))
  k_with "call ref" => (k_here; k_dflt (refine' conV_use (con_countS _ _ _ _ _ ?ctv1) ?k1 ?k2 ?k3 ?k4 ?k5 ?kK ?kH ?kT ?kd ?ku ?_; k_extra "y_args"; (case ctv1 => exact Nat.succ_pos _); intro t9 h9 tk9 T9 F9 N9; (try dsimp only); (try k_fold)))
  k_with "y_argsV" => ((case k1 => k_asm); (case k2 => k_asm); (case k3 => k_asm); (case k4 => k_asm); (case k5 => k_asm); (case kK => first | exact rfl | assumption); (case kT => first | exact Nat.zero_le _ | exact Nat.succ_pos _ | (dsimp only at *; omega)); (case kd => ktr_room); (case ku => ktr_units))
  k_with "call ref" => (k_here; (try k_fold); k_dflt (refine' conS_useV ?cav3 ?zpv3 ?k1 ?k2 ?k3 ?k4 ?k5 ?XB ?TB ?DD ?T0 ?kK ?kH ?kT ?kd ?ku ?_; (case cav3 => assumption); (case kH => exact rfl); k_extra "y_argsV"; (case zpv3 => first | with_reducible assumption | exact List.mem_cons_self .. | (refine List.mem_cons_of_mem _ ?_; with_reducible assumption) | exact List.mem_cons_of_mem _ (List.mem_cons_self ..) | (refine List.mem_cons_of_mem _ (List.mem_cons_of_mem _ ?_); with_reducible assumption)); (case XB => assumption); (case TB => assumption); (case DD => assumption); (case T0 => first | assumption | exact KtsTurn.refl); intro r9 tl9 h9 g9 tk9 T9 P9 l9 K9 F9 N9 B9 X9 Q9 D9; obtain ⟨x9, ta9, tb9, n9, e8, e9⟩ := P9; subst e8; subst e9; (try simp only [List.forall_mem_cons, List.forall_mem_nil, and_true] at l9); (try k_lt l9); (try simp only [List.cons_append, List.nil_append] at N9); (try dsimp only); (try k_lift B9); (try k_fold)))
  unfold ConS
  intros
  rename_i hret
  rename_i hH hTk _ _
  obtain rfl := hH.resolve_left Bool.false_ne_true
  rw [← pair_second x y] at CB
  refine wpAny_call ?_
  k_dflt (refine' code_defX (binds := [(Str.ofString "text", .str (pairS x y) t1), (Str.ofString "powers", .ref pa)]) ?k1 ?k2 ?k3 ?k4 ?k5 ?XB ?TB ?DD ?kA ?kF ?kK ?k6 ?k7 ?k8 ?k9 ?kB ?_ ?c2 ?c3 ?c4 ?c5; k_extra "y_eS")
  k_steps
  rename News _ _ _ _ => nN
  k_dflt (refine' con_use (con_times _ _ _ _ _ s1 u1 s2 u2 p0 p1 _ _ _ _ a3 b3 _ _ n3 hs1 hs2 hu1 hu2 hp0 hp1 (List.mem_cons_of_mem _ (List.mem_cons_self ..)) (List.mem_cons_self ..) (List.mem_cons_of_mem _ (List.mem_cons_of_mem _ hp))) ?k1 ?k2 ?k3 nN ?k5 ?kK ?kH ?kT ?kd ?ku ?_)
  case k1 => k_asm
  case k2 => k_asm
  case k3 => k_asm
  case k5 => k_asm
  case kK => exact rfl
  case kH => exact Or.inr rfl
  case kT => exact Nat.zero_le _
  case kd => ktr_room
  case ku => ktr_units
  intro r9 tl9 h9 tk9 T9 P9 l9 F9 N9
  obtain ⟨x9, ta9, tb9, e8, e9⟩ := P9
  subst e8
  subst e9
  have o9 := l9
  try simp only [List.forall_mem_cons, List.forall_mem_nil, and_true] at l9
  try k_lt l9
  try simp only [List.cons_append, List.nil_append] at N9
  try dsimp only
  k_steps
  all_goals (refine' hret _ _ _ _ _ ⟨_, _, _, _, rfl, rfl⟩ ?zo ?zt ?zf ?zn ?zb ?zx ?zp ?zd; (case zt => first | assumption | exact KtsTurn.refl); (case zb => k_asm); (case zx => k_asm); (case zp => k_asm); (case zd => first | assumption | k_asm); (case zf => k_asm); (case zn => first | k_asm | exact drop3 (by assumption)); (case zo => exact fun p hp q hq => o9 p hp q (List.mem_cons_of_mem _ (List.mem_cons_of_mem _ hq))))
end
section
noncomputable def sg (n : Nat) : Int := if n % 2 = 0 then 1 else -1
noncomputable def muT (a b : Nat) : Nat := (6148998002004541859694223707839936315769066958096568046495 >>> (3 * (8 * a + b))) % 8
noncomputable def msT (a b : Nat) : Nat := (32714994838098793 >>> (8 * a + b)) % 2
noncomputable def twT (a b : Nat) : Nat := (12307325063691393536 >>> (8 * a + b)) % 2
noncomputable def tnT (a b c : Nat) : Nat := (12347459532681866371650103205385203202014870699000085927504102630980511566271124405589336618481472192705632891054960030461063263236452902620175653666816 >>> (64 * a + 8 * b + c)) % 2
noncomputable def nuT (a : Nat) : Nat := (1817228 >>> (3 * a)) % 8
noncomputable def poT (a : Nat) : Nat := (12159119 >>> (3 * a)) % 8
theorem muT_lt (a b : Nat) : muT a b < 8 := Nat.mod_lt _ (by decide)
theorem nuT_lt (a : Nat) : nuT a < 8 := Nat.mod_lt _ (by decide)
theorem sg_add (m n : Nat) : sg m * sg n = sg (m + n) := by
  unfold sg
  rcases Nat.mod_two_eq_zero_or_one m with h | h <;> rcases Nat.mod_two_eq_zero_or_one n with k | k <;> simp [Nat.add_mod, h, k]
theorem sg_mod (m n : Nat) (h : m % 2 = n % 2) : sg m = sg n := by unfold sg; rw [h]
theorem sg_pm (m : Nat) : sg m = 1 ∨ sg m = -1 := by unfold sg; split <;> simp
theorem timesU_t : ∀ f < 4, ∀ a < 8, ∀ b < 8, timesU (a : Nat) (b : Nat) (4 + 6 * ((f : Nat) : Int)) = ((muT a b : Nat) : Int) := by decide +kernel
theorem timesS_t : ∀ e < 4, ∀ a < 8, ∀ b < 8, ∀ i < 2, timesS (sg i) (a : Nat) 1 (b : Nat) (3 + 6 * ((e : Nat) : Int)) = sg (i + msT a b) := by decide +kernel
theorem two_t : ∀ a < 8, ∀ b < 8, two (a : Nat) (b : Nat) = sg (twT a b) := by decide +kernel
theorem turn_t : ∀ a < 8, ∀ b < 8, ∀ c < 8, turn (a : Nat) (b : Nat) (c : Nat) = sg (tnT a b c) := by decide +kernel
theorem xor_t : ∀ a < 8, ∀ b < 8, Builtin.bitXor (a : Nat) (b : Nat) = ((Nat.xor a b : Nat) : Int) ∧ Nat.xor a b < 8 := by decide +kernel
theorem pos_t : ∀ a < 8, posN (a : Nat) = ((poT a : Nat) : Int) := by decide +kernel
/-- a sign's parity and a unit -/
noncomputable abbrev PV := Nat × Nat
noncomputable def mulV (v u : PV) : PV := (v.1 + u.1 + msT v.2 u.2, muT v.2 u.2)
noncomputable def five (a b c d : Nat) : List PV :=
  [mulV (mulV (mulV (0, a) (0, b)) (0, c)) (0, d), mulV (mulV (0, a) (mulV (0, b) (0, c))) (0, d), mulV (mulV (0, a) (0, b)) (mulV (0, c) (0, d)), mulV (0, a) (mulV (mulV (0, b) (0, c)) (0, d)), mulV (0, a) (mulV (0, b) (mulV (0, c) (0, d)))]
noncomputable def dueF (x y z w : Nat) : Nat := twT x y + twT (Nat.xor x y) z + twT (Nat.xor (Nat.xor x y) z) w
noncomputable def dueT (x y z w : Nat) : List Nat :=
  [dueF x y z w, dueF x y z w + tnT x y z, dueF x y z w + tnT (Nat.xor x y) z w, dueF x y z w + tnT x y z + tnT x (Nat.xor y z) w, dueF x y z w + tnT x y z + tnT x (Nat.xor y z) w + tnT y z w]
noncomputable def sameV : List PV → List Nat → Nat → Bool
  | [], [], _ => true
  | v :: vs, n :: ns, u => v.1 % 2 == n % 2 && v.2 == u && sameV vs ns u
  | _, _, _ => false
noncomputable def lawOk (a b c d : Nat) : Bool := sameV (five a b c d) (dueT (nuT a) (nuT b) (nuT c) (nuT d)) (poT (Nat.xor (Nat.xor (Nat.xor (nuT a) (nuT b)) (nuT c)) (nuT d)))
theorem law_t : ∀ a < 8, ∀ b < 8, ∀ c < 8, ∀ d < 8, lawOk a b c d = true := by decide +kernel
end
section
set_option maxHeartbeats 4000000 in
theorem con_pair (w : World) (news : List (Addr × Obj)) (x y : Str) (t1 t2 : Tok) (hx : x.length ≤ 1000) (hy : y.length ≤ 1000) : ConV false 0 w 1 238 [.str x t1, .str y t2] news (fun t => .str (pairS x y) t) := by
  w_top off
  k_with_none
  k_with "y_room" => first | ((try simp only [depth_under_make, depth_under_kw, depth_in1, depth_deeper, depth_caller]); (try dsimp only [yTop]); first | exact lim2 (by assumption) rfl | exact lim1 (by assumption) rfl | exact lim0 (by assumption)) | ((try simp only [depth_under_make, depth_under_kw, depth_in1, depth_deeper, depth_caller] at *); (try dsimp only [yTop] at *); omega)
  k_with "y_units" => first | ((try simp only [units_in1, units_deeper, Around.mark_units, units_caller]); (try dsimp only [yTop]); first | exact lim2 (by assumption) rfl | exact lim1 (by assumption) rfl) | (have hcL9 := cLine_is; ((try simp only [units_in1, units_deeper, Around.mark_units, units_caller] at *); (try dsimp only [yTop] at *); omega))
  k_with "y_k5" => ((case k1 => k_asm); (case k2 => k_asm); (case k3 => k_asm); (case k4 => k_asm); (case k5 => k_asm))
  k_with "y_eC" => ((case kA => exact rfl); (case kF => exact rfl); (case kK => assumption); k_extra "y_k5"; (case k6 => k_is); (case k7 => k_is); (case k8 => ktr_room); (case k9 => exact BindsTo.of_eq rfl); (case c2 => exact rfl); (case c3 => exact rfl); (case c4 => exact rfl))
  k_with "y_e1" => (k_extra "y_eC"; (case c5 => decide); (case kB => exact locs rfl); k_whole; intro g' L' h' FG' F' N' B' X' T'; (try dsimp only); (try k_lift B'); (try k_fold))
  unfold ConV
  intros
  rename_i hret
  rename_i hH hTk _ _
  obtain rfl := hH.resolve_left Bool.false_ne_true
  have hr := rep_len x hx
  refine wpAny_call ?_
  k_dflt (refine' code_def (binds := [(Str.ofString "first", .str x t1), (Str.ofString "second", .str y t2)]) ?k1 ?k2 ?k3 ?k4 ?k5 ?kA ?kF ?kK ?k6 ?k7 ?k8 ?k9 ?kB ?_ ?c2 ?c3 ?c4 ?c5; k_extra "y_e1")
  k_steps
  all_goals (refine cb_retS hret ?e1 ?e2 ?e3; (case e2 => k_asm); (case e3 => first | k_asm | (refine' y_drop ?N ?S; (case N => k_asm); (case S => kcj_all))); (case e1 => rfl))
end
section
theorem pair_le {x y : Str} {m n : Nat} (hx : x.length ≤ m) (hy : y.length ≤ n) : (pairS x y).length ≤ 7 + 2 * m + n := by
  rw [pair_len]
  have : x.cps.toList.count 34 ≤ x.cps.toList.length := List.count_le_length
  have e : x.cps.toList.length = x.length := by rw [Array.length_toList]; rfl
  omega
set_option maxHeartbeats 4000000 in
theorem con_five (w : World) (news : List (Addr × Obj)) (a b c d : Str) (t1 t2 t3 t4 : Tok) (ha : a.length ≤ 1) (hb : b.length ≤ 1) (hc : c.length ≤ 1) (hd : d.length ≤ 1) : Con false 0 w 2 245 [.str a t1, .str b t2, .str c t3, .str d t4] news (fun tl r => ∃ r0 u0 u1 u2 u3 u4 n, r = .ref r0 ∧ tl = [(r0, W.listOf #[.str (pairS (pairS (pairS a b) c) d) u0, .str (pairS (pairS a (pairS b c)) d) u1, .str (pairS (pairS a b) (pairS c d)) u2, .str (pairS a (pairS (pairS b c) d)) u3, .str (pairS a (pairS b (pairS c d))) u4] n)]) := by
  w_top off
  k_with_none
  k_with "y_room" => first | ((try simp only [depth_under_make, depth_under_kw, depth_in1, depth_deeper, depth_caller]); (try dsimp only [yTop]); first | exact lim2 (by assumption) rfl | exact lim1 (by assumption) rfl | exact lim0 (by assumption)) | ((try simp only [depth_under_make, depth_under_kw, depth_in1, depth_deeper, depth_caller] at *); (try dsimp only [yTop] at *); omega)
  k_with "y_units" => first | ((try simp only [units_in1, units_deeper, Around.mark_units, units_caller]); (try dsimp only [yTop]); first | exact lim2 (by assumption) rfl | exact lim1 (by assumption) rfl) | (have hcL9 := cLine_is; ((try simp only [units_in1, units_deeper, Around.mark_units, units_caller] at *); (try dsimp only [yTop] at *); omega))
  k_with "y_k5" => ((case k1 => k_asm); (case k2 => k_asm); (case k3 => k_asm); (case k4 => k_asm); (case k5 => k_asm))
  k_with "y_args" => (k_extra "y_k5"; (case kK => first | exact rfl | assumption); (case kH => first | exact Or.inl rfl | exact Or.inr rfl | assumption); (case kT => first | exact Nat.zero_le _ | (dsimp only at *; omega)); (case kd => ktr_room); (case ku => ktr_units))
  k_with "y_eC" => ((case kA => exact rfl); (case kF => exact rfl); (case kK => assumption); k_extra "y_k5"; (case k6 => k_is); (case k7 => k_is); (case k8 => ktr_room); (case k9 => exact BindsTo.of_eq rfl); (case c2 => exact rfl); (case c3 => exact rfl); (case c4 => exact rfl))
  k_with "y_e1" => (k_extra "y_eC"; (case c5 => decide); (case kB => exact locs rfl); k_whole; intro g' L' h' FG' F' N' B' X' T'; (try dsimp only); (try k_lift B'); (try k_fold))
  k_with "y_ord" => first | exact ord1 (by assumption) | exact ord1 (allLt_all (by assumption : _ ∧ AllLt _ _).2) | exact ord1 (allLt_all (by assumption : _ ∧ _ ∧ AllLt _ _).2.2) | exact ord1 (allLt_all (by assumption : _ ∧ _ ∧ _ ∧ AllLt _ _).2.2.2) | exact ord1 (allLt_all (by assumption : _ ∧ _ ∧ _ ∧ _ ∧ AllLt _ _).2.2.2.2) | exact ord1 (allLt_all (by assumption : _ ∧ _ ∧ _ ∧ _ ∧ _ ∧ AllLt _ _).2.2.2.2.2)
  k_with "call ref" => (k_here; k_dflt (refine' conV_use (con_pair _ _ _ _ _ _ (by first | exact le_lim (by assumption) rfl | omega) (by first | exact le_lim (by assumption) rfl | omega)) ?k1 ?k2 ?k3 ?k4 ?k5 ?kK ?kH ?kT ?kd ?ku ?_; k_extra "y_args"; intro t9 h9 tk9 T9 F9 N9; (try dsimp only); (try k_fold)))
  unfold Con
  intros
  rename_i hret
  rename_i hH hTk _ _
  obtain rfl := hH.resolve_left Bool.false_ne_true
  have ab := pair_le ha hb
  have bc := pair_le hb hc
  have cd := pair_le hc hd
  have abc := pair_le ab hc
  have abc2 := pair_le ha bc
  have bcd := pair_le bc hd
  have bcd2 := pair_le hb cd
  refine wpAny_call ?_
  k_dflt (refine' code_def (binds := [(Str.ofString "a", .str a t1), (Str.ofString "b", .str b t2), (Str.ofString "c", .str c t3), (Str.ofString "d", .str d t4)]) ?k1 ?k2 ?k3 ?k4 ?k5 ?kA ?kF ?kK ?k6 ?k7 ?k8 ?k9 ?kB ?_ ?c2 ?c3 ?c4 ?c5; k_extra "y_e1")
  k_steps
  all_goals (refine' hret _ _ _ _ ⟨_, _, _, _, _, _, _, rfl, rfl⟩ ?o ?f ?n; (case o => k_extra "y_ord"); (case f => k_asm); (case n => k_asm))
end
section
theorem conS_weaken {g : Bool} {T : Nat} {w : World} {D D' : Nat} {f : Addr} {vs : List Value} {news : List (Addr × Obj)} {Post : List (Addr × Obj) → Value → Prop} (C : ConS g T w D f vs news Post) (h : D ≤ D') : ConS g T w D' f vs news Post := by
  unfold ConS at C ⊢
  intro mean mg mb hd dp un gd cn cs a ccd cl outer A₀ base h₀ L m s Q E b1 b2 b3 b4 b5 b6 b7 b8 b9 b10 b11 b12 b13 ret
  exact C mean mg mb hd dp un gd cn cs a ccd cl outer A₀ base h₀ L m s Q E b1 b2 b3 b4 b5 b6 b7 b8 b9 b10 b11 (Nat.lt_of_le_of_lt (Nat.add_le_add_left h _) b12) (by omega) ret
theorem fst7_dec : ∀ u < 8, fst7 (decide (u = 0)) (decide (u = 1)) (decide (u = 2)) (decide (u = 3)) (decide (u = 4)) (decide (u = 5)) (decide (u = 6)) = ((u : Nat) : Int) := by decide
theorem unit_of {u k : Nat} (h : SignOk u k) (hu : u < 8) : unitOf k = (u : Int) := by
  unfold unitOf
  rw [h.2.2 0 (by omega), h.2.2 1 (by omega), h.2.2 2 (by omega), h.2.2 3 (by omega), h.2.2 4 (by omega), h.2.2 5 (by omega), h.2.2 6 (by omega)]
  exact fst7_dec u hu
theorem timesS_one (s1 u1 s2 u2 p : Int) : timesS s1 u1 s2 u2 p = timesS (s1 * s2) u1 1 u2 p := by
  unfold timesS
  simp only [Int.mul_one]
theorem sg_mod2 (m n : Nat) : sg (m % 2 + n) = sg (m + n) := sg_mod _ _ (by omega)
theorem mulV_S (v u : PV) (hv : v.2 < 8) (hu : u.2 < 8) {e : Nat} (he : e < 4) : timesS (sg v.1) v.2 (sg u.1) u.2 (3 + 6 * (e : Int)) = sg (mulV v u).1 := by
  rw [timesS_one, sg_add, ← sg_mod (((v.1 + u.1) % 2)) (v.1 + u.1) (by omega), timesS_t e he v.2 hv u.2 hu _ (Nat.mod_lt _ (by decide)), sg_mod2]
  rfl
theorem mulV_U (v u : PV) (hv : v.2 < 8) (hu : u.2 < 8) {f : Nat} (hf : f < 4) : timesU v.2 u.2 (4 + 6 * (f : Int)) = ((mulV v u).2 : Nat) := timesU_t f hf v.2 hv u.2 hu
section
variable {w : World} {pa : Addr} {e f : Nat} {a3 b3 : Tok} {n3 : Nat}
/-- what the value of a text is told as, wherever it is asked -/
noncomputable def CVal (w : World) (pa : Addr) (e f : Nat) (a3 b3 : Tok) (n3 : Nat) (D : Nat) (x : Str) (v : PV) : Prop :=
  ∀ nw t, (pa, W.listOf #[.int (3 + 6 * (e : Int)) a3, .int (4 + 6 * (f : Int)) b3] n3) ∈ nw → ConS false 0 w D 273 [.str x t, .ref pa] nw (ValPost (sg v.1) v.2)
theorem cval_weaken {D D' : Nat} {x : Str} {v : PV} (C : CVal w pa e f a3 b3 n3 D x v) (h : D ≤ D') : CVal w pa e f a3 b3 n3 D' x v := fun nw t hm => conS_weaken (C nw t hm) h
theorem cval_leaf {u k : Nat} (h : SignOk u k) (hu : u < 8) : CVal w pa e f a3 b3 n3 7 ⟨#[k]⟩ (0, u) := fun nw t hm => by
  have C := con_valueL w nw k t pa h.2.1
  rw [unit_of h hu] at C
  exact C
theorem cval_node {D : Nat} {x y : Str} {v u : PV} (hD : 7 ≤ D) (he : e < 4) (hf : f < 4) (hx : x.length ≤ 1000) (hy : y.length ≤ 1000) (hxy : (pairS x y).length ≤ 1000) (hv : v.2 < 8) (hu : u.2 < 8) (A : CVal w pa e f a3 b3 n3 D x v) (B : CVal w pa e f a3 b3 n3 D y u) : CVal w pa e f a3 b3 n3 (D + 1) (pairS x y) (mulV v u) := fun nw t hm => by
  have C := con_valueN w nw x y t pa (3 + 6 * (e : Int)) (4 + 6 * (f : Int)) (sg v.1) v.2 (sg u.1) u.2 a3 b3 n3 D hx hy hxy hD (sg_pm _) (sg_pm _) (by omega) (by omega) (by omega) (by omega) hm (fun nw t hm => A nw t hm) (fun nw t hm => B nw t hm)
  rw [mulV_S v u hv hu he, mulV_U v u hv hu hf] at C
  exact C
theorem mulV_lt (v u : PV) : (mulV v u).2 < 8 := muT_lt _ _
/-- the five texts -/
noncomputable def texts (a b c d : Str) : List Str := [pairS (pairS (pairS a b) c) d, pairS (pairS a (pairS b c)) d, pairS (pairS a b) (pairS c d), pairS a (pairS (pairS b c) d), pairS a (pairS b (pairS c d))]
theorem cval_five (he : e < 4) (hf : f < 4) {k0 k1 k2 k3 u0 u1 u2 u3 : Nat} (h0 : SignOk u0 k0) (h1 : SignOk u1 k1) (h2 : SignOk u2 k2) (h3 : SignOk u3 k3) (l0 : u0 < 8) (l1 : u1 < 8) (l2 : u2 < 8) (l3 : u3 < 8) {i : Nat} {x : Str} (hi : (texts ⟨#[k0]⟩ ⟨#[k1]⟩ ⟨#[k2]⟩ ⟨#[k3]⟩)[i]? = some x) : ∃ v, (five u0 u1 u2 u3)[i]? = some v ∧ CVal w pa e f a3 b3 n3 10 x v := by
  have one : ∀ k : Nat, (⟨#[k]⟩ : Str).length ≤ 1 := fun k => Nat.le_refl 1
  have A := cval_leaf (w := w) (pa := pa) (e := e) (f := f) (a3 := a3) (b3 := b3) (n3 := n3) h0 l0
  have B := cval_leaf (w := w) (pa := pa) (e := e) (f := f) (a3 := a3) (b3 := b3) (n3 := n3) h1 l1
  have C := cval_leaf (w := w) (pa := pa) (e := e) (f := f) (a3 := a3) (b3 := b3) (n3 := n3) h2 l2
  have D := cval_leaf (w := w) (pa := pa) (e := e) (f := f) (a3 := a3) (b3 := b3) (n3 := n3) h3 l3
  have qa := one k0
  have qb := one k1
  have qc := one k2
  have qd := one k3
  generalize (⟨#[k0]⟩ : Str) = a at *
  generalize (⟨#[k1]⟩ : Str) = b at *
  generalize (⟨#[k2]⟩ : Str) = c at *
  generalize (⟨#[k3]⟩ : Str) = d at *
  have qab := pair_le qa qb
  have qbc := pair_le qb qc
  have qcd := pair_le qc qd
  have AB := cval_node (Nat.le_of_ble_eq_true (n := 7) rfl) he hf (le_lim qa rfl) (le_lim qb rfl) (le_lim qab rfl) l0 l1 A B
  have BC := cval_node (Nat.le_of_ble_eq_true (n := 7) rfl) he hf (le_lim qb rfl) (le_lim qc rfl) (le_lim qbc rfl) l1 l2 B C
  have CD := cval_node (Nat.le_of_ble_eq_true (n := 7) rfl) he hf (le_lim qc rfl) (le_lim qd rfl) (le_lim qcd rfl) l2 l3 C D
  have A8 := cval_weaken A (Nat.le_succ 7)
  have B8 := cval_weaken B (Nat.le_succ 7)
  have C8 := cval_weaken C (Nat.le_succ 7)
  have D8 := cval_weaken D (Nat.le_succ 7)
  have qab_c := pair_le qab qc
  have qa_bc := pair_le qa qbc
  have qbc_d := pair_le qbc qd
  have qb_cd := pair_le qb qcd
  have AB_C := cval_node (Nat.le_of_ble_eq_true (n := 7) rfl) he hf (le_lim qab rfl) (le_lim qc rfl) (le_lim qab_c rfl) (mulV_lt _ _) l2 AB C8
  have A_BC := cval_node (Nat.le_of_ble_eq_true (n := 7) rfl) he hf (le_lim qa rfl) (le_lim qbc rfl) (le_lim qa_bc rfl) l0 (mulV_lt _ _) A8 BC
  have BC_D := cval_node (Nat.le_of_ble_eq_true (n := 7) rfl) he hf (le_lim qbc rfl) (le_lim qd rfl) (le_lim qbc_d rfl) (mulV_lt _ _) l3 BC D8
  have B_CD := cval_node (Nat.le_of_ble_eq_true (n := 7) rfl) he hf (le_lim qb rfl) (le_lim qcd rfl) (le_lim qb_cd rfl) l1 (mulV_lt _ _) B8 CD
  have AB_CD := cval_node (Nat.le_of_ble_eq_true (n := 7) rfl) he hf (le_lim qab rfl) (le_lim qcd rfl) (le_lim (pair_le qab qcd) rfl) (mulV_lt _ _) (mulV_lt _ _) AB CD
  have A9 := cval_weaken A8 (Nat.le_succ 8)
  have D9 := cval_weaken D8 (Nat.le_succ 8)
  rcases i with _ | _ | _ | _ | _ | i
  · cases hi
    exact ⟨_, rfl, cval_node (Nat.le_of_ble_eq_true (n := 7) rfl) he hf (le_lim qab_c rfl) (le_lim qd rfl) (le_lim (pair_le qab_c qd) rfl) (mulV_lt _ _) l3 AB_C D9⟩
  · cases hi
    exact ⟨_, rfl, cval_node (Nat.le_of_ble_eq_true (n := 7) rfl) he hf (le_lim qa_bc rfl) (le_lim qd rfl) (le_lim (pair_le qa_bc qd) rfl) (mulV_lt _ _) l3 A_BC D9⟩
  · cases hi
    exact ⟨_, rfl, cval_weaken AB_CD (Nat.le_succ 9)⟩
  · cases hi
    exact ⟨_, rfl, cval_node (Nat.le_of_ble_eq_true (n := 7) rfl) he hf (le_lim qa rfl) (le_lim qbc_d rfl) (le_lim (pair_le qa qbc_d) rfl) l0 (mulV_lt _ _) A9 BC_D⟩
  · cases hi
    exact ⟨_, rfl, cval_node (Nat.le_of_ble_eq_true (n := 7) rfl) he hf (le_lim qa rfl) (le_lim qb_cd rfl) (le_lim (pair_le qa qb_cd) rfl) l0 (mulV_lt _ _) A9 B_CD⟩
  · simp [texts] at hi
end
end
section
noncomputable def ValR (vs : List PV) (ex : List (Addr × Obj)) (i : Nat) (y : Value) : Prop := ∃ v a ta tb n, vs[i]? = some v ∧ y = .ref a ∧ (a, W.listOf #[.int (sg v.1) ta, .int (v.2 : Nat) tb] n) ∈ ex
/-- the same behind the values -/
noncomputable def LawV (k : Nat) : Prop := ∀ (w : World) (mean : ExcName → Option Value) (mg mb : Str → Option Value) (dp un : Nat) (gd : Option (List Code)) (L fa : Addr) (cdv : Value) (A₀ : Around) (h₀ : Heap) (sa : Addr) (c0 c1 c2 c3 : Int) (k0 k1 k2 k3 : Nat) (ca ta ua da r0 r1 r2 r3 : Addr) (a0 a1 a2 a3 b0 b1 b2 b3 e0 e1 e2 e3 : Tok) (n1 n2 n3 n4 : Nat) (o1 o2 o3 o4 : Obj) (tw : Addr) (tvs : List Value) (nt : Nat) (ok : Option Value) (va : Addr) (vq : List Value) (nv : Nat) (xs : List (Addr × Obj)) (s : Shared) (Q : Flow → Shared → Prop) (E : Value → Shared → Prop),
  Below A₀ h₀ [] h₀ → Fr h₀ L s.heap (fun z => if z = Str.ofString "values" then some (.ref va) else (fun y => if y = Str.ofString "k" then ok else (fun x => if x = Str.ofString "tower" then some (.ref tw) else (fun z => if z = Str.ofString "typed" then some (.ref ta) else (fun y => if y = Str.ofString "script" then some (.ref sa) else none) z) x) y) z) → (K w.params).In h₀ → News h₀ L s.heap ((va, W.listOf vq.toArray nv) :: (tw, W.listOf tvs.toArray nt) :: ((da, W.listOf #[.ref r0, .ref r1, .ref r2, .ref r3] n4) :: (r0, rowO k0) :: (r1, rowO k1) :: (r2, rowO k2) :: (r3, rowO k3) :: (ua, W.listOf #[.int (c0.fmod 8) e0, .int (c1.fmod 8) e1, .int (c2.fmod 8) e2, .int (c3.fmod 8) e3] n3) :: (ta, W.listOf #[.str ⟨#[k0]⟩ b0, .str ⟨#[k1]⟩ b1, .str ⟨#[k2]⟩ b2, .str ⟨#[k3]⟩ b3] n2) :: (ca, W.listOf #[.int c0 a0, .int c1 a1, .int c2 a2, .int c3 a3] n1) :: (L + 1 + 1 + 1 + 1, o4) :: (L + 1 + 1 + 1, o3) :: (L + 1 + 1, o2) :: (L + 1, o1) :: xs)) → o3.data = .cell (some (.ref da)) → o2.data = .cell (some (.ref ua)) → o1.data = .cell (some (.ref ca)) → SignOk (c0.fmod 8).toNat k0 → SignOk (c1.fmod 8).toNat k1 → SignOk (c2.fmod 8).toNat k2 → SignOk (c3.fmod 8).toNat k3 →  IntsAre tvs (towerZ (c3.fmod 19 - 9) 23) → vq.length = 5 → (∀ (i : Nat) v, vq[i]? = some v → ValR (five (c0.fmod 8).toNat (c1.fmod 8).toNat (c2.fmod 8).toNat (c3.fmod 8).toNat) xs i v) → Top qv loose mean mg mb h₀ → dp + 20 < recursionLimit → un + 200 < cLine →
  (∀ (h' : Heap) (tk' : Nat) (m' : Str → Option Value), Fr h₀ L h' m' → Q (.ret (.bool true)) { s with heap := h', toks := tk' }) →
  wpAny (model pw w) (yTop none dp un gd (Str.ofString "law") (fnScope (stAt 45)) L fa cdv (cellsFrom (L + 1) (fnScope (stAt 45)).names []) []) (execs ((fnBody (stAt 45)).drop k) (envOfC (Str.ofString "law") (fnScope (stAt 45)) L fa cdv)) Q E s
end
section
theorem text_at {x0 x1 x2 x3 x4 : Str} {t0 t1 t2 t3 t4 : Tok} {i : Nat} {v : Value} (h : (#[.str x0 t0, .str x1 t1, .str x2 t2, .str x3 t3, .str x4 t4] : Array Value)[i]? = some v) : ∃ x t, ([x0, x1, x2, x3, x4] : List Str)[i]? = some x ∧ v = .str x t := by
  rcases i with _ | _ | _ | _ | _ | i
  · cases h; exact ⟨_, _, rfl, rfl⟩
  · cases h; exact ⟨_, _, rfl, rfl⟩
  · cases h; exact ⟨_, _, rfl, rfl⟩
  · cases h; exact ⟨_, _, rfl, rfl⟩
  · cases h; exact ⟨_, _, rfl, rfl⟩
  · simp at h
theorem news_tok {h₀ h : Heap} {L pa : Addr} {a b : Int} {t1 t2 : Tok} {n : Nat} {rest : List (Addr × Obj)} (N : News h₀ L h ((pa, W.listOf #[.int a t1, .int b t2] n) :: rest)) : ∃ z1 z2, News h₀ L h ((pa, W.listOf #[.int a z1, .int b z2] n) :: rest) := ⟨t1, t2, N⟩
theorem news_mid5 {h₀ h : Heap} {L : Addr} {x a b : Addr × Obj} {ex mid nw : List (Addr × Obj)} (N : News h₀ L h (x :: nw)) (e : nw = ex ++ (a :: b :: mid)) : News h₀ L h (x :: (mid ++ ex)) := fun p hp => N p (by
  subst e
  simp only [List.mem_cons, List.mem_append] at hp ⊢
  rcases hp with h | h | h
  · exact .inl h
  · exact .inr (.inr (.inr (.inr h)))
  · exact .inr (.inl h))
theorem u8 (c : Int) : (c.fmod 8).toNat < 8 := by
  have := fmod8 c
  omega
theorem fmod4 (c : Int) : 0 ≤ c.fmod 4 ∧ c.fmod 4 < 4 := by
  rw [Int.fmod_eq_emod_of_nonneg _ (by decide)]
  exact ⟨Int.emod_nonneg _ (by decide), Int.emod_lt_of_pos _ (by decide)⟩
set_option maxHeartbeats 4000000 in
theorem stage_f (SC : LawV 11) : LawT 9 := by
  w_top off
  k_with_none
  k_with "y_room" => first | ((try simp only [depth_under_make, depth_under_kw, depth_in1, depth_deeper, depth_caller]); (try dsimp only [yTop]); first | exact lim2 (by assumption) rfl | exact lim1 (by assumption) rfl | exact lim0 (by assumption)) | ((try simp only [depth_under_make, depth_under_kw, depth_in1, depth_deeper, depth_caller] at *); (try dsimp only [yTop] at *); omega)
  k_with "y_units" => first | ((try simp only [units_in1, units_deeper, Around.mark_units, units_caller]); (try dsimp only [yTop]); first | exact lim2 (by assumption) rfl | exact lim1 (by assumption) rfl) | (have hcL9 := cLine_is; ((try simp only [units_in1, units_deeper, Around.mark_units, units_caller] at *); (try dsimp only [yTop] at *); omega))
  k_with "y_k5" => ((case k1 => k_asm); (case k2 => k_asm); (case k3 => k_asm); (case k4 => k_asm); (case k5 => k_asm))
  k_with "y_args" => (k_extra "y_k5"; (case kK => first | exact rfl | assumption); (case kH => first | exact Or.inl rfl | exact Or.inr rfl | assumption); (case kT => first | exact Nat.zero_le _ | (dsimp only at *; omega)); (case kd => ktr_room); (case ku => ktr_units))
  k_with "execs cons" => (k_here; (with_reducible show wpAny _ _ (execs (PySem.Stmt.If _ _ _ _ :: _) _) _ _ _); refine stop_ ?_)
  k_with "exec Assign cons ListComp" => (k_here; refine stop_ ?_)
  k_with "call ref" => (k_here; refine stop_ ?_)
  k_with "subscriptTail Name Constant ref int" => (k_here; k_dflt (refine' item_mem ?iNv3 ?iMv3 ?i0v3 ?i1v3 ?i2v3 ?_ ?i3v3; (case iNv3 => k_asm); (case iMv3 => k_mem); (case i0v3 => decide); (case i1v3 => decide); (case i2v3 => rfl); (case i3v3 => with_unfolding_all rfl); (try dsimp only); (try k_fold)))
  intro w mean mg mb dp un gd L fa cdv A₀ h₀ sa c0 c1 c2 c3 k0 k1 k2 k3 ca ta ua da r0 r1 r2 r3 a0 a1 a2 a3 b0 b1 b2 b3 e0 e1 e2 e3 n1 n2 n3 n4 o1 o2 o3 o4 tw tvs nt ok s Q E B F X N d4 d3 d2 d1 g0 g1 g2 g3 lda lr0 lr1 lr2 lr3 lua lta lca hI9 ltw Tp hdp hun hret
  have l1 := (fmod8 c0)
  simp only [AllLt, and_true] at lda lr0 lr1 lr2 lr3 lua lta lca ltw
  k_steps
  unfold Stop
  rename_i pa _ lpa _ o4' _ N1 d4'
  obtain ⟨e, he, ee⟩ : ∃ e : Nat, e < 4 ∧ (c0.fdiv 8).fmod 4 = (e : Int) := ⟨_, by have := fmod4 (c0.fdiv 8); omega, (Int.toNat_of_nonneg (fmod4 _).1).symm⟩
  obtain ⟨f, hf, ff⟩ : ∃ f : Nat, f < 4 ∧ (c1.fdiv 8).fmod 4 = (f : Int) := ⟨_, by have := fmod4 (c1.fdiv 8); omega, (Int.toNat_of_nonneg (fmod4 _).1).symm⟩
  rw [ee, ff] at N1
  obtain ⟨z1, z2, N2⟩ := news_tok N1
  clear N1
  rename Fr _ _ _ _ => lF'
  refine' listcomp1A lF' ?c1 ?c2 ?c3 ?c4 ?c5 ?c6 ?c7 ?c8 ?c9 ?_ ?c10
  case c1 => exact rfl
  case c2 => with_unfolding_all rfl
  case c3 => with_unfolding_all rfl
  case c4 => decide
  case c5 => exact rfl
  case c6 => decide
  case c7 => exact rfl
  case c8 => exact rfl
  case c9 => exact rfl
  case c10 => intro z; rfl
  k_steps
  unfold Stop
  have one : ∀ k : Nat, (⟨#[k]⟩ : Str).length ≤ 1 := fun k => Nat.le_refl 1
  k_dflt (refine' con_use (con_five w _ ⟨#[k0]⟩ ⟨#[k1]⟩ ⟨#[k2]⟩ ⟨#[k3]⟩ _ _ _ _ (one _) (one _) (one _) (one _)) ?k1 ?k2 ?k3 ?k4 ?k5 ?kK ?kH ?kT ?kd ?ku ?_)
  k_extra "y_args"
  intro r9 tl9 h9 tk9 T9 P9 l9 F9 N9
  obtain ⟨fa9, t0, t1, t2, t3, t4, n9, rfl, rfl⟩ := P9
  simp only [List.cons_append, List.nil_append] at N9
  try dsimp only
  k_dflt (refine' Comp1.grow (fun i ex v => ValR (five (c0.fmod 8).toNat (c1.fmod 8).toNat (c2.fmod 8).toNat (c3.fmod 8).toNat) ex i v) ?zm ?zh F9 N9 ?zl ?zn ?tu ?dn)
  case zm =>
    rintro i ex ex' v hs ⟨v, a, ta, tb, n, h1, h2, h3⟩
    exact ⟨v, a, ta, tb, n, h1, h2, hs _ h3⟩
  case zh => exact rfl
  case zl => exact .list (List.mem_cons_self ..)
  case zn => exact (by decide : 5 ≤ sizeLine)
  case tu =>
    rintro I C D i v oI oC mC ys ex nw h tk E' hID hDC hi hP hl9 hX hsub oc hx F N ap hS hR2
    obtain ⟨x, tx, hx5, rfl⟩ := text_at hP
    obtain ⟨v, hv5, hcv⟩ := cval_five (w := w) (pa := pa) (a3 := z1) (b3 := z2) (n3 := 0) he hf g0 g1 g2 g3 (u8 c0) (u8 c1) (u8 c2) (u8 c3) hx5
    have N4 := news_in (front := [_, _, _]) (xs := [(L + 1 + 1 + 1 + 1, o4'), (pa, W.listOf #[.int (3 + 6 * (e : Int)) z1, .int (4 + 6 * (f : Int)) z2] 0)]) N
      (List.forall_mem_cons.mpr ⟨hsub _ (by k_mem), List.forall_mem_cons.mpr ⟨hsub _ (by k_mem), List.forall_mem_nil _⟩⟩)
    simp only [List.cons_append, List.nil_append] at N4
    clear F9 N9 N N2 hsub SC hret
    dsimp only at *
    k_steps
    unfold Stop
    k_dflt (refine' conS_top (hcv _ _ ?m8) ?k1 ?k2 ?k3 ?k4 ?k5 ?XB ?TB ?kK ?kH ?kT ?kd ?ku ?_)
    k_extra "y_args"
    case XB => assumption
    case TB => assumption
    case m8 => k_mem
    intro r9 tl9 h9 tk9 T9 P9 l9 F9 N9
    obtain ⟨xa, ta9, tb9, n9, rfl, rfl⟩ := P9
    replace l9 := l9 _ (List.mem_cons_self ..)
    exact cend_calls (tl := [_]) F9 (news_out (front := [_, _, _, _]) (xs := [_, _]) N9) (fun p hp q hq => by
      rw [List.mem_singleton.mp hp]
      refine l9 q ?_
      simp only [List.mem_cons] at hq ⊢
      rcases hq with h | h | h | h
      · exact .inl h
      · exact .inr (.inl h)
      · exact .inr (.inr (.inl h))
      · exact .inr (.inr (.inr (.inr (.inr h))))) oc ap (List.mem_cons_of_mem _ hS) ⟨rfl, [_], rfl, (fun p hp => by
        rw [List.mem_singleton.mp hp]
        exact l9 _ (List.mem_cons_self ..)), v, xa, ta9, tb9, n9, hv5, rfl, List.mem_cons_self ..⟩
  case dn =>
    intro va ys ex nw h tk hl9 hR hlt hva off hX hsub F N
    rw [lst_eqA] at N
    have N8 := news_mid5 (mid := ((tw, W.listOf tvs.toArray nt) :: [(da, W.listOf #[.ref r0, .ref r1, .ref r2, .ref r3] n4), (r0, rowO k0), (r1, rowO k1), (r2, rowO k2), (r3, rowO k3), (ua, W.listOf #[.int (c0.fmod 8) e0, .int (c1.fmod 8) e1, .int (c2.fmod 8) e2, .int (c3.fmod 8) e3] n3), (ta, W.listOf #[.str ⟨#[k0]⟩ b0, .str ⟨#[k1]⟩ b1, .str ⟨#[k2]⟩ b2, .str ⟨#[k3]⟩ b3] n2), (ca, W.listOf #[.int c0 a0, .int c1 a1, .int c2 a2, .int c3 a3] n1), (L + 1 + 1 + 1 + 1, o4'), (L + 1 + 1 + 1, o3), (L + 1 + 1, o2), (L + 1, o1)])) N hX
    exact SC w mean mg mb dp un gd L fa cdv A₀ h₀ sa c0 c1 c2 c3 k0 k1 k2 k3 ca ta ua da r0 r1 r2 r3 a0 a1 a2 a3 b0 b1 b2 b3 e0 e1 e2 e3 n1 n2 n3 n4 o1 o2 o3 o4' tw tvs nt ok va ys _ ex _ Q E B F X N8 d3 d2 d1 g0 g1 g2 g3 hI9 hl9 hR Tp hdp hun hret
end
section
theorem ints_fn {f : Nat → Int} : ∀ {vs : List Value} (n : Nat), vs.length = n → (∀ (i : Nat) v, vs[i]? = some v → ∃ t, v = .int (f i) t) → IntsAre vs ((List.range n).map f)
  | vs, n, hl, h => by
    subst hl
    have key : ∀ (vs : List Value) (g : Nat → Int), (∀ (i : Nat) v, vs[i]? = some v → ∃ t, v = .int (g i) t) → IntsAre vs ((List.range vs.length).map g) := by
      intro vs
      induction vs with
      | nil => intro g _; exact .nil
      | cons a r ih =>
        intro g hg
        obtain ⟨t, rfl⟩ := hg 0 a rfl
        rw [List.length_cons, List.range_succ_eq_map, List.map_cons, List.map_map]
        exact .cons _ _ (ih (g ∘ Nat.succ) fun i v e => hg (i + 1) v e)
    exact key vs f h
set_option maxHeartbeats 4000000 in
theorem stage_g (SC : LawV 12) : LawV 11 := by
  w_top off
  k_with_none
  k_with "y_room" => first | ((try simp only [depth_under_make, depth_under_kw, depth_in1, depth_deeper, depth_caller]); (try dsimp only [yTop]); first | exact lim2 (by assumption) rfl | exact lim1 (by assumption) rfl | exact lim0 (by assumption)) | ((try simp only [depth_under_make, depth_under_kw, depth_in1, depth_deeper, depth_caller] at *); (try dsimp only [yTop] at *); omega)
  k_with "y_units" => first | ((try simp only [units_in1, units_deeper, Around.mark_units, units_caller]); (try dsimp only [yTop]); first | exact lim2 (by assumption) rfl | exact lim1 (by assumption) rfl) | (have hcL9 := cLine_is; ((try simp only [units_in1, units_deeper, Around.mark_units, units_caller] at *); (try dsimp only [yTop] at *); omega))
  k_with "y_k5" => ((case k1 => k_asm); (case k2 => k_asm); (case k3 => k_asm); (case k4 => k_asm); (case k5 => k_asm))
  k_with "y_args" => (k_extra "y_k5"; (case kK => first | exact rfl | assumption); (case kH => first | exact Or.inl rfl | exact Or.inr rfl | assumption); (case kT => first | exact Nat.zero_le _ | (dsimp only at *; omega)); (case kd => ktr_room); (case ku => ktr_units))
  k_with "execs cons" => (k_here; (with_reducible show wpAny _ _ (execs (PySem.Stmt.If _ _ _ _ :: _) _) _ _ _); refine stop_ ?_)
  k_with "execs cons" => (k_here; (with_reducible show wpAny _ _ (execs (PySem.Stmt.Assign _ _ _ :: _) _) _ _ _); refine stop_ ?_)
  k_with "eval ListComp" => (k_here; refine stop_ ?_)
  k_with "compareOp NotEq ref ref" => (k_here; refine stop_ ?_)
  k_with "call ref" => (k_here; k_dflt (refine' conV_use (con_ipow _ _ _ _ _ _ ?p8v4 ?p9v4) ?k1 ?k2 ?k3 ?k4 ?k5 ?kK ?kH ?kT ?kd ?ku ?_; k_extra "y_args"; (case p8v4 => assumption); (case p9v4 => assumption); intro t9 h9 tk9 T9 F9 N9; (try dsimp only); (try k_fold)))
  k_with "subscriptTail Name Constant ref int" => (k_here; k_dflt (refine' item_mem ?iNv5 ?iMv5 ?i0v5 ?i1v5 ?i2v5 ?_ ?i3v5; (case iNv5 => k_asm); (case iMv5 => k_mem); (case i0v5 => decide); (case i1v5 => decide); (case i2v5 => rfl); (case i3v5 => with_unfolding_all rfl); (try dsimp only); (try k_fold)))
  intro w mean mg mb dp un gd L fa cdv A₀ h₀ sa c0 c1 c2 c3 k0 k1 k2 k3 ca ta ua da r0 r1 r2 r3 a0 a1 a2 a3 b0 b1 b2 b3 e0 e1 e2 e3 n1 n2 n3 n4 o1 o2 o3 o4 tw tvs nt ok va vq nv xs s Q E B F X N d3 d2 d1 g0 g1 g2 g3 hI9 hv5 hvv Tp hdp hun hret
  have f9 := fmod19 c3
  have pa9 : (c3.fmod 19 - 9).natAbs ≤ 9 := by omega
  k_steps
  unfold Stop
  rename Fr _ _ _ _ => lF'
  refine' listcomp1 lF' ?c1 ?c2 ?c3 ?c4 ?c5 ?_ ?c6
  case c1 => with_unfolding_all rfl
  case c2 => decide
  case c3 => exact rfl
  case c4 => decide
  case c5 => exact rfl
  case c6 => intro z; rfl
  k_steps
  rename News _ _ _ _ => lN'
  rename Fr _ _ _ _ => lF8
  k_dflt (refine' Comp1.grow (fun i ex v => ∃ t, v = Value.int ((c3.fmod 19 - 9) ^ i) t) ?zm ?zh lF8 lN' ?zl ?zn ?tu ?dn)
  case zm => exact fun i ex ex' v hs h => h
  case zh => exact rfl
  case zl => exact .range (n := 23) (by assumption) (by decide) (by decide)
  case zn => exact (by decide : 23 ≤ sizeLine)
  case tu =>
    rintro I C D i v oI oC mC ys ex nw h tk E' hID hDC hi hP hl9 hX hsub oc hx F N ap hS hR2
    obtain ⟨tz, rfl⟩ := hP
    rw [Int.zero_add] at hx
    have pb9 : 0 ≤ (i : Int) ∧ (i : Int) ≤ 22 := by omega
    have N4 := news_in (front := [_, _, _]) (xs := [(L + 1, o1), (ca, W.listOf #[.int c0 a0, .int c1 a1, .int c2 a2, .int c3 a3] n1)]) N
      (List.forall_mem_cons.mpr ⟨hsub _ (by k_mem), List.forall_mem_cons.mpr ⟨hsub _ (by k_mem), List.forall_mem_nil _⟩⟩)
    simp only [List.cons_append, List.nil_append] at N4
    clear lF8 lN' N hsub SC hret
    dsimp only at *
    k_steps
    rename News _ _ _ _ => lN9
    rename Fr _ _ _ _ => lF9
    rw [Int.toNat_natCast]
    exact cend_same lF9 (news_out (front := [_, _, _]) (xs := [_, _]) lN9) oc ap hS ⟨rfl, [], rfl, (fun p hp => nomatch hp), _, rfl⟩
  case dn =>
    intro D ys ex nw h tk hl9 hR hlt hD off hX hsub F N
    rw [lst_eqA] at N
    have hys : IntsAre ys (towerZ (c3.fmod 19 - 9) 23) := ints_fn 23 hl9 hR
    have N2 : News _ _ _ ((D, W.listOf ys.toArray ys.length) :: ((va, W.listOf vq.toArray nv) :: (tw, W.listOf tvs.toArray nt) :: ((da, W.listOf #[.ref r0, .ref r1, .ref r2, .ref r3] n4) :: (r0, rowO k0) :: (r1, rowO k1) :: (r2, rowO k2) :: (r3, rowO k3) :: (ua, W.listOf #[.int (c0.fmod 8) e0, .int (c1.fmod 8) e1, .int (c2.fmod 8) e2, .int (c3.fmod 8) e3] n3) :: (ta, W.listOf #[.str ⟨#[k0]⟩ b0, .str ⟨#[k1]⟩ b1, .str ⟨#[k2]⟩ b2, .str ⟨#[k3]⟩ b3] n2) :: (ca, W.listOf #[.int c0 a0, .int c1 a1, .int c2 a2, .int c3 a3] n1) :: (L + 1 + 1 + 1 + 1, o4) :: (L + 1 + 1 + 1, o3) :: (L + 1 + 1, o2) :: (L + 1, o1) :: xs))) := fun p hp => N p (by
      rcases List.mem_cons.mp hp with rfl | hp
      · exact List.mem_cons_self ..
      · exact List.mem_cons_of_mem _ (hsub _ hp))
    clear lF8 lN' N hsub hR hlt off hX hD
    dsimp only at *
    k_steps
    unfold Stop
    rename News _ _ _ _ => lN9
    rename Fr _ _ _ _ => lF9
    refine ke_ne_ints (News.isList lN9 (List.mem_cons_self ..)) (News.isList lN9 (by k_mem)) hys hI9 (by ktr_units) ?_
    rw [decide_eq_true rfl]
    try dsimp only [Bool.not_true]
    have N9 : News _ _ _ ((va, W.listOf vq.toArray nv) :: (tw, W.listOf tvs.toArray nt) :: ((da, W.listOf #[.ref r0, .ref r1, .ref r2, .ref r3] n4) :: (r0, rowO k0) :: (r1, rowO k1) :: (r2, rowO k2) :: (r3, rowO k3) :: (ua, W.listOf #[.int (c0.fmod 8) e0, .int (c1.fmod 8) e1, .int (c2.fmod 8) e2, .int (c3.fmod 8) e3] n3) :: (ta, W.listOf #[.str ⟨#[k0]⟩ b0, .str ⟨#[k1]⟩ b1, .str ⟨#[k2]⟩ b2, .str ⟨#[k3]⟩ b3] n2) :: (ca, W.listOf #[.int c0 a0, .int c1 a1, .int c2 a2, .int c3 a3] n1) :: (L + 1 + 1 + 1 + 1, o4) :: (L + 1 + 1 + 1, o3) :: (L + 1 + 1, o2) :: (L + 1, o1) :: xs)) := fun p hp => lN9 p (List.mem_cons_of_mem _ hp)
    clear lN9
    k_steps
    unfold Stop
    exact SC w mean mg mb dp un gd L fa cdv A₀ h₀ sa c0 c1 c2 c3 k0 k1 k2 k3 ca ta ua da r0 r1 r2 r3 a0 a1 a2 a3 b0 b1 b2 b3 e0 e1 e2 e3 n1 n2 n3 n4 o1 o2 o3 o4 tw tvs nt ok va vq nv xs _ Q E B lF9 X N9 d3 d2 d1 g0 g1 g2 g3 hI9 hv5 hvv Tp hdp hun hret
end
section
/-- the same behind the four numbers -/
noncomputable def LawX (k : Nat) : Prop := ∀ (w : World) (mean : ExcName → Option Value) (mg mb : Str → Option Value) (dp un : Nat) (gd : Option (List Code)) (L fa : Addr) (cdv : Value) (A₀ : Around) (h₀ : Heap) (sa : Addr) (c0 c1 c2 c3 : Int) (k0 k1 k2 k3 : Nat) (ca ta ua da r0 r1 r2 r3 : Addr) (a0 a1 a2 a3 b0 b1 b2 b3 e0 e1 e2 e3 : Tok) (n1 n2 n3 n4 : Nat) (o1 o2 o3 o4 : Obj) (tw : Addr) (tvs : List Value) (nt : Nat) (ok : Option Value) (va : Addr) (vq : List Value) (nv : Nat) (xs : List (Addr × Obj)) (t0 t1 t2 t3 : Tok) (s : Shared) (Q : Flow → Shared → Prop) (E : Value → Shared → Prop),
  Below A₀ h₀ [] h₀ → Fr h₀ L s.heap (fun y => if y = Str.ofString "w" then some (.int (nuT (c3.fmod 8).toNat : Nat) t3) else (fun y => if y = Str.ofString "z" then some (.int (nuT (c2.fmod 8).toNat : Nat) t2) else (fun y => if y = Str.ofString "y" then some (.int (nuT (c1.fmod 8).toNat : Nat) t1) else (fun y => if y = Str.ofString "x" then some (.int (nuT (c0.fmod 8).toNat : Nat) t0) else (fun z => if z = Str.ofString "values" then some (.ref va) else (fun y => if y = Str.ofString "k" then ok else (fun x => if x = Str.ofString "tower" then some (.ref tw) else (fun z => if z = Str.ofString "typed" then some (.ref ta) else (fun y => if y = Str.ofString "script" then some (.ref sa) else none) z) x) y) z) y) y) y) y) → (K w.params).In h₀ → News h₀ L s.heap ((va, W.listOf vq.toArray nv) :: (tw, W.listOf tvs.toArray nt) :: ((da, W.listOf #[.ref r0, .ref r1, .ref r2, .ref r3] n4) :: (r0, rowO k0) :: (r1, rowO k1) :: (r2, rowO k2) :: (r3, rowO k3) :: (ua, W.listOf #[.int (c0.fmod 8) e0, .int (c1.fmod 8) e1, .int (c2.fmod 8) e2, .int (c3.fmod 8) e3] n3) :: (ta, W.listOf #[.str ⟨#[k0]⟩ b0, .str ⟨#[k1]⟩ b1, .str ⟨#[k2]⟩ b2, .str ⟨#[k3]⟩ b3] n2) :: (ca, W.listOf #[.int c0 a0, .int c1 a1, .int c2 a2, .int c3 a3] n1) :: (L + 1 + 1 + 1 + 1, o4) :: (L + 1 + 1 + 1, o3) :: (L + 1 + 1, o2) :: (L + 1, o1) :: xs)) → o3.data = .cell (some (.ref da)) → o2.data = .cell (some (.ref ua)) → o1.data = .cell (some (.ref ca)) → SignOk (c0.fmod 8).toNat k0 → SignOk (c1.fmod 8).toNat k1 → SignOk (c2.fmod 8).toNat k2 → SignOk (c3.fmod 8).toNat k3 →  IntsAre tvs (towerZ (c3.fmod 19 - 9) 23) → vq.length = 5 → (∀ (i : Nat) v, vq[i]? = some v → ValR (five (c0.fmod 8).toNat (c1.fmod 8).toNat (c2.fmod 8).toNat (c3.fmod 8).toNat) xs i v) → Top qv loose mean mg mb h₀ → dp + 20 < recursionLimit → un + 200 < cLine →
  (∀ (h' : Heap) (tk' : Nat) (m' : Str → Option Value), Fr h₀ L h' m' → Q (.ret (.bool true)) { s with heap := h', toks := tk' }) →
  wpAny (model pw w) (yTop none dp un gd (Str.ofString "law") (fnScope (stAt 45)) L fa cdv (cellsFrom (L + 1) (fnScope (stAt 45)).names []) []) (execs ((fnBody (stAt 45)).drop k) (envOfC (Str.ofString "law") (fnScope (stAt 45)) L fa cdv)) Q E s
end
section
theorem num_item {prog : Program} {w : World} {A : Around} {E : Value → Shared → Prop} {s : Shared} {h₀ : Heap} {L a : Addr} {news : List (Addr × Obj)} {value slice : PySem.Expr} {n : Nat} {k : Int} {t t0 t1 t2 t3 t4 t5 t6 t7 : Tok} {Q : Value → Shared → Prop} (N : News h₀ L s.heap news) (hm : (a, W.listOf #[.int 4 t0, .int 1 t1, .int 2 t2, .int 5 t3, .int 3 t4, .int 7 t5, .int 6 t6, .int 0 t7] n) ∈ news) (hk : 0 ≤ k ∧ k < 8) (h : ∀ z, Q (.int (nuT k.toNat : Nat) z) s)
    (hs : subscripted slice false (.ref a) (.int k t) = operate [.ref a, .int k t] (getItem (.ref a) (.int k t)) := by with_unfolding_all rfl) :
    wpAny (model prog w) A (subscriptTail value slice (.ref a) (.int k t)) Q E s := by
  have hx : ∃ z, (#[.int 4 t0, .int 1 t1, .int 2 t2, .int 5 t3, .int 3 t4, .int 7 t5, .int 6 t6, .int 0 t7] : Array Value).toList[k.toNat]? = some (.int (nuT k.toNat : Nat) z) := by
    have : k.toNat < 8 := by omega
    generalize k.toNat = j at this
    rcases j with _ | _ | _ | _ | _ | _ | _ | _ | j
    · exact ⟨_, rfl⟩
    · exact ⟨_, rfl⟩
    · exact ⟨_, rfl⟩
    · exact ⟨_, rfl⟩
    · exact ⟨_, rfl⟩
    · exact ⟨_, rfl⟩
    · exact ⟨_, rfl⟩
    · exact ⟨_, rfl⟩
    · omega
  obtain ⟨z, hx⟩ := hx
  exact item_mem N hm hk.1 (by omega) hx (h z) hs
set_option maxHeartbeats 4000000 in
theorem stage_h (SC : LawX 13) : LawV 12 := by
  w_top off
  k_with_none
  k_with "y_room" => first | ((try simp only [depth_under_make, depth_under_kw, depth_in1, depth_deeper, depth_caller]); (try dsimp only [yTop]); first | exact lim2 (by assumption) rfl | exact lim1 (by assumption) rfl | exact lim0 (by assumption)) | ((try simp only [depth_under_make, depth_under_kw, depth_in1, depth_deeper, depth_caller] at *); (try dsimp only [yTop] at *); omega)
  k_with "y_units" => first | ((try simp only [units_in1, units_deeper, Around.mark_units, units_caller]); (try dsimp only [yTop]); first | exact lim2 (by assumption) rfl | exact lim1 (by assumption) rfl) | (have hcL9 := cLine_is; ((try simp only [units_in1, units_deeper, Around.mark_units, units_caller] at *); (try dsimp only [yTop] at *); omega))
  k_with "y_k5" => ((case k1 => k_asm); (case k2 => k_asm); (case k3 => k_asm); (case k4 => k_asm); (case k5 => k_asm))
  k_with "y_args" => (k_extra "y_k5"; (case kK => first | exact rfl | assumption); (case kH => first | exact Or.inl rfl | exact Or.inr rfl | assumption); (case kT => first | exact Nat.zero_le _ | (dsimp only at *; omega)); (case kd => ktr_room); (case ku => ktr_units))
  k_with "execs cons" => (k_here; (with_reducible show wpAny _ _ (execs (PySem.Stmt.Return _ _ :: _) _) _ _ _); refine stop_ ?_)
  k_with "eval ListComp" => (k_here; refine stop_ ?_)
  k_with "call ref" => (k_here; (try k_fold); k_dflt (refine' con_use (con_numbers _ _) ?k1 ?k2 ?k3 ?k4 ?k5 ?kK ?kH ?kT ?kd ?ku ?_; k_extra "y_args"; intro r9 tl9 h9 tk9 T9 P9 l9 F9 N9; obtain ⟨x9, t0, t1, t2, t3, t4, t5, t6, t7, n9, e8, e9⟩ := P9; subst e8; subst e9; (replace l9 := l9 _ (List.mem_cons_self ..)); (try simp only [List.cons_append, List.nil_append] at N9); (try dsimp only); (try k_fold)))
  k_with "subscriptTail" => (k_here; (with_reducible show wpAny _ _ (subscriptTail _ _ (Value.ref _) (Value.int _ _)) _ _ _); k_dflt (refine' num_item ?iNv3 ?iMv3 ?i0v3 ?_ ?i3v3; (case iNv3 => k_asm); (case iMv3 => exact List.mem_cons_self ..); (case i0v3 => exact fmod8 _); (case i3v3 => with_unfolding_all rfl); intro z9); (try dsimp only); (try k_fold))
  k_with "subscriptTail Name Constant ref int" => (k_here; k_dflt (refine' item_mem ?iNv4 ?iMv4 ?i0v4 ?i1v4 ?i2v4 ?_ ?i3v4; (case iNv4 => k_asm); (case iMv4 => k_mem); (case i0v4 => decide); (case i1v4 => decide); (case i2v4 => rfl); (case i3v4 => with_unfolding_all rfl); (try dsimp only); (try k_fold)))
  intro w mean mg mb dp un gd L fa cdv A₀ h₀ sa c0 c1 c2 c3 k0 k1 k2 k3 ca ta ua da r0 r1 r2 r3 a0 a1 a2 a3 b0 b1 b2 b3 e0 e1 e2 e3 n1 n2 n3 n4 o1 o2 o3 o4 tw tvs nt ok va vq nv xs s Q E B F X N d3 d2 d1 g0 g1 g2 g3 hI9 hv5 hvv Tp hdp hun hret
  k_steps
  unfold Stop
  rename Fr _ _ _ _ => lF'
  refine' listcomp1 lF' ?c1 ?c2 ?c3 ?c4 ?c5 ?_ ?c6
  case c1 => with_unfolding_all rfl
  case c2 => decide
  case c3 => exact rfl
  case c4 => decide
  case c5 => exact rfl
  case c6 => intro z; rfl
  k_steps
  rename News _ _ _ _ => lN'
  rename Fr _ _ _ _ => lF8
  k_dflt (refine' Comp1.grow (fun i ex v => ∃ t, v = Value.int (nuT ((nth4 c0 c1 c2 c3 i).fmod 8).toNat : Nat) t) ?zm ?zh lF8 lN' ?zl ?zn ?tu ?dn)
  case zm => exact fun i ex ex' v hs h => h
  case zh => exact rfl
  case zl => exact .list (by k_mem)
  case zn => exact (by decide : 4 ≤ sizeLine)
  case tu =>
    rintro I C D i v oI oC mC ys ex nw h tk E' hID hDC hi hP hl9 hX hsub oc hx F N ap hS hR2
    obtain ⟨tz, rfl⟩ : ∃ t, v = .int ((nth4 c0 c1 c2 c3 i).fmod 8) t := four_at (P := fun i v => ∃ t, v = .int ((nth4 c0 c1 c2 c3 i).fmod 8) t) hP ⟨_, rfl⟩ ⟨_, rfl⟩ ⟨_, rfl⟩ ⟨_, rfl⟩
    clear lF8 lN' hsub SC hret
    dsimp only at *
    k_steps
    rename News _ _ _ _ => lN9
    rename Fr _ _ _ _ => lF9
    exact cend_same lF9 (fun p hp => lN9 p (List.mem_cons_of_mem _ hp)) oc ap hS ⟨rfl, [], rfl, (fun p hp => nomatch hp), _, rfl⟩
  case dn =>
    intro D ys ex nw h tk hl9 hR hlt hD off hX hsub F N
    rw [lst_eqA] at N
    obtain ⟨y0, y1, y2, y3, rfl, ⟨t0, rfl⟩, ⟨t1, rfl⟩, ⟨t2, rfl⟩, ⟨t3, rfl⟩⟩ := four_of (R := fun i v => ∃ t, v = Value.int (nuT ((nth4 c0 c1 c2 c3 i).fmod 8).toNat : Nat) t) hl9 hR
    have N2 : News _ _ _ ((D, W.listOf _ _) :: ((va, W.listOf vq.toArray nv) :: (tw, W.listOf tvs.toArray nt) :: ((da, W.listOf #[.ref r0, .ref r1, .ref r2, .ref r3] n4) :: (r0, rowO k0) :: (r1, rowO k1) :: (r2, rowO k2) :: (r3, rowO k3) :: (ua, W.listOf #[.int (c0.fmod 8) e0, .int (c1.fmod 8) e1, .int (c2.fmod 8) e2, .int (c3.fmod 8) e3] n3) :: (ta, W.listOf #[.str ⟨#[k0]⟩ b0, .str ⟨#[k1]⟩ b1, .str ⟨#[k2]⟩ b2, .str ⟨#[k3]⟩ b3] n2) :: (ca, W.listOf #[.int c0 a0, .int c1 a1, .int c2 a2, .int c3 a3] n1) :: (L + 1 + 1 + 1 + 1, o4) :: (L + 1 + 1 + 1, o3) :: (L + 1 + 1, o2) :: (L + 1, o1) :: xs))) := fun p hp => N p (by
      rcases List.mem_cons.mp hp with rfl | hp
      · exact List.mem_cons_self ..
      · exact List.mem_cons_of_mem _ (hsub _ hp))
    clear lF8 lN' N hsub hR hlt off hX hD
    dsimp only [nth4] at *
    k_steps
    unfold Stop
    rename News _ _ _ _ => lN9
    rename Fr _ _ _ _ => lF9
    exact SC w mean mg mb dp un gd L fa cdv A₀ h₀ sa c0 c1 c2 c3 k0 k1 k2 k3 ca ta ua da r0 r1 r2 r3 a0 a1 a2 a3 b0 b1 b2 b3 e0 e1 e2 e3 n1 n2 n3 n4 o1 o2 o3 o4 tw tvs nt ok va vq nv xs t0 t1 t2 t3 _ Q E B lF9 X (fun p hp => lN9 p (List.mem_cons_of_mem _ hp)) d3 d2 d1 g0 g1 g2 g3 hI9 hv5 hvv Tp hdp hun hret
end
section
theorem same_map : ∀ {vs : List PV} {ns : List Nat} {u : Nat}, sameV vs ns u = true → vs.map (fun v => (sg v.1, v.2)) = ns.map (fun n => (sg n, u))
  | [], [], _, _ => rfl
  | [], _ :: _, _, h => by simp [sameV] at h
  | _ :: _, [], _, h => by simp [sameV] at h
  | v :: vs, n :: ns, u, h => by
    simp only [sameV, Bool.and_eq_true, beq_iff_eq] at h
    rw [List.map_cons, List.map_cons, same_map h.2, sg_mod v.1 n h.1.1, h.1.2]
theorem due_map {x y z w : Nat} (hx : x < 8) (hy : y < 8) (hz : z < 8) (hw : w < 8) : dueS (x : Nat) (y : Nat) (z : Nat) (w : Nat) = (dueT x y z w).map sg := by
  obtain ⟨e1, l1⟩ := xor_t x hx y hy
  obtain ⟨e2, l2⟩ := xor_t _ l1 z hz
  obtain ⟨e3, l3⟩ := xor_t y hy z hz
  unfold dueS dueT dueF
  rw [e1, e2, e3, two_t x hx y hy, two_t _ l1 z hz, two_t _ l2 w hw, turn_t x hx y hy z hz, turn_t _ l1 z hz w hw, turn_t x hx _ l3 w hw, turn_t y hy z hz w hw]
  simp only [sg_add, List.map_cons, List.map_nil]
theorem xor4 {x y z w : Nat} (hx : x < 8) (hy : y < 8) (hz : z < 8) (hw : w < 8) : posN (Builtin.bitXor (Builtin.bitXor (Builtin.bitXor (x : Nat) (y : Nat)) (z : Nat)) (w : Nat)) = ((poT (Nat.xor (Nat.xor (Nat.xor x y) z) w) : Nat) : Int) := by
  obtain ⟨e1, l1⟩ := xor_t x hx y hy
  obtain ⟨e2, l2⟩ := xor_t _ l1 z hz
  obtain ⟨e3, l3⟩ := xor_t _ l2 w hw
  rw [e1, e2, e3, pos_t _ l3]
/-- what is told of a sign and a unit -/
noncomputable def datV (s u : Int) : Dat := .list [.str (istr s), .str (istr u)]
theorem plain_law {a b c d : Nat} (ha : a < 8) (hb : b < 8) (hc : c < 8) (hd : d < 8) :
    (five a b c d).map (fun v => datV (sg v.1) (v.2 : Nat)) = (dueS (nuT a : Nat) (nuT b : Nat) (nuT c : Nat) (nuT d : Nat)).map (fun s => datV s (posN (Builtin.bitXor (Builtin.bitXor (Builtin.bitXor (nuT a : Nat) (nuT b : Nat)) (nuT c : Nat)) (nuT d : Nat)))) := by
  rw [due_map (nuT_lt a) (nuT_lt b) (nuT_lt c) (nuT_lt d), xor4 (nuT_lt a) (nuT_lt b) (nuT_lt c) (nuT_lt d)]
  have h := same_map (law_t a ha b hb c hc d hd)
  have h' := congrArg (List.map fun p : Int × Nat => datV p.1 (p.2 : Nat)) h
  rw [List.map_map, List.map_map] at h'
  rw [List.map_map]
  exact h'
theorem five_lt {a b c d i : Nat} {v : PV} (h : (five a b c d)[i]? = some v) : v.2 < 8 := by
  rcases i with _ | _ | _ | _ | _ | i
  · cases h; exact muT_lt _ _
  · cases h; exact muT_lt _ _
  · cases h; exact muT_lt _ _
  · cases h; exact muT_lt _ _
  · cases h; exact muT_lt _ _
  · simp [five] at h
theorem istr_dec : PyData.strOk (istr (-1)) = true ∧ ∀ k < 8, PyData.strOk (istr ((k : Nat) : Int)) = true := by decide +kernel
theorem istr_ok {n : Int} (h : n = -1 ∨ (0 ≤ n ∧ n < 8)) : PyData.strOk (istr n) = true := by
  rcases h with rfl | h
  · exact istr_dec.1
  · have := istr_dec.2 n.toNat (by omega)
    rwa [Int.toNat_of_nonneg h.1] at this
theorem datV_ok {s u : Int} (hs : s = 1 ∨ s = -1) (hu : 0 ≤ u ∧ u < 8) : kqdOk 8 (datV s u) = true := by
  have h1 : PyData.strOk (istr s) = true := istr_ok (by omega)
  have h2 : PyData.strOk (istr u) = true := istr_ok (by omega)
  simp only [datV, kqdOk, List.all_cons, List.all_nil, Bool.and_true, Bool.and_eq_true]
  exact ⟨h1, h2⟩
theorem five_ok {a b c d : Nat} : ∀ x ∈ (five a b c d).map (fun v => datV (sg v.1) (v.2 : Nat)), kqdOk 8 x = true := fun x hx => by
  obtain ⟨v, hv, rfl⟩ := List.mem_map.mp hx
  obtain ⟨i, hi⟩ := List.getElem?_of_mem hv
  have := five_lt hi
  exact datV_ok (sg_pm _) (by omega)
end
section
theorem u8i (c : Int) : (c.fmod 8).toNat < 8 := by
  have := fmod8 c
  omega
theorem nu8 (c : Int) : 0 ≤ ((nuT (c.fmod 8).toNat : Nat) : Int) ∧ ((nuT (c.fmod 8).toNat : Nat) : Int) < 8 := by
  have := nuT_lt (c.fmod 8).toNat
  omega
noncomputable def ShowR (vs : List PV) (i : Nat) (ex : List (Addr × Obj)) (y : Value) : Prop := ∃ v, vs[i]? = some v ∧ DatIn ex y (datV (sg v.1) (v.2 : Nat))
set_option maxHeartbeats 4000000 in
theorem stage_i : LawX 13 := by
  w_top off
  k_with_none
  k_with "y_room" => first | ((try simp only [depth_under_make, depth_under_kw, depth_in1, depth_deeper, depth_caller]); (try dsimp only [yTop]); first | exact lim2 (by assumption) rfl | exact lim1 (by assumption) rfl | exact lim0 (by assumption)) | ((try simp only [depth_under_make, depth_under_kw, depth_in1, depth_deeper, depth_caller] at *); (try dsimp only [yTop] at *); omega)
  k_with "y_units" => first | ((try simp only [units_in1, units_deeper, Around.mark_units, units_caller]); (try dsimp only [yTop]); first | exact lim2 (by assumption) rfl | exact lim1 (by assumption) rfl) | (have hcL9 := cLine_is; ((try simp only [units_in1, units_deeper, Around.mark_units, units_caller] at *); (try dsimp only [yTop] at *); omega))
  k_with "y_k5" => ((case k1 => k_asm); (case k2 => k_asm); (case k3 => k_asm); (case k4 => k_asm); (case k5 => k_asm))
  k_with "y_args" => (k_extra "y_k5"; (case kK => first | exact rfl | assumption); (case kH => first | exact Or.inl rfl | exact Or.inr rfl | assumption); (case kT => first | exact Nat.zero_le _ | (dsimp only at *; omega)); (case kd => ktr_room); (case ku => ktr_units))
  k_with "execs cons" => (k_here; (with_reducible show wpAny _ _ (execs (PySem.Stmt.If _ _ _ _ :: _) _) _ _ _); refine stop_ ?_)
  k_with "eval ListComp" => (k_here; refine stop_ ?_)
  k_with "call ref" => (k_here; refine stop_ ?_)
  k_with "compareOp Eq ref ref" => (k_here; refine stop_ ?_)
  k_with "subscriptTail Name Constant ref int" => (k_here; k_dflt (refine' item_mem ?iNv4 ?iMv4 ?i0v4 ?i1v4 ?i2v4 ?_ ?i3v4; (case iNv4 => k_asm); (case iMv4 => k_mem); (case i0v4 => decide); (case i1v4 => decide); (case i2v4 => rfl); (case i3v4 => with_unfolding_all rfl); (try dsimp only); (try k_fold)))
  intro w mean mg mb dp un gd L fa cdv A₀ h₀ sa c0 c1 c2 c3 k0 k1 k2 k3 ca ta ua da r0 r1 r2 r3 a0 a1 a2 a3 b0 b1 b2 b3 e0 e1 e2 e3 n1 n2 n3 n4 o1 o2 o3 o4 tw tvs nt ok va vq nv xs t0 t1 t2 t3 s Q E B F X N d3 d2 d1 g0 g1 g2 g3 hI9 hv5 hvv Tp hdp hun hret
  k_steps
  unfold Stop
  rename Fr _ _ _ _ => lF'
  refine' listcomp1 lF' ?c1 ?c2 ?c3 ?c4 ?c5 ?_ ?c6
  case c1 => with_unfolding_all rfl
  case c2 => decide
  case c3 => exact rfl
  case c4 => decide
  case c5 => exact rfl
  case c6 => intro z; rfl
  k_steps
  rename News _ _ _ _ => lN'
  rename Fr _ _ _ _ => lF8
  k_dflt (refine' Comp1.grow (ShowR (five (c0.fmod 8).toNat (c1.fmod 8).toNat (c2.fmod 8).toNat (c3.fmod 8).toNat)) ?zm ?zh lF8 lN' ?zl ?zn ?tu ?dn)
  case zm =>
    rintro i ex ex' v hs ⟨v, h1, h2⟩
    exact ⟨v, h1, h2.mono hs⟩
  case zh => exact rfl
  case zl => exact .list (List.mem_cons_self ..)
  case zn =>
    rw [List.size_toArray, hv5]
    exact (by decide : 5 ≤ sizeLine)
  case tu =>
    rintro I C D i v oI oC mC ys ex nw h tk E' hID hDC hi hP hl9 hX hsub oc hx F N ap hS hR2
    obtain ⟨v, a, ta9, tb9, n9, hv5, rfl, hm9⟩ := hvv i _ (by simpa using hP)
    have hlt := five_lt hv5
    have N4 := news_in (front := [_, _, _]) (xs := [(a, W.listOf #[.int (sg v.1) ta9, .int (v.2 : Nat) tb9] n9)]) N
      (List.forall_mem_cons.mpr ⟨hsub _ (by
        iterate 14 apply List.mem_cons_of_mem
        exact hm9), List.forall_mem_nil _⟩)
    simp only [List.cons_append, List.nil_append] at N4
    have hsg := sg_pm v.1
    have hu9 : 0 ≤ ((v.2 : Nat) : Int) ∧ ((v.2 : Nat) : Int) < 8 := by omega
    clear lF8 lN' hsub hret N
    dsimp only at *
    generalize hs9 : sg v.1 = s9 at *
    generalize hu8 : ((v.2 : Nat) : Int) = u9 at *
    have hd9 : datV s9 u9 = datV (sg v.1) (v.2 : Nat) := by rw [hs9, hu8]
    rcases hsg with rfl | rfl
    · k_steps
      rename _ ∧ _ ∧ _ ∧ _ ∧ AllLt _ _ => l9
      refine cend_new (by assumption) (news_out (front := [_, _, _, _]) (xs := [_]) (by assumption)) ⟨l9.1, l9.2.1, l9.2.2.1, l9.2.2.2.2⟩ oc ap (List.mem_cons_of_mem _ hS) ⟨rfl, [_], rfl, ?_, v, hv5, ?_⟩
      · intro p hp
        rw [List.mem_singleton.mp hp]
        exact l9.1
      · rw [← hd9]
        exact .list (vs := [_, _]) (List.mem_cons_self ..) (.cons (.str _ _) (.cons (.str _ _) .nil))
    · k_steps
      rename _ ∧ _ ∧ _ ∧ _ ∧ AllLt _ _ => l9
      refine cend_new (by assumption) (news_out (front := [_, _, _, _]) (xs := [_]) (by assumption)) ⟨l9.1, l9.2.1, l9.2.2.1, l9.2.2.2.2⟩ oc ap (List.mem_cons_of_mem _ hS) ⟨rfl, [_], rfl, ?_, v, hv5, ?_⟩
      · intro p hp
        rw [List.mem_singleton.mp hp]
        exact l9.1
      · rw [← hd9]
        exact .list (vs := [_, _]) (List.mem_cons_self ..) (.cons (.str _ _) (.cons (.str _ _) .nil))
  case dn =>
    intro D ys ex nw h tk hl9 hR hlt hD off hX hsub F N
    rw [lst_eqA] at N
    have hys : DatAll ex ys ((five (c0.fmod 8).toNat (c1.fmod 8).toNat (c2.fmod 8).toNat (c3.fmod 8).toNat).map (fun v => datV (sg v.1) (v.2 : Nat))) := datAll_of (by
      rw [hl9, List.size_toArray, hv5]; rfl) fun i v e => by
      obtain ⟨v, h1, h2⟩ := hR i v e
      exact ⟨_, by rw [List.getElem?_map, h1]; rfl, h2⟩
    clear lF8 lN'
    dsimp only at *
    k_steps
    unfold Stop
    k_dflt (refine' con_use (con_due w _ _ _ _ _ t0 t1 t2 t3 (nu8 c0) (nu8 c1) (nu8 c2) (nu8 c3)) ?k1 ?k2 ?k3 ?k4 ?k5 ?kK ?kH ?kT ?kd ?ku ?_)
    k_extra "y_args"
    intro r9 tl9 h9 tk9 T9 P9 l9 F9 N9
    obtain ⟨D3, ys3, rfl, hD3, hl3, hR3⟩ := P9
    have hpl := plain_law (u8i c0) (u8i c1) (u8i c2) (u8i c3)
    have hus : DatAll tl9 ys3 ((dueS (nuT (c0.fmod 8).toNat : Nat) (nuT (c1.fmod 8).toNat : Nat) (nuT (c2.fmod 8).toNat : Nat) (nuT (c3.fmod 8).toNat : Nat)).map (fun s => datV s (posN (Builtin.bitXor (Builtin.bitXor (Builtin.bitXor (nuT (c0.fmod 8).toNat : Nat) (nuT (c1.fmod 8).toNat : Nat)) (nuT (c2.fmod 8).toNat : Nat)) (nuT (c3.fmod 8).toNat : Nat))))) := datAll_of (by
      rw [hl3, List.length_map]; rfl) fun i v e => by
      obtain ⟨a, s, t1, t2, n, h1, rfl, h3⟩ := hR3 i v e
      exact ⟨_, by rw [List.getElem?_map, h1]; rfl, .list (vs := [_, _]) h3 (.cons (.str _ _) (.cons (.str _ _) .nil))⟩
    dsimp only
    refine' kqd_eq (n₁ := ex) (n₂ := tl9) N9 (oa := W.listOf ys.toArray ys.length) (ob := LCg.lst ys3) ?ma rfl rfl hys ?sa ?mb rfl rfl hus ?sb five_ok ?ok ?u ?_
    case ma => exact List.mem_append_right _ (List.mem_cons_self ..)
    case sa => exact fun p hp => List.mem_append_right _ (List.mem_cons_of_mem _ (hX ▸ List.mem_append_left _ hp))
    case mb => exact List.mem_append_left _ hD3
    case sb => exact fun p hp => List.mem_append_left _ hp
    case ok =>
      rw [← hpl]
      exact five_ok
    case u => ktr_units
    have e9 := fun i => @decide_eq_true _ i hpl
    rw [e9]
    exact hret _ _ _ F9
end
end YF
open PySem PySem.W PyProof.Rows
set_option maxHeartbeats 8000000 in
theorem PySem.Challenge.cw_yf0010_01_holds : PySem.Challenge.rw_yf0010_01.Holds := by
  exact YF.claim_of (YF.stage_a (YF.stage_b (YF.stage_c (YF.stage_d (YF.stage_e (YF.stage_f (YF.stage_g (YF.stage_h YF.stage_i))))))))
