import PyProof.Rows.All
import Wide.All
import OpenK.AllK
import Wide.FinOn
import PySem.Table
import PySem.Challenge.RW_tp0056_01
set_option Elab.async false
set_option maxRecDepth 100000
section
open PySem PySem.W PyProof.Rows
namespace Mine
noncomputable abbrev P0 : Program := PySem.Challenge.pw_tp0056_01
noncomputable def st (i : Nat) : Stmt := P0.main.body.getD i (.Pass default)
noncomputable def clsBody : Stmt → List Stmt | .ClassDef _ _ _ b .. => b | _ => []
noncomputable def stc (i j : Nat) : Stmt := (clsBody (st i)).getD j (.Pass default)
noncomputable def fnArgs : Stmt → Arguments | .FunctionDef _ a .. => a | _ => ⟨[], [], none, [], [], none, []⟩
noncomputable def fnBody : Stmt → List Stmt | .FunctionDef _ _ b .. => b | _ => []
noncomputable def fnScope : Stmt → Scope | .FunctionDef _ _ _ _ _ _ s .. => s | _ => ⟨.function, [], false, false, []⟩
noncomputable def qv : Program := { P0 with main := { P0.main with body := [st 0, st 24] } }
noncomputable def loose : List Str := ["_wall", "_DIV_LIMIT", "_div2n1n", "_div3n2n", "_digits2int", "c8_set", "in_table_c8", "Whitespace", "_name_disallowed_re", "_value_disallowed_re", "Headers", "_law_cells", "_law_row", "_law_round", "_law_alone", "_law_lead", "_law_run", "_law_rests"]
noncomputable def o2 (P : Params) : Obj := ⟨.none, none, (.dict #[⟨PyData.keyHash P (Str.ofString "\x69mport.loaded._sre"), .str (Str.ofString "\x69mport.loaded._sre") 183, (.bool true)⟩, ⟨PyData.keyHash P (Str.ofString "class._frozen_importlib.BuiltinImporter"), .str (Str.ofString "class._frozen_importlib.BuiltinImporter") 185, (.ref 14)⟩, ⟨PyData.keyHash P (Str.ofString "watched.\x69mport"), .str (Str.ofString "watched.\x69mport") 206, (.ref 18)⟩, ⟨PyData.keyHash P (Str.ofString "class._frozen_importlib.ModuleSpec"), .str (Str.ofString "class._frozen_importlib.ModuleSpec") 216, (.ref 22)⟩, ⟨PyData.keyHash P (Str.ofString "sys.modules.booked-epoch"), .str (Str.ofString "sys.modules.booked-epoch") 245, (.int 3 0)⟩, ⟨PyData.keyHash P (Str.ofString "\x69mport.later-laid._sre"), .str (Str.ofString "\x69mport.later-laid._sre") 270, (.bool true)⟩, ⟨PyData.keyHash P (Str.ofString "watched.library"), .str (Str.ofString "watched.library") 272, (.ref 27)⟩, ⟨PyData.keyHash P (Str.ofString "watched.library-objects"), .str (Str.ofString "watched.library-objects") 0, (.str (Str.ofString "\x0c") 0)⟩, ⟨PyData.keyHash P (Str.ofString "watched.library-deep._sre"), .str (Str.ofString "watched.library-deep._sre") 273, (.str ⟨#[4, 0, 0, 11, 4, 0, 0, 11, 4, 0, 0, 3, 4, 0, 0, 11, 8, 4, 100, 105, 99, 116, 2]⟩ 0)⟩] 9), #[]⟩
noncomputable def o3 (P : Params) : Obj := ⟨(.type "dict"), none, (.dict #[⟨PyData.keyHash P (Str.ofString "__name__"), .str (Str.ofString "__name__") 165, (.str (Str.ofString "law_tp0056_01") 698)⟩, ⟨PyData.keyHash P (Str.ofString "__doc__"), .str (Str.ofString "__doc__") 166, .none⟩, ⟨PyData.keyHash P (Str.ofString "__package__"), .str (Str.ofString "__package__") 167, .none⟩, ⟨PyData.keyHash P (Str.ofString "__loader__"), .str (Str.ofString "__loader__") 168, (.builtin "__main__.__loader__#opaque")⟩, ⟨PyData.keyHash P (Str.ofString "__spec__"), .str (Str.ofString "__spec__") 169, .none⟩, ⟨PyData.keyHash P (Str.ofString "__annotations__"), .str (Str.ofString "__annotations__") 170, (.ref 6)⟩, ⟨PyData.keyHash P (Str.ofString "__builtins__"), .str (Str.ofString "__builtins__") 171, (.ref 4)⟩, ⟨PyData.keyHash P (Str.ofString "__file__"), .str (Str.ofString "__file__") 173, (.str (Str.ofString "/claim/cut.py") 172)⟩, ⟨PyData.keyHash P (Str.ofString "__cached__"), .str (Str.ofString "__cached__") 174, .none⟩, ⟨PyData.keyHash P (Str.ofString "_sre"), .str (Str.ofString "_sre") 275, (.ref 12)⟩, ⟨PyData.keyHash P (Str.ofString "_wall"), .str (Str.ofString "_wall") 288, (.ref 38)⟩, ⟨PyData.keyHash P (Str.ofString "_DIV_LIMIT"), .str (Str.ofString "_DIV_LIMIT") 292, (.int 4000 291)⟩, ⟨PyData.keyHash P (Str.ofString "_div2n1n"), .str (Str.ofString "_div2n1n") 309, (.ref 45)⟩, ⟨PyData.keyHash P (Str.ofString "_div3n2n"), .str (Str.ofString "_div3n2n") 323, (.ref 52)⟩, ⟨PyData.keyHash P (Str.ofString "_digits2int"), .str (Str.ofString "_digits2int") 334, (.ref 59)⟩, ⟨PyData.keyHash P (Str.ofString "c8_set"), .str (Str.ofString "c8_set") 377, (.ref 73)⟩, ⟨PyData.keyHash P (Str.ofString "in_table_c8"), .str (Str.ofString "in_table_c8") 384, (.ref 83)⟩, ⟨PyData.keyHash P (Str.ofString "Whitespace"), .str (Str.ofString "Whitespace") 478, (.ref 145)⟩, ⟨PyData.keyHash P (Str.ofString "_name_disallowed_re"), .str (Str.ofString "_name_disallowed_re") 506, (.ref 154)⟩, ⟨PyData.keyHash P (Str.ofString "_value_disallowed_re"), .str (Str.ofString "_value_disallowed_re") 540, (.ref 159)⟩, ⟨PyData.keyHash P (Str.ofString "Headers"), .str (Str.ofString "Headers") 697, (.ref 282)⟩, ⟨PyData.keyHash P (Str.ofString "_law_cells"), .str (Str.ofString "_law_cells") 705, (.ref 291)⟩, ⟨PyData.keyHash P (Str.ofString "_law_row"), .str (Str.ofString "_law_row") 711, (.ref 296)⟩, ⟨PyData.keyHash P (Str.ofString "_law_round"), .str (Str.ofString "_law_round") 726, (.ref 303)⟩, ⟨PyData.keyHash P (Str.ofString "_law_alone"), .str (Str.ofString "_law_alone") 738, (.ref 310)⟩, ⟨PyData.keyHash P (Str.ofString "_law_lead"), .str (Str.ofString "_law_lead") 744, (.ref 315)⟩, ⟨PyData.keyHash P (Str.ofString "_law_run"), .str (Str.ofString "_law_run") 750, (.ref 320)⟩, ⟨PyData.keyHash P (Str.ofString "_law_rests"), .str (Str.ofString "_law_rests") 765, (.ref 327)⟩, ⟨PyData.keyHash P (Str.ofString "law"), .str (Str.ofString "law") 771, (.ref 332)⟩] 29), #[]⟩
noncomputable def o32 (_ : Params) : Obj := ⟨(.type "tuple"), none, (.seq #[] 0), #[]⟩
noncomputable def o34 (_ : Params) : Obj := ⟨(.type "tuple"), none, (.seq #[(.str (Str.ofString "k") 285)] 0), #[]⟩
noncomputable def o35 (_ : Params) : Obj := ⟨(.type "tuple"), none, (.seq #[] 0), #[]⟩
noncomputable def o37 (_ : Params) : Obj := ⟨(.type "code"), none, (.fields #[(.str (Str.ofString "_wall") 282), (.str (Str.ofString "_wall") 283), (.str (Str.ofString "/claim/cut.py") 284), (.int 2 0), (.int 1 0), (.int 0 0), (.int 0 0), (.int 3 0), (.ref 32), (.bool true), (.int 276 0), (.ref 33), .none, (.ref 34), (.ref 35), (.ref 36), (.int 286 0), (.int 2 0), (.str (Str.ofString "/claim/cut.py") 287)]), #[]⟩
noncomputable def o38 (_ : Params) : Obj := ⟨(.type "function"), none, (.func { name := (Str.ofString "_wall"), qualname := (Str.ofString "_wall"), params := fnArgs (st 1), body := .stmts (fnBody (st 1)), scope := fnScope (st 1), globals := 3, closure := [], defaults := .none, kwdefaults := .none, doc := .none, pyModule := (.str (Str.ofString "__main__") 164), annotations := none, code := (.ref 37), closureTuple := .none, builtins := 0 }), #[]⟩
noncomputable def o39 (_ : Params) : Obj := ⟨(.type "tuple"), none, (.seq #[] 0), #[]⟩
noncomputable def o41 (_ : Params) : Obj := ⟨(.type "tuple"), none, (.seq #[(.str (Str.ofString "a") 296), (.str (Str.ofString "b") 297), (.str (Str.ofString "n") 298), (.str (Str.ofString "pad") 299), (.str (Str.ofString "half_n") 300), (.str (Str.ofString "mask") 301), (.str (Str.ofString "b1") 302), (.str (Str.ofString "b2") 303), (.str (Str.ofString "q1") 304), (.str (Str.ofString "r") 305), (.str (Str.ofString "q2") 306)] 0), #[]⟩
noncomputable def o42 (_ : Params) : Obj := ⟨(.type "tuple"), none, (.seq #[] 0), #[]⟩
noncomputable def o44 (_ : Params) : Obj := ⟨(.type "code"), none, (.fields #[(.str (Str.ofString "_div2n1n") 293), (.str (Str.ofString "_div2n1n") 294), (.str (Str.ofString "/claim/cut.py") 295), (.int 7 0), (.int 3 0), (.int 0 0), (.int 0 0), (.int 3 0), (.ref 39), (.bool true), (.int 276 0), (.ref 40), .none, (.ref 41), (.ref 42), (.ref 43), (.int 307 0), (.int 7 0), (.str (Str.ofString "/claim/cut.py") 308)]), #[]⟩
noncomputable def o45 (_ : Params) : Obj := ⟨(.type "function"), none, (.func { name := (Str.ofString "_div2n1n"), qualname := (Str.ofString "_div2n1n"), params := fnArgs (st 4), body := .stmts (fnBody (st 4)), scope := fnScope (st 4), globals := 3, closure := [], defaults := .none, kwdefaults := .none, doc := .none, pyModule := (.str (Str.ofString "cpy313._pylong") 289), annotations := none, code := (.ref 44), closureTuple := .none, builtins := 0 }), #[]⟩
noncomputable def o46 (_ : Params) : Obj := ⟨(.type "tuple"), none, (.seq #[] 0), #[]⟩
noncomputable def o48 (_ : Params) : Obj := ⟨(.type "tuple"), none, (.seq #[(.str (Str.ofString "a12") 313), (.str (Str.ofString "a3") 314), (.str (Str.ofString "b") 315), (.str (Str.ofString "b1") 316), (.str (Str.ofString "b2") 317), (.str (Str.ofString "n") 318), (.str (Str.ofString "q") 319), (.str (Str.ofString "r") 320)] 0), #[]⟩
noncomputable def o49 (_ : Params) : Obj := ⟨(.type "tuple"), none, (.seq #[] 0), #[]⟩
noncomputable def o51 (_ : Params) : Obj := ⟨(.type "code"), none, (.fields #[(.str (Str.ofString "_div3n2n") 310), (.str (Str.ofString "_div3n2n") 311), (.str (Str.ofString "/claim/cut.py") 312), (.int 23 0), (.int 6 0), (.int 0 0), (.int 0 0), (.int 3 0), (.ref 46), (.bool true), (.int 276 0), (.ref 47), .none, (.ref 48), (.ref 49), (.ref 50), (.int 321 0), (.int 23 0), (.str (Str.ofString "/claim/cut.py") 322)]), #[]⟩
noncomputable def o52 (_ : Params) : Obj := ⟨(.type "function"), none, (.func { name := (Str.ofString "_div3n2n"), qualname := (Str.ofString "_div3n2n"), params := fnArgs (st 5), body := .stmts (fnBody (st 5)), scope := fnScope (st 5), globals := 3, closure := [], defaults := .none, kwdefaults := .none, doc := .none, pyModule := (.str (Str.ofString "cpy313._pylong") 289), annotations := none, code := (.ref 51), closureTuple := .none, builtins := 0 }), #[]⟩
noncomputable def o53 (_ : Params) : Obj := ⟨(.type "tuple"), none, (.seq #[] 0), #[]⟩
noncomputable def o55 (_ : Params) : Obj := ⟨(.type "tuple"), none, (.seq #[(.str (Str.ofString "digits") 327), (.str (Str.ofString "n") 328)] 0), #[]⟩
noncomputable def o56 (_ : Params) : Obj := ⟨(.type "tuple"), none, (.seq #[(.str (Str.ofString "digits") 329), (.str (Str.ofString "n") 330), (.str (Str.ofString "inner") 331)] 0), #[]⟩
noncomputable def o58 (_ : Params) : Obj := ⟨(.type "code"), none, (.fields #[(.str (Str.ofString "_digits2int") 324), (.str (Str.ofString "_digits2int") 325), (.str (Str.ofString "/claim/cut.py") 326), (.int 33 0), (.int 2 0), (.int 0 0), (.int 0 0), (.int 3 0), (.ref 53), (.bool true), (.int 276 0), (.ref 54), .none, (.ref 55), (.ref 56), (.ref 57), (.int 332 0), (.int 33 0), (.str (Str.ofString "/claim/cut.py") 333)]), #[]⟩
noncomputable def o59 (_ : Params) : Obj := ⟨(.type "function"), none, (.func { name := (Str.ofString "_digits2int"), qualname := (Str.ofString "_digits2int"), params := fnArgs (st 6), body := .stmts (fnBody (st 6)), scope := fnScope (st 6), globals := 3, closure := [], defaults := .none, kwdefaults := .none, doc := .none, pyModule := (.str (Str.ofString "cpy313._pylong") 289), annotations := none, code := (.ref 58), closureTuple := .none, builtins := 0 }), #[]⟩
noncomputable def o73 (P : Params) : Obj := ⟨(.type "set"), none, (.set #[(832, (.int 832 337)), (833, (.int 833 338)), (8234, (.int 8234 346)), (8235, (.int 8235 347)), (8236, (.int 8236 348)), (8237, (.int 8237 349)), (8206, (.int 8206 339)), (8207, (.int 8207 340)), (8238, (.int 8238 350)), (8298, (.int 8298 356)), (8299, (.int 8299 357)), (8300, (.int 8300 358)), (8301, (.int 8301 359)), (8302, (.int 8302 360)), (8303, (.int 8303 361))] 16 { mask := 31, place := #[0, 1, 10, 11, 12, 13, 14, 15, 16, 17, 18, 19, 20, 21, 22], dummies := #[], finger := 0, led := (!(P.followText "set-order")), moves := 1, plain := true }), #[]⟩
noncomputable def o77 (_ : Params) : Obj := ⟨(.type "tuple"), none, (.seq #[] 0), #[]⟩
noncomputable def o79 (_ : Params) : Obj := ⟨(.type "tuple"), none, (.seq #[(.str (Str.ofString "code") 381)] 0), #[]⟩
noncomputable def o80 (_ : Params) : Obj := ⟨(.type "tuple"), none, (.seq #[] 0), #[]⟩
noncomputable def o82 (_ : Params) : Obj := ⟨(.type "code"), none, (.fields #[(.str (Str.ofString "in_table_c8") 378), (.str (Str.ofString "in_table_c8") 379), (.str (Str.ofString "/claim/cut.py") 380), (.int 44 0), (.int 1 0), (.int 0 0), (.int 0 0), (.int 3 0), (.ref 77), (.bool true), (.int 276 0), (.ref 78), .none, (.ref 79), (.ref 80), (.ref 81), (.int 382 0), (.int 44 0), (.str (Str.ofString "/claim/cut.py") 383)]), #[]⟩
noncomputable def o83 (_ : Params) : Obj := ⟨(.type "function"), none, (.func { name := (Str.ofString "in_table_c8"), qualname := (Str.ofString "in_table_c8"), params := fnArgs (st 9), body := .stmts (fnBody (st 9)), scope := fnScope (st 9), globals := 3, closure := [], defaults := .none, kwdefaults := .none, doc := .none, pyModule := (.str (Str.ofString "cpy313.stringprep") 335), annotations := none, code := (.ref 82), closureTuple := .none, builtins := 0 }), #[]⟩
noncomputable def o94 (_ : Params) : Obj := ⟨(.type "tuple"), none, (.seq #[] 0), #[]⟩
noncomputable def o96 (_ : Params) : Obj := ⟨(.type "tuple"), none, (.seq #[(.str (Str.ofString "self") 407), (.str (Str.ofString "ws") 408), (.str (Str.ofString "S") 409), (.str (Str.ofString "T") 410), (.str (Str.ofString "count") 411), (.str (Str.ofString "b") 412), (.str (Str.ofString "n") 413), (.str (Str.ofString "nt") 414), (.str (Str.ofString "ch") 415)] 0), #[]⟩
noncomputable def o97 (_ : Params) : Obj := ⟨(.type "tuple"), none, (.seq #[] 0), #[]⟩
noncomputable def o99 (_ : Params) : Obj := ⟨(.type "code"), none, (.fields #[(.str (Str.ofString "__init__") 404), (.str (Str.ofString "Whitespace.__init__") 405), (.str (Str.ofString "/claim/cut.py") 406), (.int 50 0), (.int 2 0), (.int 0 0), (.int 0 0), (.int 3 0), (.ref 94), (.bool true), (.int 276 0), (.ref 95), .none, (.ref 96), (.ref 97), (.ref 98), (.int 416 0), (.int 50 0), (.str (Str.ofString "/claim/cut.py") 417)]), #[]⟩
noncomputable def o100 (_ : Params) : Obj := ⟨(.type "function"), none, (.func { name := (Str.ofString "__init__"), qualname := (Str.ofString "Whitespace.__init__"), params := fnArgs (stc 11 1), body := .stmts (fnBody (stc 11 1)), scope := fnScope (stc 11 1), globals := 3, closure := [], defaults := .none, kwdefaults := .none, doc := .none, pyModule := (.str (Str.ofString "cpy313.tabnanny") 385), annotations := none, code := (.ref 99), closureTuple := .none, builtins := 0 }), #[]⟩
noncomputable def o101 (_ : Params) : Obj := ⟨(.type "tuple"), none, (.seq #[] 0), #[]⟩
noncomputable def o103 (_ : Params) : Obj := ⟨(.type "tuple"), none, (.seq #[(.str (Str.ofString "self") 422)] 0), #[]⟩
noncomputable def o104 (_ : Params) : Obj := ⟨(.type "tuple"), none, (.seq #[] 0), #[]⟩
noncomputable def o106 (_ : Params) : Obj := ⟨(.type "code"), none, (.fields #[(.str (Str.ofString "longest_run_of_spaces") 419), (.str (Str.ofString "Whitespace.longest_run_of_spaces") 420), (.str (Str.ofString "/claim/cut.py") 421), (.int 73 0), (.int 1 0), (.int 0 0), (.int 0 0), (.int 3 0), (.ref 101), (.bool true), (.int 276 0), (.ref 102), .none, (.ref 103), (.ref 104), (.ref 105), (.int 423 0), (.int 73 0), (.str (Str.ofString "/claim/cut.py") 424)]), #[]⟩
noncomputable def o107 (_ : Params) : Obj := ⟨(.type "function"), none, (.func { name := (Str.ofString "longest_run_of_spaces"), qualname := (Str.ofString "Whitespace.longest_run_of_spaces"), params := fnArgs (stc 11 2), body := .stmts (fnBody (stc 11 2)), scope := fnScope (stc 11 2), globals := 3, closure := [], defaults := .none, kwdefaults := .none, doc := .none, pyModule := (.str (Str.ofString "cpy313.tabnanny") 385), annotations := none, code := (.ref 106), closureTuple := .none, builtins := 0 }), #[]⟩
noncomputable def o108 (_ : Params) : Obj := ⟨(.type "tuple"), none, (.seq #[] 0), #[]⟩
noncomputable def o110 (_ : Params) : Obj := ⟨(.type "tuple"), none, (.seq #[(.str (Str.ofString "self") 429), (.str (Str.ofString "tabsize") 430)] 0), #[]⟩
noncomputable def o111 (_ : Params) : Obj := ⟨(.type "tuple"), none, (.seq #[] 0), #[]⟩
noncomputable def o113 (_ : Params) : Obj := ⟨(.type "code"), none, (.fields #[(.str (Str.ofString "indent_level") 426), (.str (Str.ofString "Whitespace.indent_level") 427), (.str (Str.ofString "/claim/cut.py") 428), (.int 76 0), (.int 2 0), (.int 0 0), (.int 0 0), (.int 3 0), (.ref 108), (.bool true), (.int 276 0), (.ref 109), .none, (.ref 110), (.ref 111), (.ref 112), (.int 431 0), (.int 76 0), (.str (Str.ofString "/claim/cut.py") 432)]), #[]⟩
noncomputable def o114 (_ : Params) : Obj := ⟨(.type "function"), none, (.func { name := (Str.ofString "indent_level"), qualname := (Str.ofString "Whitespace.indent_level"), params := fnArgs (stc 11 3), body := .stmts (fnBody (stc 11 3)), scope := fnScope (stc 11 3), globals := 3, closure := [], defaults := .none, kwdefaults := .none, doc := .none, pyModule := (.str (Str.ofString "cpy313.tabnanny") 385), annotations := none, code := (.ref 113), closureTuple := .none, builtins := 0 }), #[]⟩
noncomputable def o115 (_ : Params) : Obj := ⟨(.type "tuple"), none, (.seq #[] 0), #[]⟩
noncomputable def o117 (_ : Params) : Obj := ⟨(.type "tuple"), none, (.seq #[(.str (Str.ofString "self") 437), (.str (Str.ofString "other") 438)] 0), #[]⟩
noncomputable def o118 (_ : Params) : Obj := ⟨(.type "tuple"), none, (.seq #[] 0), #[]⟩
noncomputable def o120 (_ : Params) : Obj := ⟨(.type "code"), none, (.fields #[(.str (Str.ofString "equal") 434), (.str (Str.ofString "Whitespace.equal") 435), (.str (Str.ofString "/claim/cut.py") 436), (.int 79 0), (.int 2 0), (.int 0 0), (.int 0 0), (.int 3 0), (.ref 115), (.bool true), (.int 276 0), (.ref 116), .none, (.ref 117), (.ref 118), (.ref 119), (.int 439 0), (.int 79 0), (.str (Str.ofString "/claim/cut.py") 440)]), #[]⟩
noncomputable def o121 (_ : Params) : Obj := ⟨(.type "function"), none, (.func { name := (Str.ofString "equal"), qualname := (Str.ofString "Whitespace.equal"), params := fnArgs (stc 11 4), body := .stmts (fnBody (stc 11 4)), scope := fnScope (stc 11 4), globals := 3, closure := [], defaults := .none, kwdefaults := .none, doc := .none, pyModule := (.str (Str.ofString "cpy313.tabnanny") 385), annotations := none, code := (.ref 120), closureTuple := .none, builtins := 0 }), #[]⟩
noncomputable def o122 (_ : Params) : Obj := ⟨(.type "tuple"), none, (.seq #[] 0), #[]⟩
noncomputable def o124 (_ : Params) : Obj := ⟨(.type "tuple"), none, (.seq #[(.str (Str.ofString "self") 445), (.str (Str.ofString "other") 446)] 0), #[]⟩
noncomputable def o125 (_ : Params) : Obj := ⟨(.type "tuple"), none, (.seq #[] 0), #[]⟩
noncomputable def o127 (_ : Params) : Obj := ⟨(.type "code"), none, (.fields #[(.str (Str.ofString "not_equal_witness") 442), (.str (Str.ofString "Whitespace.not_equal_witness") 443), (.str (Str.ofString "/claim/cut.py") 444), (.int 82 0), (.int 2 0), (.int 0 0), (.int 0 0), (.int 3 0), (.ref 122), (.bool true), (.int 276 0), (.ref 123), .none, (.ref 124), (.ref 125), (.ref 126), (.int 447 0), (.int 82 0), (.str (Str.ofString "/claim/cut.py") 448)]), #[]⟩
noncomputable def o128 (_ : Params) : Obj := ⟨(.type "function"), none, (.func { name := (Str.ofString "not_equal_witness"), qualname := (Str.ofString "Whitespace.not_equal_witness"), params := fnArgs (stc 11 5), body := .stmts (fnBody (stc 11 5)), scope := fnScope (stc 11 5), globals := 3, closure := [], defaults := .none, kwdefaults := .none, doc := .none, pyModule := (.str (Str.ofString "cpy313.tabnanny") 385), annotations := none, code := (.ref 127), closureTuple := .none, builtins := 0 }), #[]⟩
noncomputable def o129 (_ : Params) : Obj := ⟨(.type "tuple"), none, (.seq #[] 0), #[]⟩
noncomputable def o131 (_ : Params) : Obj := ⟨(.type "tuple"), none, (.seq #[(.str (Str.ofString "self") 453), (.str (Str.ofString "other") 454)] 0), #[]⟩
noncomputable def o132 (_ : Params) : Obj := ⟨(.type "tuple"), none, (.seq #[] 0), #[]⟩
noncomputable def o134 (_ : Params) : Obj := ⟨(.type "code"), none, (.fields #[(.str (Str.ofString "less") 450), (.str (Str.ofString "Whitespace.less") 451), (.str (Str.ofString "/claim/cut.py") 452), (.int 85 0), (.int 2 0), (.int 0 0), (.int 0 0), (.int 3 0), (.ref 129), (.bool true), (.int 276 0), (.ref 130), .none, (.ref 131), (.ref 132), (.ref 133), (.int 455 0), (.int 85 0), (.str (Str.ofString "/claim/cut.py") 456)]), #[]⟩
noncomputable def o135 (_ : Params) : Obj := ⟨(.type "function"), none, (.func { name := (Str.ofString "less"), qualname := (Str.ofString "Whitespace.less"), params := fnArgs (stc 11 6), body := .stmts (fnBody (stc 11 6)), scope := fnScope (stc 11 6), globals := 3, closure := [], defaults := .none, kwdefaults := .none, doc := .none, pyModule := (.str (Str.ofString "cpy313.tabnanny") 385), annotations := none, code := (.ref 134), closureTuple := .none, builtins := 0 }), #[]⟩
noncomputable def o136 (_ : Params) : Obj := ⟨(.type "tuple"), none, (.seq #[] 0), #[]⟩
noncomputable def o138 (_ : Params) : Obj := ⟨(.type "tuple"), none, (.seq #[(.str (Str.ofString "self") 461), (.str (Str.ofString "other") 462)] 0), #[]⟩
noncomputable def o139 (_ : Params) : Obj := ⟨(.type "tuple"), none, (.seq #[] 0), #[]⟩
noncomputable def o141 (_ : Params) : Obj := ⟨(.type "code"), none, (.fields #[(.str (Str.ofString "not_less_witness") 458), (.str (Str.ofString "Whitespace.not_less_witness") 459), (.str (Str.ofString "/claim/cut.py") 460), (.int 88 0), (.int 2 0), (.int 0 0), (.int 0 0), (.int 3 0), (.ref 136), (.bool true), (.int 276 0), (.ref 137), .none, (.ref 138), (.ref 139), (.ref 140), (.int 463 0), (.int 88 0), (.str (Str.ofString "/claim/cut.py") 464)]), #[]⟩
noncomputable def o142 (_ : Params) : Obj := ⟨(.type "function"), none, (.func { name := (Str.ofString "not_less_witness"), qualname := (Str.ofString "Whitespace.not_less_witness"), params := fnArgs (stc 11 7), body := .stmts (fnBody (stc 11 7)), scope := fnScope (stc 11 7), globals := 3, closure := [], defaults := .none, kwdefaults := .none, doc := .none, pyModule := (.str (Str.ofString "cpy313.tabnanny") 385), annotations := none, code := (.ref 141), closureTuple := .none, builtins := 0 }), #[]⟩
noncomputable def o143 (_ : Params) : Obj := ⟨(.type "tuple"), none, (.seq #[(.str (Str.ofString "is_simple") 466), (.str (Str.ofString "n") 467), (.str (Str.ofString "norm") 468), (.str (Str.ofString "nt") 469), (.str (Str.ofString "raw") 470)] 0), #[]⟩
noncomputable def o144 (P : Params) : Obj := ⟨(.type "dict"), none, (.dict #[⟨PyData.keyHash P (Str.ofString "__module__"), .str (Str.ofString "__module__") 394, (.str (Str.ofString "cpy313.tabnanny") 385)⟩, ⟨PyData.keyHash P (Str.ofString "__firstlineno__"), .str (Str.ofString "__firstlineno__") 398, (.int 47 397)⟩, ⟨PyData.keyHash P (Str.ofString "S"), .str (Str.ofString "S") 402, (.str (Str.ofString " ") 400)⟩, ⟨PyData.keyHash P (Str.ofString "T"), .str (Str.ofString "T") 403, (.str ⟨#[9]⟩ 401)⟩, ⟨PyData.keyHash P (Str.ofString "__init__"), .str (Str.ofString "__init__") 418, (.ref 100)⟩, ⟨PyData.keyHash P (Str.ofString "longest_run_of_spaces"), .str (Str.ofString "longest_run_of_spaces") 425, (.ref 107)⟩, ⟨PyData.keyHash P (Str.ofString "indent_level"), .str (Str.ofString "indent_level") 433, (.ref 114)⟩, ⟨PyData.keyHash P (Str.ofString "equal"), .str (Str.ofString "equal") 441, (.ref 121)⟩, ⟨PyData.keyHash P (Str.ofString "not_equal_witness"), .str (Str.ofString "not_equal_witness") 449, (.ref 128)⟩, ⟨PyData.keyHash P (Str.ofString "less"), .str (Str.ofString "less") 457, (.ref 135)⟩, ⟨PyData.keyHash P (Str.ofString "not_less_witness"), .str (Str.ofString "not_less_witness") 465, (.ref 142)⟩, ⟨PyData.keyHash P (Str.ofString "__static_attributes__"), .str (Str.ofString "__static_attributes__") 471, (.ref 143)⟩, ⟨PyData.keyHash P (Str.ofString "__dict__"), .str (Str.ofString "__dict__") 473, (.ref 146)⟩, ⟨PyData.keyHash P (Str.ofString "__weakref__"), .str (Str.ofString "__weakref__") 475, (.ref 147)⟩, ⟨PyData.keyHash P (Str.ofString "__doc__"), .str (Str.ofString "__doc__") 476, .none⟩] 4), #[]⟩
noncomputable def o145 (_ : Params) : Obj := ⟨(.type "type"), none, (.cls { name := (Str.ofString "Whitespace"), bases := [(.type "object")], mro := [(.ref 145), (.type "object")], ns := 144, qualname := (Str.ofString "Whitespace"), hasDict := true, slotNames := [], subclasses := [], abstract := false, collection := none, hasDel := false }), #[none, none, (some (.str (Str.ofString "Whitespace") 387)), (some (.str (Str.ofString "Whitespace") 395)), (some (.builtin "object.__new__")), (some (.bool true))]⟩
noncomputable def o146 (_ : Params) : Obj := ⟨(.type "getset_descriptor"), none, (.fields #[(.str (Str.ofString "__dict__") 472), (.ref 145), (.builtin "function.__dict__"), (.builtin "function.__dict__#set")]), #[]⟩
noncomputable def o147 (_ : Params) : Obj := ⟨(.type "getset_descriptor"), none, (.fields #[(.str (Str.ofString "__weakref__") 474), (.ref 145), (.builtin "ExceptionGroup.__weakref__"), .none]), #[]⟩
noncomputable def o153 (_ : Params) : Obj := ⟨(.type "tuple"), none, (.seq #[(.int 14 0), (.int 10 0), (.int 4 0), (.int 1 0), (.int 1 0), (.int 22 0), (.int 0 0), (.int 31 0), (.int 16 0), (.int 127 0), (.int 0 0), (.int 13 0), (.int 7 0), (.int 22 0), (.int 0 0), (.int 31 0), (.int 16 0), (.int 127 0), (.int 0 0), (.int 1 0)] 0), #[]⟩
noncomputable def o154 (_ : Params) : Obj := ⟨(.type "re.Pattern"), none, (.fields #[(.str (Str.ofString "[\\x00-\\x1F\\x7F]") 482), (.int 32 505), (.int 0 0), .none, .none, (.ref 153), (.int 0 0)]), #[]⟩
noncomputable def o158 (_ : Params) : Obj := ⟨(.type "tuple"), none, (.seq #[(.int 14 0), (.int 14 0), (.int 4 0), (.int 1 0), (.int 1 0), (.int 9 0), (.int 4294966783 0), (.int 0 0), (.int 0 0), (.int 2147483648 0), (.int 0 0), (.int 0 0), (.int 0 0), (.int 0 0), (.int 0 0), (.int 13 0), (.int 11 0), (.int 9 0), (.int 4294966783 0), (.int 0 0), (.int 0 0), (.int 2147483648 0), (.int 0 0), (.int 0 0), (.int 0 0), (.int 0 0), (.int 0 0), (.int 1 0)] 0), #[]⟩
noncomputable def o159 (_ : Params) : Obj := ⟨(.type "re.Pattern"), none, (.fields #[(.str (Str.ofString "[\\x00-\\x08\\x0A-\\x1F\\x7F]") 508), (.int 32 539), (.int 0 0), .none, .none, (.ref 158), (.int 0 0)]), #[]⟩
noncomputable def o167 (_ : Params) : Obj := ⟨(.type "tuple"), none, (.seq #[.none] 0), #[]⟩
noncomputable def o168 (_ : Params) : Obj := ⟨(.type "tuple"), none, (.seq #[] 0), #[]⟩
noncomputable def o170 (_ : Params) : Obj := ⟨(.type "tuple"), none, (.seq #[(.str (Str.ofString "self") 556), (.str (Str.ofString "headers") 557), (.str (Str.ofString "k") 558), (.str (Str.ofString "v") 559)] 0), #[]⟩
noncomputable def o171 (_ : Params) : Obj := ⟨(.type "tuple"), none, (.seq #[] 0), #[]⟩
noncomputable def o173 (_ : Params) : Obj := ⟨(.type "code"), none, (.fields #[(.str (Str.ofString "__init__") 553), (.str (Str.ofString "Headers.__init__") 554), (.str (Str.ofString "/claim/cut.py") 555), (.int 95 0), (.int 2 0), (.int 0 0), (.int 0 0), (.int 3 0), (.ref 168), (.bool true), (.int 276 0), (.ref 169), .none, (.ref 170), (.ref 171), (.ref 172), (.int 560 0), (.int 95 0), (.str (Str.ofString "/claim/cut.py") 561)]), #[]⟩
noncomputable def o174 (_ : Params) : Obj := ⟨(.type "function"), none, (.func { name := (Str.ofString "__init__"), qualname := (Str.ofString "Headers.__init__"), params := fnArgs (stc 15 0), body := .stmts (fnBody (stc 15 0)), scope := fnScope (stc 15 0), globals := 3, closure := [], defaults := (.ref 167), kwdefaults := .none, doc := .none, pyModule := (.str (Str.ofString "cpy313.wsgiref.headers") 479), annotations := none, code := (.ref 173), closureTuple := .none, builtins := 0 }), #[]⟩
noncomputable def o175 (_ : Params) : Obj := ⟨(.type "tuple"), none, (.seq #[] 0), #[]⟩
noncomputable def o177 (_ : Params) : Obj := ⟨(.type "tuple"), none, (.seq #[(.str (Str.ofString "self") 566), (.str (Str.ofString "value") 567), (.str (Str.ofString "name") 568), (.str (Str.ofString "regex") 569)] 0), #[]⟩
noncomputable def o178 (_ : Params) : Obj := ⟨(.type "tuple"), none, (.seq #[] 0), #[]⟩
noncomputable def o180 (_ : Params) : Obj := ⟨(.type "code"), none, (.fields #[(.str (Str.ofString "_convert_string_type") 563), (.str (Str.ofString "Headers._convert_string_type") 564), (.str (Str.ofString "/claim/cut.py") 565), (.int 105 0), (.int 2 0), (.int 0 0), (.int 1 0), (.int 3 0), (.ref 175), (.bool true), (.int 276 0), (.ref 176), .none, (.ref 177), (.ref 178), (.ref 179), (.int 570 0), (.int 105 0), (.str (Str.ofString "/claim/cut.py") 571)]), #[]⟩
noncomputable def o181 (_ : Params) : Obj := ⟨(.type "function"), none, (.func { name := (Str.ofString "_convert_string_type"), qualname := (Str.ofString "Headers._convert_string_type"), params := fnArgs (stc 15 1), body := .stmts (fnBody (stc 15 1)), scope := fnScope (stc 15 1), globals := 3, closure := [], defaults := .none, kwdefaults := .none, doc := .none, pyModule := (.str (Str.ofString "cpy313.wsgiref.headers") 479), annotations := none, code := (.ref 180), closureTuple := .none, builtins := 0 }), #[]⟩
noncomputable def o182 (_ : Params) : Obj := ⟨(.type "tuple"), none, (.seq #[] 0), #[]⟩
noncomputable def o184 (_ : Params) : Obj := ⟨(.type "tuple"), none, (.seq #[(.str (Str.ofString "self") 576)] 0), #[]⟩
noncomputable def o185 (_ : Params) : Obj := ⟨(.type "tuple"), none, (.seq #[] 0), #[]⟩
noncomputable def o187 (_ : Params) : Obj := ⟨(.type "code"), none, (.fields #[(.str (Str.ofString "__len__") 573), (.str (Str.ofString "Headers.__len__") 574), (.str (Str.ofString "/claim/cut.py") 575), (.int 113 0), (.int 1 0), (.int 0 0), (.int 0 0), (.int 3 0), (.ref 182), (.bool true), (.int 276 0), (.ref 183), .none, (.ref 184), (.ref 185), (.ref 186), (.int 577 0), (.int 113 0), (.str (Str.ofString "/claim/cut.py") 578)]), #[]⟩
noncomputable def o188 (_ : Params) : Obj := ⟨(.type "function"), none, (.func { name := (Str.ofString "__len__"), qualname := (Str.ofString "Headers.__len__"), params := fnArgs (stc 15 2), body := .stmts (fnBody (stc 15 2)), scope := fnScope (stc 15 2), globals := 3, closure := [], defaults := .none, kwdefaults := .none, doc := .none, pyModule := (.str (Str.ofString "cpy313.wsgiref.headers") 479), annotations := none, code := (.ref 187), closureTuple := .none, builtins := 0 }), #[]⟩
noncomputable def o189 (_ : Params) : Obj := ⟨(.type "tuple"), none, (.seq #[] 0), #[]⟩
noncomputable def o191 (_ : Params) : Obj := ⟨(.type "tuple"), none, (.seq #[(.str (Str.ofString "self") 583), (.str (Str.ofString "name") 584), (.str (Str.ofString "val") 585)] 0), #[]⟩
noncomputable def o192 (_ : Params) : Obj := ⟨(.type "tuple"), none, (.seq #[] 0), #[]⟩
noncomputable def o194 (_ : Params) : Obj := ⟨(.type "code"), none, (.fields #[(.str (Str.ofString "__setitem__") 580), (.str (Str.ofString "Headers.__setitem__") 581), (.str (Str.ofString "/claim/cut.py") 582), (.int 116 0), (.int 3 0), (.int 0 0), (.int 0 0), (.int 3 0), (.ref 189), (.bool true), (.int 276 0), (.ref 190), .none, (.ref 191), (.ref 192), (.ref 193), (.int 586 0), (.int 116 0), (.str (Str.ofString "/claim/cut.py") 587)]), #[]⟩
noncomputable def o195 (_ : Params) : Obj := ⟨(.type "function"), none, (.func { name := (Str.ofString "__setitem__"), qualname := (Str.ofString "Headers.__setitem__"), params := fnArgs (stc 15 3), body := .stmts (fnBody (stc 15 3)), scope := fnScope (stc 15 3), globals := 3, closure := [], defaults := .none, kwdefaults := .none, doc := .none, pyModule := (.str (Str.ofString "cpy313.wsgiref.headers") 479), annotations := none, code := (.ref 194), closureTuple := .none, builtins := 0 }), #[]⟩
noncomputable def o196 (_ : Params) : Obj := ⟨(.type "tuple"), none, (.seq #[] 0), #[]⟩
noncomputable def o199 (_ : Params) : Obj := ⟨(.type "code"), none, (.fields #[(.str (Str.ofString "__delitem__") 589), (.str (Str.ofString "Headers.__delitem__") 590), (.str (Str.ofString "/claim/cut.py") 591), (.int 120 0), (.int 2 0), (.int 0 0), (.int 0 0), (.int 3 0), (.ref 196), (.bool true), (.int 276 0), (.ref 197), .none, .none, .none, (.ref 198), (.int 592 0), (.int 120 0), (.str (Str.ofString "/claim/cut.py") 593)]), #[]⟩
noncomputable def o200 (_ : Params) : Obj := ⟨(.type "function"), none, (.func { name := (Str.ofString "__delitem__"), qualname := (Str.ofString "Headers.__delitem__"), params := fnArgs (stc 15 4), body := .stmts (fnBody (stc 15 4)), scope := fnScope (stc 15 4), globals := 3, closure := [], defaults := .none, kwdefaults := .none, doc := .none, pyModule := (.str (Str.ofString "cpy313.wsgiref.headers") 479), annotations := none, code := (.ref 199), closureTuple := .none, builtins := 0 }), #[]⟩
noncomputable def o201 (_ : Params) : Obj := ⟨(.type "tuple"), none, (.seq #[] 0), #[]⟩
noncomputable def o203 (_ : Params) : Obj := ⟨(.type "tuple"), none, (.seq #[(.str (Str.ofString "self") 598), (.str (Str.ofString "name") 599)] 0), #[]⟩
noncomputable def o204 (_ : Params) : Obj := ⟨(.type "tuple"), none, (.seq #[] 0), #[]⟩
noncomputable def o206 (_ : Params) : Obj := ⟨(.type "code"), none, (.fields #[(.str (Str.ofString "__getitem__") 595), (.str (Str.ofString "Headers.__getitem__") 596), (.str (Str.ofString "/claim/cut.py") 597), (.int 124 0), (.int 2 0), (.int 0 0), (.int 0 0), (.int 3 0), (.ref 201), (.bool true), (.int 276 0), (.ref 202), .none, (.ref 203), (.ref 204), (.ref 205), (.int 600 0), (.int 124 0), (.str (Str.ofString "/claim/cut.py") 601)]), #[]⟩
noncomputable def o207 (_ : Params) : Obj := ⟨(.type "function"), none, (.func { name := (Str.ofString "__getitem__"), qualname := (Str.ofString "Headers.__getitem__"), params := fnArgs (stc 15 5), body := .stmts (fnBody (stc 15 5)), scope := fnScope (stc 15 5), globals := 3, closure := [], defaults := .none, kwdefaults := .none, doc := .none, pyModule := (.str (Str.ofString "cpy313.wsgiref.headers") 479), annotations := none, code := (.ref 206), closureTuple := .none, builtins := 0 }), #[]⟩
noncomputable def o208 (_ : Params) : Obj := ⟨(.type "tuple"), none, (.seq #[] 0), #[]⟩
noncomputable def o210 (_ : Params) : Obj := ⟨(.type "tuple"), none, (.seq #[(.str (Str.ofString "self") 606), (.str (Str.ofString "name") 607)] 0), #[]⟩
noncomputable def o211 (_ : Params) : Obj := ⟨(.type "tuple"), none, (.seq #[] 0), #[]⟩
noncomputable def o213 (_ : Params) : Obj := ⟨(.type "code"), none, (.fields #[(.str (Str.ofString "__contains__") 603), (.str (Str.ofString "Headers.__contains__") 604), (.str (Str.ofString "/claim/cut.py") 605), (.int 127 0), (.int 2 0), (.int 0 0), (.int 0 0), (.int 3 0), (.ref 208), (.bool true), (.int 276 0), (.ref 209), .none, (.ref 210), (.ref 211), (.ref 212), (.int 608 0), (.int 127 0), (.str (Str.ofString "/claim/cut.py") 609)]), #[]⟩
noncomputable def o214 (_ : Params) : Obj := ⟨(.type "function"), none, (.func { name := (Str.ofString "__contains__"), qualname := (Str.ofString "Headers.__contains__"), params := fnArgs (stc 15 6), body := .stmts (fnBody (stc 15 6)), scope := fnScope (stc 15 6), globals := 3, closure := [], defaults := .none, kwdefaults := .none, doc := .none, pyModule := (.str (Str.ofString "cpy313.wsgiref.headers") 479), annotations := none, code := (.ref 213), closureTuple := .none, builtins := 0 }), #[]⟩
noncomputable def o215 (_ : Params) : Obj := ⟨(.type "tuple"), none, (.seq #[] 0), #[]⟩
noncomputable def o217 (_ : Params) : Obj := ⟨(.type "tuple"), none, (.seq #[(.str (Str.ofString "self") 614), (.str (Str.ofString "name") 615)] 0), #[]⟩
noncomputable def o218 (_ : Params) : Obj := ⟨(.type "tuple"), none, (.seq #[] 0), #[]⟩
noncomputable def o220 (_ : Params) : Obj := ⟨(.type "code"), none, (.fields #[(.str (Str.ofString "get_all") 611), (.str (Str.ofString "Headers.get_all") 612), (.str (Str.ofString "/claim/cut.py") 613), (.int 130 0), (.int 2 0), (.int 0 0), (.int 0 0), (.int 3 0), (.ref 215), (.bool true), (.int 276 0), (.ref 216), .none, (.ref 217), (.ref 218), (.ref 219), (.int 616 0), (.int 130 0), (.str (Str.ofString "/claim/cut.py") 617)]), #[]⟩
noncomputable def o221 (_ : Params) : Obj := ⟨(.type "function"), none, (.func { name := (Str.ofString "get_all"), qualname := (Str.ofString "Headers.get_all"), params := fnArgs (stc 15 7), body := .stmts (fnBody (stc 15 7)), scope := fnScope (stc 15 7), globals := 3, closure := [], defaults := .none, kwdefaults := .none, doc := .none, pyModule := (.str (Str.ofString "cpy313.wsgiref.headers") 479), annotations := none, code := (.ref 220), closureTuple := .none, builtins := 0 }), #[]⟩
noncomputable def o222 (_ : Params) : Obj := ⟨(.type "tuple"), none, (.seq #[.none] 0), #[]⟩
noncomputable def o223 (_ : Params) : Obj := ⟨(.type "tuple"), none, (.seq #[] 0), #[]⟩
noncomputable def o225 (_ : Params) : Obj := ⟨(.type "tuple"), none, (.seq #[(.str (Str.ofString "self") 622), (.str (Str.ofString "name") 623), (.str (Str.ofString "default") 624), (.str (Str.ofString "k") 625), (.str (Str.ofString "v") 626)] 0), #[]⟩
noncomputable def o226 (_ : Params) : Obj := ⟨(.type "tuple"), none, (.seq #[] 0), #[]⟩
noncomputable def o228 (_ : Params) : Obj := ⟨(.type "code"), none, (.fields #[(.str (Str.ofString "get") 619), (.str (Str.ofString "Headers.get") 620), (.str (Str.ofString "/claim/cut.py") 621), (.int 133 0), (.int 3 0), (.int 0 0), (.int 0 0), (.int 3 0), (.ref 223), (.bool true), (.int 276 0), (.ref 224), .none, (.ref 225), (.ref 226), (.ref 227), (.int 627 0), (.int 133 0), (.str (Str.ofString "/claim/cut.py") 628)]), #[]⟩
noncomputable def o229 (_ : Params) : Obj := ⟨(.type "function"), none, (.func { name := (Str.ofString "get"), qualname := (Str.ofString "Headers.get"), params := fnArgs (stc 15 8), body := .stmts (fnBody (stc 15 8)), scope := fnScope (stc 15 8), globals := 3, closure := [], defaults := (.ref 222), kwdefaults := .none, doc := .none, pyModule := (.str (Str.ofString "cpy313.wsgiref.headers") 479), annotations := none, code := (.ref 228), closureTuple := .none, builtins := 0 }), #[]⟩
noncomputable def o230 (_ : Params) : Obj := ⟨(.type "tuple"), none, (.seq #[] 0), #[]⟩
noncomputable def o233 (_ : Params) : Obj := ⟨(.type "code"), none, (.fields #[(.str (Str.ofString "keys") 630), (.str (Str.ofString "Headers.keys") 631), (.str (Str.ofString "/claim/cut.py") 632), (.int 140 0), (.int 1 0), (.int 0 0), (.int 0 0), (.int 3 0), (.ref 230), (.bool true), (.int 276 0), (.ref 231), .none, .none, .none, (.ref 232), (.int 633 0), (.int 140 0), (.str (Str.ofString "/claim/cut.py") 634)]), #[]⟩
noncomputable def o234 (_ : Params) : Obj := ⟨(.type "function"), none, (.func { name := (Str.ofString "keys"), qualname := (Str.ofString "Headers.keys"), params := fnArgs (stc 15 9), body := .stmts (fnBody (stc 15 9)), scope := fnScope (stc 15 9), globals := 3, closure := [], defaults := .none, kwdefaults := .none, doc := .none, pyModule := (.str (Str.ofString "cpy313.wsgiref.headers") 479), annotations := none, code := (.ref 233), closureTuple := .none, builtins := 0 }), #[]⟩
noncomputable def o235 (_ : Params) : Obj := ⟨(.type "tuple"), none, (.seq #[] 0), #[]⟩
noncomputable def o238 (_ : Params) : Obj := ⟨(.type "code"), none, (.fields #[(.str (Str.ofString "values") 636), (.str (Str.ofString "Headers.values") 637), (.str (Str.ofString "/claim/cut.py") 638), (.int 143 0), (.int 1 0), (.int 0 0), (.int 0 0), (.int 3 0), (.ref 235), (.bool true), (.int 276 0), (.ref 236), .none, .none, .none, (.ref 237), (.int 639 0), (.int 143 0), (.str (Str.ofString "/claim/cut.py") 640)]), #[]⟩
noncomputable def o239 (_ : Params) : Obj := ⟨(.type "function"), none, (.func { name := (Str.ofString "values"), qualname := (Str.ofString "Headers.values"), params := fnArgs (stc 15 10), body := .stmts (fnBody (stc 15 10)), scope := fnScope (stc 15 10), globals := 3, closure := [], defaults := .none, kwdefaults := .none, doc := .none, pyModule := (.str (Str.ofString "cpy313.wsgiref.headers") 479), annotations := none, code := (.ref 238), closureTuple := .none, builtins := 0 }), #[]⟩
noncomputable def o240 (_ : Params) : Obj := ⟨(.type "tuple"), none, (.seq #[] 0), #[]⟩
noncomputable def o242 (_ : Params) : Obj := ⟨(.type "tuple"), none, (.seq #[(.str (Str.ofString "self") 645)] 0), #[]⟩
noncomputable def o243 (_ : Params) : Obj := ⟨(.type "tuple"), none, (.seq #[] 0), #[]⟩
noncomputable def o245 (_ : Params) : Obj := ⟨(.type "code"), none, (.fields #[(.str (Str.ofString "items") 642), (.str (Str.ofString "Headers.items") 643), (.str (Str.ofString "/claim/cut.py") 644), (.int 146 0), (.int 1 0), (.int 0 0), (.int 0 0), (.int 3 0), (.ref 240), (.bool true), (.int 276 0), (.ref 241), .none, (.ref 242), (.ref 243), (.ref 244), (.int 646 0), (.int 146 0), (.str (Str.ofString "/claim/cut.py") 647)]), #[]⟩
noncomputable def o246 (_ : Params) : Obj := ⟨(.type "function"), none, (.func { name := (Str.ofString "items"), qualname := (Str.ofString "Headers.items"), params := fnArgs (stc 15 11), body := .stmts (fnBody (stc 15 11)), scope := fnScope (stc 15 11), globals := 3, closure := [], defaults := .none, kwdefaults := .none, doc := .none, pyModule := (.str (Str.ofString "cpy313.wsgiref.headers") 479), annotations := none, code := (.ref 245), closureTuple := .none, builtins := 0 }), #[]⟩
noncomputable def o247 (_ : Params) : Obj := ⟨(.type "tuple"), none, (.seq #[] 0), #[]⟩
noncomputable def o249 (_ : Params) : Obj := ⟨(.type "tuple"), none, (.seq #[(.str (Str.ofString "self") 652)] 0), #[]⟩
noncomputable def o250 (_ : Params) : Obj := ⟨(.type "tuple"), none, (.seq #[] 0), #[]⟩
noncomputable def o252 (_ : Params) : Obj := ⟨(.type "code"), none, (.fields #[(.str (Str.ofString "__repr__") 649), (.str (Str.ofString "Headers.__repr__") 650), (.str (Str.ofString "/claim/cut.py") 651), (.int 149 0), (.int 1 0), (.int 0 0), (.int 0 0), (.int 3 0), (.ref 247), (.bool true), (.int 276 0), (.ref 248), .none, (.ref 249), (.ref 250), (.ref 251), (.int 653 0), (.int 149 0), (.str (Str.ofString "/claim/cut.py") 654)]), #[]⟩
noncomputable def o253 (_ : Params) : Obj := ⟨(.type "function"), none, (.func { name := (Str.ofString "__repr__"), qualname := (Str.ofString "Headers.__repr__"), params := fnArgs (stc 15 12), body := .stmts (fnBody (stc 15 12)), scope := fnScope (stc 15 12), globals := 3, closure := [], defaults := .none, kwdefaults := .none, doc := .none, pyModule := (.str (Str.ofString "cpy313.wsgiref.headers") 479), annotations := none, code := (.ref 252), closureTuple := .none, builtins := 0 }), #[]⟩
noncomputable def o254 (_ : Params) : Obj := ⟨(.type "tuple"), none, (.seq #[] 0), #[]⟩
noncomputable def o257 (_ : Params) : Obj := ⟨(.type "code"), none, (.fields #[(.str (Str.ofString "__str__") 656), (.str (Str.ofString "Headers.__str__") 657), (.str (Str.ofString "/claim/cut.py") 658), (.int 152 0), (.int 1 0), (.int 0 0), (.int 0 0), (.int 3 0), (.ref 254), (.bool true), (.int 276 0), (.ref 255), .none, .none, .none, (.ref 256), (.int 659 0), (.int 152 0), (.str (Str.ofString "/claim/cut.py") 660)]), #[]⟩
noncomputable def o258 (_ : Params) : Obj := ⟨(.type "function"), none, (.func { name := (Str.ofString "__str__"), qualname := (Str.ofString "Headers.__str__"), params := fnArgs (stc 15 13), body := .stmts (fnBody (stc 15 13)), scope := fnScope (stc 15 13), globals := 3, closure := [], defaults := .none, kwdefaults := .none, doc := .none, pyModule := (.str (Str.ofString "cpy313.wsgiref.headers") 479), annotations := none, code := (.ref 257), closureTuple := .none, builtins := 0 }), #[]⟩
noncomputable def o259 (_ : Params) : Obj := ⟨(.type "tuple"), none, (.seq #[] 0), #[]⟩
noncomputable def o261 (_ : Params) : Obj := ⟨(.type "tuple"), none, (.seq #[(.str (Str.ofString "self") 665)] 0), #[]⟩
noncomputable def o262 (_ : Params) : Obj := ⟨(.type "tuple"), none, (.seq #[] 0), #[]⟩
noncomputable def o264 (_ : Params) : Obj := ⟨(.type "code"), none, (.fields #[(.str (Str.ofString "__bytes__") 662), (.str (Str.ofString "Headers.__bytes__") 663), (.str (Str.ofString "/claim/cut.py") 664), (.int 155 0), (.int 1 0), (.int 0 0), (.int 0 0), (.int 3 0), (.ref 259), (.bool true), (.int 276 0), (.ref 260), .none, (.ref 261), (.ref 262), (.ref 263), (.int 666 0), (.int 155 0), (.str (Str.ofString "/claim/cut.py") 667)]), #[]⟩
noncomputable def o265 (_ : Params) : Obj := ⟨(.type "function"), none, (.func { name := (Str.ofString "__bytes__"), qualname := (Str.ofString "Headers.__bytes__"), params := fnArgs (stc 15 14), body := .stmts (fnBody (stc 15 14)), scope := fnScope (stc 15 14), globals := 3, closure := [], defaults := .none, kwdefaults := .none, doc := .none, pyModule := (.str (Str.ofString "cpy313.wsgiref.headers") 479), annotations := none, code := (.ref 264), closureTuple := .none, builtins := 0 }), #[]⟩
noncomputable def o266 (_ : Params) : Obj := ⟨(.type "tuple"), none, (.seq #[] 0), #[]⟩
noncomputable def o268 (_ : Params) : Obj := ⟨(.type "tuple"), none, (.seq #[(.str (Str.ofString "self") 672), (.str (Str.ofString "name") 673), (.str (Str.ofString "value") 674), (.str (Str.ofString "result") 675)] 0), #[]⟩
noncomputable def o269 (_ : Params) : Obj := ⟨(.type "tuple"), none, (.seq #[] 0), #[]⟩
noncomputable def o271 (_ : Params) : Obj := ⟨(.type "code"), none, (.fields #[(.str (Str.ofString "setdefault") 669), (.str (Str.ofString "Headers.setdefault") 670), (.str (Str.ofString "/claim/cut.py") 671), (.int 158 0), (.int 3 0), (.int 0 0), (.int 0 0), (.int 3 0), (.ref 266), (.bool true), (.int 276 0), (.ref 267), .none, (.ref 268), (.ref 269), (.ref 270), (.int 676 0), (.int 158 0), (.str (Str.ofString "/claim/cut.py") 677)]), #[]⟩
noncomputable def o272 (_ : Params) : Obj := ⟨(.type "function"), none, (.func { name := (Str.ofString "setdefault"), qualname := (Str.ofString "Headers.setdefault"), params := fnArgs (stc 15 15), body := .stmts (fnBody (stc 15 15)), scope := fnScope (stc 15 15), globals := 3, closure := [], defaults := .none, kwdefaults := .none, doc := .none, pyModule := (.str (Str.ofString "cpy313.wsgiref.headers") 479), annotations := none, code := (.ref 271), closureTuple := .none, builtins := 0 }), #[]⟩
noncomputable def o273 (_ : Params) : Obj := ⟨(.type "tuple"), none, (.seq #[] 0), #[]⟩
noncomputable def o275 (_ : Params) : Obj := ⟨(.type "tuple"), none, (.seq #[(.str (Str.ofString "self") 682), (.str (Str.ofString "_name") 683), (.str (Str.ofString "_value") 684), (.str (Str.ofString "_params") 685)] 0), #[]⟩
noncomputable def o276 (_ : Params) : Obj := ⟨(.type "tuple"), none, (.seq #[] 0), #[]⟩
noncomputable def o278 (_ : Params) : Obj := ⟨(.type "code"), none, (.fields #[(.str (Str.ofString "add_header") 679), (.str (Str.ofString "Headers.add_header") 680), (.str (Str.ofString "/claim/cut.py") 681), (.int 166 0), (.int 3 0), (.int 0 0), (.int 0 0), (.int 11 0), (.ref 273), (.bool true), (.int 276 0), (.ref 274), .none, (.ref 275), (.ref 276), (.ref 277), (.int 686 0), (.int 166 0), (.str (Str.ofString "/claim/cut.py") 687)]), #[]⟩
noncomputable def o279 (_ : Params) : Obj := ⟨(.type "function"), none, (.func { name := (Str.ofString "add_header"), qualname := (Str.ofString "Headers.add_header"), params := fnArgs (stc 15 16), body := .stmts (fnBody (stc 15 16)), scope := fnScope (stc 15 16), globals := 3, closure := [], defaults := .none, kwdefaults := .none, doc := .none, pyModule := (.str (Str.ofString "cpy313.wsgiref.headers") 479), annotations := none, code := (.ref 278), closureTuple := .none, builtins := 0 }), #[]⟩
noncomputable def o280 (_ : Params) : Obj := ⟨(.type "tuple"), none, (.seq #[(.str (Str.ofString "_headers") 689)] 0), #[]⟩
noncomputable def o281 (P : Params) : Obj := ⟨(.type "dict"), none, (.dict #[⟨PyData.keyHash P (Str.ofString "__module__"), .str (Str.ofString "__module__") 548, (.str (Str.ofString "cpy313.wsgiref.headers") 479)⟩, ⟨PyData.keyHash P (Str.ofString "__firstlineno__"), .str (Str.ofString "__firstlineno__") 552, (.int 93 551)⟩, ⟨PyData.keyHash P (Str.ofString "__init__"), .str (Str.ofString "__init__") 562, (.ref 174)⟩, ⟨PyData.keyHash P (Str.ofString "_convert_string_type"), .str (Str.ofString "_convert_string_type") 572, (.ref 181)⟩, ⟨PyData.keyHash P (Str.ofString "__len__"), .str (Str.ofString "__len__") 579, (.ref 188)⟩, ⟨PyData.keyHash P (Str.ofString "__setitem__"), .str (Str.ofString "__setitem__") 588, (.ref 195)⟩, ⟨PyData.keyHash P (Str.ofString "__delitem__"), .str (Str.ofString "__delitem__") 594, (.ref 200)⟩, ⟨PyData.keyHash P (Str.ofString "__getitem__"), .str (Str.ofString "__getitem__") 602, (.ref 207)⟩, ⟨PyData.keyHash P (Str.ofString "__contains__"), .str (Str.ofString "__contains__") 610, (.ref 214)⟩, ⟨PyData.keyHash P (Str.ofString "get_all"), .str (Str.ofString "get_all") 618, (.ref 221)⟩, ⟨PyData.keyHash P (Str.ofString "get"), .str (Str.ofString "get") 629, (.ref 229)⟩, ⟨PyData.keyHash P (Str.ofString "keys"), .str (Str.ofString "keys") 635, (.ref 234)⟩, ⟨PyData.keyHash P (Str.ofString "values"), .str (Str.ofString "values") 641, (.ref 239)⟩, ⟨PyData.keyHash P (Str.ofString "items"), .str (Str.ofString "items") 648, (.ref 246)⟩, ⟨PyData.keyHash P (Str.ofString "__repr__"), .str (Str.ofString "__repr__") 655, (.ref 253)⟩, ⟨PyData.keyHash P (Str.ofString "__str__"), .str (Str.ofString "__str__") 661, (.ref 258)⟩, ⟨PyData.keyHash P (Str.ofString "__bytes__"), .str (Str.ofString "__bytes__") 668, (.ref 265)⟩, ⟨PyData.keyHash P (Str.ofString "setdefault"), .str (Str.ofString "setdefault") 678, (.ref 272)⟩, ⟨PyData.keyHash P (Str.ofString "add_header"), .str (Str.ofString "add_header") 688, (.ref 279)⟩, ⟨PyData.keyHash P (Str.ofString "__static_attributes__"), .str (Str.ofString "__static_attributes__") 690, (.ref 280)⟩, ⟨PyData.keyHash P (Str.ofString "__dict__"), .str (Str.ofString "__dict__") 692, (.ref 283)⟩, ⟨PyData.keyHash P (Str.ofString "__weakref__"), .str (Str.ofString "__weakref__") 694, (.ref 284)⟩, ⟨PyData.keyHash P (Str.ofString "__doc__"), .str (Str.ofString "__doc__") 695, .none⟩] 4), #[]⟩
noncomputable def o282 (_ : Params) : Obj := ⟨(.type "type"), none, (.cls { name := (Str.ofString "Headers"), bases := [(.type "object")], mro := [(.ref 282), (.type "object")], ns := 281, qualname := (Str.ofString "Headers"), hasDict := true, slotNames := [], subclasses := [], abstract := false, collection := none, hasDel := false }), #[none, none, (some (.str (Str.ofString "Headers") 541)), (some (.str (Str.ofString "Headers") 549)), (some (.builtin "object.__new__")), (some (.bool true))]⟩
noncomputable def o283 (_ : Params) : Obj := ⟨(.type "getset_descriptor"), none, (.fields #[(.str (Str.ofString "__dict__") 691), (.ref 282), (.builtin "function.__dict__"), (.builtin "function.__dict__#set")]), #[]⟩
noncomputable def o284 (_ : Params) : Obj := ⟨(.type "getset_descriptor"), none, (.fields #[(.str (Str.ofString "__weakref__") 693), (.ref 282), (.builtin "ExceptionGroup.__weakref__"), .none]), #[]⟩
noncomputable def o287 (_ : Params) : Obj := ⟨(.type "tuple"), none, (.seq #[] 0), #[]⟩
noncomputable def o290 (_ : Params) : Obj := ⟨(.type "code"), none, (.fields #[(.str (Str.ofString "_law_cells") 700), (.str (Str.ofString "_law_cells") 701), (.str (Str.ofString "/claim/cut.py") 702), (.int 169 0), (.int 1 0), (.int 0 0), (.int 0 0), (.int 3 0), (.ref 287), (.bool true), (.int 276 0), (.ref 288), .none, .none, .none, (.ref 289), (.int 703 0), (.int 169 0), (.str (Str.ofString "/claim/cut.py") 704)]), #[]⟩
noncomputable def o291 (_ : Params) : Obj := ⟨(.type "function"), none, (.func { name := (Str.ofString "_law_cells"), qualname := (Str.ofString "_law_cells"), params := fnArgs (st 17), body := .stmts (fnBody (st 17)), scope := fnScope (st 17), globals := 3, closure := [], defaults := .none, kwdefaults := .none, doc := .none, pyModule := (.str (Str.ofString "law_tp0056_01") 698), annotations := none, code := (.ref 290), closureTuple := .none, builtins := 0 }), #[]⟩
noncomputable def o292 (_ : Params) : Obj := ⟨(.type "tuple"), none, (.seq #[] 0), #[]⟩
noncomputable def o295 (_ : Params) : Obj := ⟨(.type "code"), none, (.fields #[(.str (Str.ofString "_law_row") 706), (.str (Str.ofString "_law_row") 707), (.str (Str.ofString "/claim/cut.py") 708), (.int 172 0), (.int 2 0), (.int 0 0), (.int 0 0), (.int 3 0), (.ref 292), (.bool true), (.int 276 0), (.ref 293), .none, .none, .none, (.ref 294), (.int 709 0), (.int 172 0), (.str (Str.ofString "/claim/cut.py") 710)]), #[]⟩
noncomputable def o296 (_ : Params) : Obj := ⟨(.type "function"), none, (.func { name := (Str.ofString "_law_row"), qualname := (Str.ofString "_law_row"), params := fnArgs (st 18), body := .stmts (fnBody (st 18)), scope := fnScope (st 18), globals := 3, closure := [], defaults := .none, kwdefaults := .none, doc := .none, pyModule := (.str (Str.ofString "law_tp0056_01") 698), annotations := none, code := (.ref 295), closureTuple := .none, builtins := 0 }), #[]⟩
noncomputable def o297 (_ : Params) : Obj := ⟨(.type "tuple"), none, (.seq #[] 0), #[]⟩
noncomputable def o299 (_ : Params) : Obj := ⟨(.type "tuple"), none, (.seq #[(.str (Str.ofString "row") 715), (.str (Str.ofString "size") 716), (.str (Str.ofString "home") 717), (.str (Str.ofString "number") 718), (.str (Str.ofString "fronts") 719), (.str (Str.ofString "alone") 720), (.str (Str.ofString "place") 721), (.str (Str.ofString "k") 722), (.str (Str.ofString "front") 723)] 0), #[]⟩
noncomputable def o300 (_ : Params) : Obj := ⟨(.type "tuple"), none, (.seq #[] 0), #[]⟩
noncomputable def o302 (_ : Params) : Obj := ⟨(.type "code"), none, (.fields #[(.str (Str.ofString "_law_round") 712), (.str (Str.ofString "_law_round") 713), (.str (Str.ofString "/claim/cut.py") 714), (.int 177 0), (.int 1 0), (.int 0 0), (.int 0 0), (.int 3 0), (.ref 297), (.bool true), (.int 276 0), (.ref 298), .none, (.ref 299), (.ref 300), (.ref 301), (.int 724 0), (.int 177 0), (.str (Str.ofString "/claim/cut.py") 725)]), #[]⟩
noncomputable def o303 (_ : Params) : Obj := ⟨(.type "function"), none, (.func { name := (Str.ofString "_law_round"), qualname := (Str.ofString "_law_round"), params := fnArgs (st 19), body := .stmts (fnBody (st 19)), scope := fnScope (st 19), globals := 3, closure := [], defaults := .none, kwdefaults := .none, doc := .none, pyModule := (.str (Str.ofString "law_tp0056_01") 698), annotations := none, code := (.ref 302), closureTuple := .none, builtins := 0 }), #[]⟩
noncomputable def o304 (_ : Params) : Obj := ⟨(.type "tuple"), none, (.seq #[] 0), #[]⟩
noncomputable def o306 (_ : Params) : Obj := ⟨(.type "tuple"), none, (.seq #[(.str (Str.ofString "word") 730), (.str (Str.ofString "size") 731), (.str (Str.ofString "alone") 732), (.str (Str.ofString "place") 733), (.str (Str.ofString "turned") 734), (.str (Str.ofString "k") 735)] 0), #[]⟩
noncomputable def o307 (_ : Params) : Obj := ⟨(.type "tuple"), none, (.seq #[] 0), #[]⟩
noncomputable def o309 (_ : Params) : Obj := ⟨(.type "code"), none, (.fields #[(.str (Str.ofString "_law_alone") 727), (.str (Str.ofString "_law_alone") 728), (.str (Str.ofString "/claim/cut.py") 729), (.int 193 0), (.int 1 0), (.int 0 0), (.int 0 0), (.int 3 0), (.ref 304), (.bool true), (.int 276 0), (.ref 305), .none, (.ref 306), (.ref 307), (.ref 308), (.int 736 0), (.int 193 0), (.str (Str.ofString "/claim/cut.py") 737)]), #[]⟩
noncomputable def o310 (_ : Params) : Obj := ⟨(.type "function"), none, (.func { name := (Str.ofString "_law_alone"), qualname := (Str.ofString "_law_alone"), params := fnArgs (st 20), body := .stmts (fnBody (st 20)), scope := fnScope (st 20), globals := 3, closure := [], defaults := .none, kwdefaults := .none, doc := .none, pyModule := (.str (Str.ofString "law_tp0056_01") 698), annotations := none, code := (.ref 309), closureTuple := .none, builtins := 0 }), #[]⟩
noncomputable def o311 (_ : Params) : Obj := ⟨(.type "tuple"), none, (.seq #[] 0), #[]⟩
noncomputable def o314 (_ : Params) : Obj := ⟨(.type "code"), none, (.fields #[(.str (Str.ofString "_law_lead") 739), (.str (Str.ofString "_law_lead") 740), (.str (Str.ofString "/claim/cut.py") 741), (.int 203 0), (.int 1 0), (.int 0 0), (.int 0 0), (.int 3 0), (.ref 311), (.bool true), (.int 276 0), (.ref 312), .none, .none, .none, (.ref 313), (.int 742 0), (.int 203 0), (.str (Str.ofString "/claim/cut.py") 743)]), #[]⟩
noncomputable def o315 (_ : Params) : Obj := ⟨(.type "function"), none, (.func { name := (Str.ofString "_law_lead"), qualname := (Str.ofString "_law_lead"), params := fnArgs (st 21), body := .stmts (fnBody (st 21)), scope := fnScope (st 21), globals := 3, closure := [], defaults := .none, kwdefaults := .none, doc := .none, pyModule := (.str (Str.ofString "law_tp0056_01") 698), annotations := none, code := (.ref 314), closureTuple := .none, builtins := 0 }), #[]⟩
noncomputable def o316 (_ : Params) : Obj := ⟨(.type "tuple"), none, (.seq #[] 0), #[]⟩
noncomputable def o319 (_ : Params) : Obj := ⟨(.type "code"), none, (.fields #[(.str (Str.ofString "_law_run") 745), (.str (Str.ofString "_law_run") 746), (.str (Str.ofString "/claim/cut.py") 747), (.int 206 0), (.int 2 0), (.int 0 0), (.int 0 0), (.int 3 0), (.ref 316), (.bool true), (.int 276 0), (.ref 317), .none, .none, .none, (.ref 318), (.int 748 0), (.int 206 0), (.str (Str.ofString "/claim/cut.py") 749)]), #[]⟩
noncomputable def o320 (_ : Params) : Obj := ⟨(.type "function"), none, (.func { name := (Str.ofString "_law_run"), qualname := (Str.ofString "_law_run"), params := fnArgs (st 22), body := .stmts (fnBody (st 22)), scope := fnScope (st 22), globals := 3, closure := [], defaults := .none, kwdefaults := .none, doc := .none, pyModule := (.str (Str.ofString "law_tp0056_01") 698), annotations := none, code := (.ref 319), closureTuple := .none, builtins := 0 }), #[]⟩
noncomputable def o321 (_ : Params) : Obj := ⟨(.type "tuple"), none, (.seq #[] 0), #[]⟩
noncomputable def o323 (_ : Params) : Obj := ⟨(.type "tuple"), none, (.seq #[(.str (Str.ofString "words") 754), (.str (Str.ofString "leads") 755), (.str (Str.ofString "first") 756), (.str (Str.ofString "size") 757), (.str (Str.ofString "k") 758), (.str (Str.ofString "old") 759), (.str (Str.ofString "new") 760), (.str (Str.ofString "rounds") 761), (.str (Str.ofString "gap") 762)] 0), #[]⟩
noncomputable def o324 (_ : Params) : Obj := ⟨(.type "tuple"), none, (.seq #[] 0), #[]⟩
noncomputable def o326 (_ : Params) : Obj := ⟨(.type "code"), none, (.fields #[(.str (Str.ofString "_law_rests") 751), (.str (Str.ofString "_law_rests") 752), (.str (Str.ofString "/claim/cut.py") 753), (.int 223 0), (.int 4 0), (.int 0 0), (.int 0 0), (.int 3 0), (.ref 321), (.bool true), (.int 276 0), (.ref 322), .none, (.ref 323), (.ref 324), (.ref 325), (.int 763 0), (.int 223 0), (.str (Str.ofString "/claim/cut.py") 764)]), #[]⟩
noncomputable def o327 (_ : Params) : Obj := ⟨(.type "function"), none, (.func { name := (Str.ofString "_law_rests"), qualname := (Str.ofString "_law_rests"), params := fnArgs (st 23), body := .stmts (fnBody (st 23)), scope := fnScope (st 23), globals := 3, closure := [], defaults := .none, kwdefaults := .none, doc := .none, pyModule := (.str (Str.ofString "law_tp0056_01") 698), annotations := none, code := (.ref 326), closureTuple := .none, builtins := 0 }), #[]⟩
noncomputable def o328 (_ : Params) : Obj := ⟨(.type "tuple"), none, (.seq #[] 0), #[]⟩
noncomputable def o331 (_ : Params) : Obj := ⟨(.type "code"), none, (.fields #[(.str (Str.ofString "law") 766), (.str (Str.ofString "law") 767), (.str (Str.ofString "/claim/cut.py") 768), (.int 236 0), (.int 1 0), (.int 0 0), (.int 0 0), (.int 3 0), (.ref 328), (.bool true), (.int 276 0), (.ref 329), .none, .none, .none, (.ref 330), (.int 769 0), (.int 236 0), (.str (Str.ofString "/claim/cut.py") 770)]), #[]⟩
noncomputable def o332 (_ : Params) : Obj := ⟨(.type "function"), none, (.func { name := (Str.ofString "law"), qualname := (Str.ofString "law"), params := fnArgs (st 24), body := .stmts (fnBody (st 24)), scope := fnScope (st 24), globals := 3, closure := [], defaults := .none, kwdefaults := .none, doc := .none, pyModule := (.str (Str.ofString "law_tp0056_01") 698), annotations := none, code := (.ref 331), closureTuple := .none, builtins := 0 }), #[]⟩
noncomputable def K (P : Params) : Frag :=
  (nat_lit 2, o2 P) :: (nat_lit 3, o3 P) :: (nat_lit 32, o32 P) :: (nat_lit 34, o34 P) :: (nat_lit 35, o35 P) :: (nat_lit 37, o37 P) :: (nat_lit 38, o38 P) :: (nat_lit 39, o39 P) :: (nat_lit 41, o41 P) :: (nat_lit 42, o42 P) :: (nat_lit 44, o44 P) :: (nat_lit 45, o45 P) :: (nat_lit 46, o46 P) :: (nat_lit 48, o48 P) :: (nat_lit 49, o49 P) :: (nat_lit 51, o51 P) :: (nat_lit 52, o52 P) :: (nat_lit 53, o53 P) :: (nat_lit 55, o55 P) :: (nat_lit 56, o56 P) :: (nat_lit 58, o58 P) :: (nat_lit 59, o59 P) :: (nat_lit 73, o73 P) :: (nat_lit 77, o77 P) :: (nat_lit 79, o79 P) :: (nat_lit 80, o80 P) :: (nat_lit 82, o82 P) :: (nat_lit 83, o83 P) :: (nat_lit 94, o94 P) :: (nat_lit 96, o96 P) :: (nat_lit 97, o97 P) :: (nat_lit 99, o99 P) :: (nat_lit 100, o100 P) :: (nat_lit 101, o101 P) :: (nat_lit 103, o103 P) :: (nat_lit 104, o104 P) :: (nat_lit 106, o106 P) :: (nat_lit 107, o107 P) :: (nat_lit 108, o108 P) :: (nat_lit 110, o110 P) :: (nat_lit 111, o111 P) :: (nat_lit 113, o113 P) :: (nat_lit 114, o114 P) :: (nat_lit 115, o115 P) :: (nat_lit 117, o117 P) :: (nat_lit 118, o118 P) :: (nat_lit 120, o120 P) :: (nat_lit 121, o121 P) :: (nat_lit 122, o122 P) :: (nat_lit 124, o124 P) :: (nat_lit 125, o125 P) :: (nat_lit 127, o127 P) :: (nat_lit 128, o128 P) :: (nat_lit 129, o129 P) :: (nat_lit 131, o131 P) :: (nat_lit 132, o132 P) :: (nat_lit 134, o134 P) :: (nat_lit 135, o135 P) :: (nat_lit 136, o136 P) :: (nat_lit 138, o138 P) :: (nat_lit 139, o139 P) :: (nat_lit 141, o141 P) :: (nat_lit 142, o142 P) :: (nat_lit 143, o143 P) :: (nat_lit 144, o144 P) :: (nat_lit 145, o145 P) :: (nat_lit 146, o146 P) :: (nat_lit 147, o147 P) :: (nat_lit 153, o153 P) :: (nat_lit 154, o154 P) :: (nat_lit 158, o158 P) :: (nat_lit 159, o159 P) :: (nat_lit 167, o167 P) :: (nat_lit 168, o168 P) :: (nat_lit 170, o170 P) :: (nat_lit 171, o171 P) :: (nat_lit 173, o173 P) :: (nat_lit 174, o174 P) :: (nat_lit 175, o175 P) :: (nat_lit 177, o177 P) :: (nat_lit 178, o178 P) :: (nat_lit 180, o180 P) :: (nat_lit 181, o181 P) :: (nat_lit 182, o182 P) :: (nat_lit 184, o184 P) :: (nat_lit 185, o185 P) :: (nat_lit 187, o187 P) :: (nat_lit 188, o188 P) :: (nat_lit 189, o189 P) :: (nat_lit 191, o191 P) :: (nat_lit 192, o192 P) :: (nat_lit 194, o194 P) :: (nat_lit 195, o195 P) :: (nat_lit 196, o196 P) :: (nat_lit 199, o199 P) :: (nat_lit 200, o200 P) :: (nat_lit 201, o201 P) :: (nat_lit 203, o203 P) :: (nat_lit 204, o204 P) :: (nat_lit 206, o206 P) :: (nat_lit 207, o207 P) :: (nat_lit 208, o208 P) :: (nat_lit 210, o210 P) :: (nat_lit 211, o211 P) :: (nat_lit 213, o213 P) :: (nat_lit 214, o214 P) :: (nat_lit 215, o215 P) :: (nat_lit 217, o217 P) :: (nat_lit 218, o218 P) :: (nat_lit 220, o220 P) :: (nat_lit 221, o221 P) :: (nat_lit 222, o222 P) :: (nat_lit 223, o223 P) :: (nat_lit 225, o225 P) :: (nat_lit 226, o226 P) :: (nat_lit 228, o228 P) :: (nat_lit 229, o229 P) :: (nat_lit 230, o230 P) :: (nat_lit 233, o233 P) :: (nat_lit 234, o234 P) :: (nat_lit 235, o235 P) :: (nat_lit 238, o238 P) :: (nat_lit 239, o239 P) :: (nat_lit 240, o240 P) :: (nat_lit 242, o242 P) :: (nat_lit 243, o243 P) :: (nat_lit 245, o245 P) :: (nat_lit 246, o246 P) :: (nat_lit 247, o247 P) :: (nat_lit 249, o249 P) :: (nat_lit 250, o250 P) :: (nat_lit 252, o252 P) :: (nat_lit 253, o253 P) :: (nat_lit 254, o254 P) :: (nat_lit 257, o257 P) :: (nat_lit 258, o258 P) :: (nat_lit 259, o259 P) :: (nat_lit 261, o261 P) :: (nat_lit 262, o262 P) :: (nat_lit 264, o264 P) :: (nat_lit 265, o265 P) :: (nat_lit 266, o266 P) :: (nat_lit 268, o268 P) :: (nat_lit 269, o269 P) :: (nat_lit 271, o271 P) :: (nat_lit 272, o272 P) :: (nat_lit 273, o273 P) :: (nat_lit 275, o275 P) :: (nat_lit 276, o276 P) :: (nat_lit 278, o278 P) :: (nat_lit 279, o279 P) :: (nat_lit 280, o280 P) :: (nat_lit 281, o281 P) :: (nat_lit 282, o282 P) :: (nat_lit 283, o283 P) :: (nat_lit 284, o284 P) :: (nat_lit 287, o287 P) :: (nat_lit 290, o290 P) :: (nat_lit 291, o291 P) :: (nat_lit 292, o292 P) :: (nat_lit 295, o295 P) :: (nat_lit 296, o296 P) :: (nat_lit 297, o297 P) :: (nat_lit 299, o299 P) :: (nat_lit 300, o300 P) :: (nat_lit 302, o302 P) :: (nat_lit 303, o303 P) :: (nat_lit 304, o304 P) :: (nat_lit 306, o306 P) :: (nat_lit 307, o307 P) :: (nat_lit 309, o309 P) :: (nat_lit 310, o310 P) :: (nat_lit 311, o311 P) :: (nat_lit 314, o314 P) :: (nat_lit 315, o315 P) :: (nat_lit 316, o316 P) :: (nat_lit 319, o319 P) :: (nat_lit 320, o320 P) :: (nat_lit 321, o321 P) :: (nat_lit 323, o323 P) :: (nat_lit 324, o324 P) :: (nat_lit 326, o326 P) :: (nat_lit 327, o327 P) :: (nat_lit 328, o328 P) :: (nat_lit 331, o331 P) :: (nat_lit 332, o332 P) :: []
noncomputable def as : List Addr := [2, 3, 32, 34, 35, 37, 38, 39, 41, 42, 44, 45, 46, 48, 49, 51, 52, 53, 55, 56, 58, 59, 73, 77, 79, 80, 82, 83, 94, 96, 97, 99, 100, 101, 103, 104, 106, 107, 108, 110, 111, 113, 114, 115, 117, 118, 120, 121, 122, 124, 125, 127, 128, 129, 131, 132, 134, 135, 136, 138, 139, 141, 142, 143, 144, 145, 146, 147, 153, 154, 158, 159, 167, 168, 170, 171, 173, 174, 175, 177, 178, 180, 181, 182, 184, 185, 187, 188, 189, 191, 192, 194, 195, 196, 199, 200, 201, 203, 204, 206, 207, 208, 210, 211, 213, 214, 215, 217, 218, 220, 221, 222, 223, 225, 226, 228, 229, 230, 233, 234, 235, 238, 239, 240, 242, 243, 245, 246, 247, 249, 250, 252, 253, 254, 257, 258, 259, 261, 262, 264, 265, 266, 268, 269, 271, 272, 273, 275, 276, 278, 279, 280, 281, 282, 283, 284, 287, 290, 291, 292, 295, 296, 297, 299, 300, 302, 303, 304, 306, 307, 309, 310, 311, 314, 315, 316, 319, 320, 321, 323, 324, 326, 327, 328, 331, 332]

theorem as_eq (P : Params) : as = (K P).map (·.1) := by kernel_rfl
noncomputable abbrev H : Hook := kHook K as as_eq
end Mine
end
section
open PySem PySem.W PyProof.Rows PySem.Calls
namespace Mine
/-- what a call that changes nothing old leaves: all that stood stands, and new objects -/
noncomputable def Kept (h h' : Heap) (new : List (Addr × Obj)) : Prop := (∀ b o, h.get? b = some o → h'.get? b = some o) ∧ ∀ p ∈ new, h'.get? p.1 = some p.2 ∧ h.get? p.1 = none
theorem Kept.fr {h₀ h h' : Heap} {L : Addr} {m : Str → Option Value} {new : List (Addr × Obj)} (k : Kept h h' new) (F : Fr h₀ L h m) : Fr h₀ L h' m := by
  obtain ⟨oL, a1, a2, hL, a3⟩ := F.ns
  exact ⟨⟨oL, a1, a2, k.1 _ _ hL, a3⟩, fun b o e => k.1 _ _ (F.keep b o e), F.above⟩
theorem Kept.news {h₀ h h' : Heap} {L : Addr} {m : Str → Option Value} {new news : List (Addr × Obj)} (k : Kept h h' new) (F : Fr h₀ L h m) (N : News h₀ L h news) : News h₀ L h' (new ++ news) := by
  intro p hp
  rcases List.mem_append.mp hp with q | q
  · obtain ⟨a, b⟩ := k.2 p q
    refine ⟨a, fun e => ?_, ?_⟩
    · obtain ⟨oL, _, _, hL, _⟩ := F.ns
      rw [e, hL] at b; cases b
    · cases x : h₀.get? p.1 with
      | none => rfl
      | some o => rw [F.keep _ _ x] at b; cases b
  · exact ⟨k.1 _ _ (N p q).1, (N p q).2⟩
theorem Kept.of {h h' : Heap} {L : Addr} {m : Str → Option Value} {new : List (Addr × Obj)} (F : Fr h L h' m) (N : News h L h' new) : Kept h h' new :=
  ⟨F.keep, fun p hp => ⟨(N p hp).1, (N p hp).2.2⟩⟩
theorem Kept.sub {h h' : Heap} {new new' : List (Addr × Obj)} (k : Kept h h' new) (s : ∀ p ∈ new', p ∈ new) : Kept h h' new' := ⟨k.1, fun p hp => k.2 p (s p hp)⟩

theorem weaken {α : Type} {M : Model} {dp un DP UN : Nat} {gd : Option (List Code)} {cn : Str} {cs : Scope} {L a : Addr} {ccd : Value} {cl : List (Str × Addr)} {outer : List Env} {t : Sem α} {Q : α → Shared → Prop} {E : Value → Shared → Prop} {s : Shared}
    (hd : dp ≤ DP) (hu : un ≤ UN) (h : wpAny M (ktrTop DP UN gd cn cs L a ccd cl outer) t Q E s) : wpAny M (ktrTop dp un gd cn cs L a ccd cl outer) t Q E s :=
  fun Γ p hΓ => h Γ p ⟨hΓ.1, Nat.le_trans hΓ.2.1 hd, hΓ.2.2.1, hΓ.2.2.2.1, Nat.le_trans hΓ.2.2.2.2 hu⟩

/-- a def is entered: its body from the whole heap as it stands -/
theorem enter {prog : Program} {w : World} {A₀ : Around} {base h₀ : Heap} {outer : List Env} {cn : Str} {cs : Scope} {L a : Addr} {ccd : Value} {cl : List (Str × Addr)} {gd : Option (List Code)} {m : Str → Option Value} {s : Shared} {Q E : Value → Shared → Prop} {K : Frag} {p : Program} {loose : List Str} {mean : ExcName → Option Value} {mg mb : Str → Option Value}
    {name qual : Str} {params : Arguments} {body : List Stmt} {scope : Scope} {dV kV doc pm cdv ct oc : Value} {an od : Option Addr} {osl : Array (Option Value)} {f : Addr} {args : Args} {binds : List (Str × Value)} {dp un : Nat} (DP UN : Nat)
    (B : Below A₀ base outer h₀) (F : Fr h₀ L s.heap m) (X : K.In h₀) (T : Top p loose mean mg mb h₀) (hke : cs.kind = .function) (hd : dp ≤ DP) (hu : un ≤ UN)
    (ho : K.lookup f = some ⟨oc, od, .func (fnOf name qual params body scope dV kV doc pm an cdv ct), osl⟩) (hcd : codeIn K cdv qual = true) (hroom : DP < recursionLimit)
    (hbind : BindsTo s (fnOf name qual params body scope dV kV doc pm an cdv ct) args binds) (hloc : ∀ y ∈ binds, scope.names.lookup y.1 = some .local)
    (hcell : ∀ x ∈ scope.names, x.2 ≠ .cell) (hco : scope.isCoroutine = false) (hgen : scope.isGenerator = false) (hk : scope.kind = .function)
    (h : ∀ L' h₁, Fr s.heap L' h₁ (fun y => binds.reverse.lookup y) → News s.heap L' h₁ [] → Below (ktrTop DP UN gd cn cs L a ccd cl outer) base (envX cn cs L a ccd cl :: outer) s.heap → K.In s.heap → Top p loose mean mg mb s.heap →
      wpAny (model prog w) ((ktrTop DP UN gd cn cs L a ccd cl outer).deeper (envOf qual scope L' f cdv)) (execs body (envOf qual scope L' f cdv)) (fun fl s' => Q (match fl with | .ret v => v | _ => .none) s') (fun _ _ => False) { s with heap := h₁, toks := s.toks + binds.length }) :
    wpAny (model prog w) (ktrTop dp un gd cn cs L a ccd cl outer) (call (.ref f) args.pos args.kw) Q E s := by
  refine weaken hd hu (wpAny_call ?_)
  refine codeAny_call_def (fd := fnOf name qual params body scope dV kV doc pm an cdv ct) (body := body) (binds := binds) hroom ((X.keeps F.keep) _ _ ho) rfl (T.nolimit.keeps F.keep) (codeRec_of (X.keeps F.keep) hcd) rfl hbind hcell hloc (fun h₁ hns hk₁ => ?_) hco hgen hk
  have B' : Below (ktrTop DP UN gd cn cs L a ccd cl outer) base (envX cn cs L a ccd cl :: outer) s.heap :=
    ⟨rfl, fun b o e => F.keep b o (B.stays b o e), (pushX (env := envX cn cs L a ccd cl) B F rfl hke).frames⟩
  refine wpAny_mono (h s.heap.objs.size h₁ ⟨hns, hk₁, Nat.le_refl _⟩ (fun _ hp => nomatch hp) B' (X.keeps F.keep) (T.keeps F.keep)) (fun fl s' hl => hl) fun _ _ y => y.elim
end Mine
end
section
open PySem PySem.W PyProof.Rows PySem.Calls
namespace Mine
noncomputable def la45 : {b : Arguments // fnArgs (st 4) = b} := by
  refine' ⟨_, _⟩
  rotate_left
  · (conv => lhs; whnf)
noncomputable def lb45 : {b : List Stmt // fnBody (st 4) = b} := by
  refine' ⟨_, _⟩
  rotate_left
  · (conv => lhs; whnf)
noncomputable def ls45 : {b : Scope // fnScope (st 4) = b} := by
  refine' ⟨_, _⟩
  rotate_left
  · (conv => lhs; whnf)
theorem k45 (P : Params) : (K P).lookup 45 = some ⟨.type "function", none, .func (fnOf (Str.ofString "_div2n1n") (Str.ofString "_div2n1n") la45.1 lb45.1 ls45.1 .none .none .none (.str (Str.ofString "cpy313._pylong") 289) none (.ref 44) .none), #[]⟩ := by
  kernel_rfl
theorem c45 (P : Params) : codeIn (K P) (.ref 44) (Str.ofString "_div2n1n") = true := by
  kernel_rfl
noncomputable def la59 : {b : Arguments // fnArgs (st 6) = b} := by
  refine' ⟨_, _⟩
  rotate_left
  · (conv => lhs; whnf)
noncomputable def lb59 : {b : List Stmt // fnBody (st 6) = b} := by
  refine' ⟨_, _⟩
  rotate_left
  · (conv => lhs; whnf)
noncomputable def ls59 : {b : Scope // fnScope (st 6) = b} := by
  refine' ⟨_, _⟩
  rotate_left
  · (conv => lhs; whnf)
theorem k59 (P : Params) : (K P).lookup 59 = some ⟨.type "function", none, .func (fnOf (Str.ofString "_digits2int") (Str.ofString "_digits2int") la59.1 lb59.1 ls59.1 .none .none .none (.str (Str.ofString "cpy313._pylong") 289) none (.ref 58) .none), #[]⟩ := by
  kernel_rfl
theorem c59 (P : Params) : codeIn (K P) (.ref 58) (Str.ofString "_digits2int") = true := by
  kernel_rfl
noncomputable def la83 : {b : Arguments // fnArgs (st 9) = b} := by
  refine' ⟨_, _⟩
  rotate_left
  · (conv => lhs; whnf)
noncomputable def lb83 : {b : List Stmt // fnBody (st 9) = b} := by
  refine' ⟨_, _⟩
  rotate_left
  · (conv => lhs; whnf)
noncomputable def ls83 : {b : Scope // fnScope (st 9) = b} := by
  refine' ⟨_, _⟩
  rotate_left
  · (conv => lhs; whnf)
theorem k83 (P : Params) : (K P).lookup 83 = some ⟨.type "function", none, .func (fnOf (Str.ofString "in_table_c8") (Str.ofString "in_table_c8") la83.1 lb83.1 ls83.1 .none .none .none (.str (Str.ofString "cpy313.stringprep") 335) none (.ref 82) .none), #[]⟩ := by
  kernel_rfl
theorem c83 (P : Params) : codeIn (K P) (.ref 82) (Str.ofString "in_table_c8") = true := by
  kernel_rfl
noncomputable def la100 : {b : Arguments // fnArgs (stc 11 1) = b} := by
  refine' ⟨_, _⟩
  rotate_left
  · (conv => lhs; whnf)
noncomputable def lb100 : {b : List Stmt // fnBody (stc 11 1) = b} := by
  refine' ⟨_, _⟩
  rotate_left
  · (conv => lhs; whnf)
noncomputable def ls100 : {b : Scope // fnScope (stc 11 1) = b} := by
  refine' ⟨_, _⟩
  rotate_left
  · (conv => lhs; whnf)
theorem k100 (P : Params) : (K P).lookup 100 = some ⟨.type "function", none, .func (fnOf (Str.ofString "__init__") (Str.ofString "Whitespace.__init__") la100.1 lb100.1 ls100.1 .none .none .none (.str (Str.ofString "cpy313.tabnanny") 385) none (.ref 99) .none), #[]⟩ := by
  kernel_rfl
theorem c100 (P : Params) : codeIn (K P) (.ref 99) (Str.ofString "Whitespace.__init__") = true := by
  kernel_rfl
noncomputable def la121 : {b : Arguments // fnArgs (stc 11 4) = b} := by
  refine' ⟨_, _⟩
  rotate_left
  · (conv => lhs; whnf)
noncomputable def lb121 : {b : List Stmt // fnBody (stc 11 4) = b} := by
  refine' ⟨_, _⟩
  rotate_left
  · (conv => lhs; whnf)
noncomputable def ls121 : {b : Scope // fnScope (stc 11 4) = b} := by
  refine' ⟨_, _⟩
  rotate_left
  · (conv => lhs; whnf)
theorem k121 (P : Params) : (K P).lookup 121 = some ⟨.type "function", none, .func (fnOf (Str.ofString "equal") (Str.ofString "Whitespace.equal") la121.1 lb121.1 ls121.1 .none .none .none (.str (Str.ofString "cpy313.tabnanny") 385) none (.ref 120) .none), #[]⟩ := by
  kernel_rfl
theorem c121 (P : Params) : codeIn (K P) (.ref 120) (Str.ofString "Whitespace.equal") = true := by
  kernel_rfl
noncomputable def la174 : {b : Arguments // fnArgs (stc 15 0) = b} := by
  refine' ⟨_, _⟩
  rotate_left
  · (conv => lhs; whnf)
noncomputable def lb174 : {b : List Stmt // fnBody (stc 15 0) = b} := by
  refine' ⟨_, _⟩
  rotate_left
  · (conv => lhs; whnf)
noncomputable def ls174 : {b : Scope // fnScope (stc 15 0) = b} := by
  refine' ⟨_, _⟩
  rotate_left
  · (conv => lhs; whnf)
theorem k174 (P : Params) : (K P).lookup 174 = some ⟨.type "function", none, .func (fnOf (Str.ofString "__init__") (Str.ofString "Headers.__init__") la174.1 lb174.1 ls174.1 (.ref 167) .none .none (.str (Str.ofString "cpy313.wsgiref.headers") 479) none (.ref 173) .none), #[]⟩ := by
  kernel_rfl
theorem c174 (P : Params) : codeIn (K P) (.ref 173) (Str.ofString "Headers.__init__") = true := by
  kernel_rfl
noncomputable def la181 : {b : Arguments // fnArgs (stc 15 1) = b} := by
  refine' ⟨_, _⟩
  rotate_left
  · (conv => lhs; whnf)
noncomputable def lb181 : {b : List Stmt // fnBody (stc 15 1) = b} := by
  refine' ⟨_, _⟩
  rotate_left
  · (conv => lhs; whnf)
noncomputable def ls181 : {b : Scope // fnScope (stc 15 1) = b} := by
  refine' ⟨_, _⟩
  rotate_left
  · (conv => lhs; whnf)
theorem k181 (P : Params) : (K P).lookup 181 = some ⟨.type "function", none, .func (fnOf (Str.ofString "_convert_string_type") (Str.ofString "Headers._convert_string_type") la181.1 lb181.1 ls181.1 .none .none .none (.str (Str.ofString "cpy313.wsgiref.headers") 479) none (.ref 180) .none), #[]⟩ := by
  kernel_rfl
theorem c181 (P : Params) : codeIn (K P) (.ref 180) (Str.ofString "Headers._convert_string_type") = true := by
  kernel_rfl
noncomputable def la229 : {b : Arguments // fnArgs (stc 15 8) = b} := by
  refine' ⟨_, _⟩
  rotate_left
  · (conv => lhs; whnf)
noncomputable def lb229 : {b : List Stmt // fnBody (stc 15 8) = b} := by
  refine' ⟨_, _⟩
  rotate_left
  · (conv => lhs; whnf)
noncomputable def ls229 : {b : Scope // fnScope (stc 15 8) = b} := by
  refine' ⟨_, _⟩
  rotate_left
  · (conv => lhs; whnf)
theorem k229 (P : Params) : (K P).lookup 229 = some ⟨.type "function", none, .func (fnOf (Str.ofString "get") (Str.ofString "Headers.get") la229.1 lb229.1 ls229.1 (.ref 222) .none .none (.str (Str.ofString "cpy313.wsgiref.headers") 479) none (.ref 228) .none), #[]⟩ := by
  kernel_rfl
theorem c229 (P : Params) : codeIn (K P) (.ref 228) (Str.ofString "Headers.get") = true := by
  kernel_rfl
noncomputable def la234 : {b : Arguments // fnArgs (stc 15 9) = b} := by
  refine' ⟨_, _⟩
  rotate_left
  · (conv => lhs; whnf)
noncomputable def lb234 : {b : List Stmt // fnBody (stc 15 9) = b} := by
  refine' ⟨_, _⟩
  rotate_left
  · (conv => lhs; whnf)
noncomputable def ls234 : {b : Scope // fnScope (stc 15 9) = b} := by
  refine' ⟨_, _⟩
  rotate_left
  · (conv => lhs; whnf)
theorem k234 (P : Params) : (K P).lookup 234 = some ⟨.type "function", none, .func (fnOf (Str.ofString "keys") (Str.ofString "Headers.keys") la234.1 lb234.1 ls234.1 .none .none .none (.str (Str.ofString "cpy313.wsgiref.headers") 479) none (.ref 233) .none), #[]⟩ := by
  kernel_rfl
theorem c234 (P : Params) : codeIn (K P) (.ref 233) (Str.ofString "Headers.keys") = true := by
  kernel_rfl
noncomputable def la272 : {b : Arguments // fnArgs (stc 15 15) = b} := by
  refine' ⟨_, _⟩
  rotate_left
  · (conv => lhs; whnf)
noncomputable def lb272 : {b : List Stmt // fnBody (stc 15 15) = b} := by
  refine' ⟨_, _⟩
  rotate_left
  · (conv => lhs; whnf)
noncomputable def ls272 : {b : Scope // fnScope (stc 15 15) = b} := by
  refine' ⟨_, _⟩
  rotate_left
  · (conv => lhs; whnf)
theorem k272 (P : Params) : (K P).lookup 272 = some ⟨.type "function", none, .func (fnOf (Str.ofString "setdefault") (Str.ofString "Headers.setdefault") la272.1 lb272.1 ls272.1 .none .none .none (.str (Str.ofString "cpy313.wsgiref.headers") 479) none (.ref 271) .none), #[]⟩ := by
  kernel_rfl
theorem c272 (P : Params) : codeIn (K P) (.ref 271) (Str.ofString "Headers.setdefault") = true := by
  kernel_rfl
noncomputable def la291 : {b : Arguments // fnArgs (st 17) = b} := by
  refine' ⟨_, _⟩
  rotate_left
  · (conv => lhs; whnf)
noncomputable def lb291 : {b : List Stmt // fnBody (st 17) = b} := by
  refine' ⟨_, _⟩
  rotate_left
  · (conv => lhs; whnf)
noncomputable def ls291 : {b : Scope // fnScope (st 17) = b} := by
  refine' ⟨_, _⟩
  rotate_left
  · (conv => lhs; whnf)
theorem k291 (P : Params) : (K P).lookup 291 = some ⟨.type "function", none, .func (fnOf (Str.ofString "_law_cells") (Str.ofString "_law_cells") la291.1 lb291.1 ls291.1 .none .none .none (.str (Str.ofString "law_tp0056_01") 698) none (.ref 290) .none), #[]⟩ := by
  kernel_rfl
theorem c291 (P : Params) : codeIn (K P) (.ref 290) (Str.ofString "_law_cells") = true := by
  kernel_rfl
noncomputable def la296 : {b : Arguments // fnArgs (st 18) = b} := by
  refine' ⟨_, _⟩
  rotate_left
  · (conv => lhs; whnf)
noncomputable def lb296 : {b : List Stmt // fnBody (st 18) = b} := by
  refine' ⟨_, _⟩
  rotate_left
  · (conv => lhs; whnf)
noncomputable def ls296 : {b : Scope // fnScope (st 18) = b} := by
  refine' ⟨_, _⟩
  rotate_left
  · (conv => lhs; whnf)
theorem k296 (P : Params) : (K P).lookup 296 = some ⟨.type "function", none, .func (fnOf (Str.ofString "_law_row") (Str.ofString "_law_row") la296.1 lb296.1 ls296.1 .none .none .none (.str (Str.ofString "law_tp0056_01") 698) none (.ref 295) .none), #[]⟩ := by
  kernel_rfl
theorem c296 (P : Params) : codeIn (K P) (.ref 295) (Str.ofString "_law_row") = true := by
  kernel_rfl
noncomputable def la303 : {b : Arguments // fnArgs (st 19) = b} := by
  refine' ⟨_, _⟩
  rotate_left
  · (conv => lhs; whnf)
noncomputable def lb303 : {b : List Stmt // fnBody (st 19) = b} := by
  refine' ⟨_, _⟩
  rotate_left
  · (conv => lhs; whnf)
noncomputable def ls303 : {b : Scope // fnScope (st 19) = b} := by
  refine' ⟨_, _⟩
  rotate_left
  · (conv => lhs; whnf)
theorem k303 (P : Params) : (K P).lookup 303 = some ⟨.type "function", none, .func (fnOf (Str.ofString "_law_round") (Str.ofString "_law_round") la303.1 lb303.1 ls303.1 .none .none .none (.str (Str.ofString "law_tp0056_01") 698) none (.ref 302) .none), #[]⟩ := by
  kernel_rfl
theorem c303 (P : Params) : codeIn (K P) (.ref 302) (Str.ofString "_law_round") = true := by
  kernel_rfl
noncomputable def la310 : {b : Arguments // fnArgs (st 20) = b} := by
  refine' ⟨_, _⟩
  rotate_left
  · (conv => lhs; whnf)
noncomputable def lb310 : {b : List Stmt // fnBody (st 20) = b} := by
  refine' ⟨_, _⟩
  rotate_left
  · (conv => lhs; whnf)
noncomputable def ls310 : {b : Scope // fnScope (st 20) = b} := by
  refine' ⟨_, _⟩
  rotate_left
  · (conv => lhs; whnf)
theorem k310 (P : Params) : (K P).lookup 310 = some ⟨.type "function", none, .func (fnOf (Str.ofString "_law_alone") (Str.ofString "_law_alone") la310.1 lb310.1 ls310.1 .none .none .none (.str (Str.ofString "law_tp0056_01") 698) none (.ref 309) .none), #[]⟩ := by
  kernel_rfl
theorem c310 (P : Params) : codeIn (K P) (.ref 309) (Str.ofString "_law_alone") = true := by
  kernel_rfl
noncomputable def la315 : {b : Arguments // fnArgs (st 21) = b} := by
  refine' ⟨_, _⟩
  rotate_left
  · (conv => lhs; whnf)
noncomputable def lb315 : {b : List Stmt // fnBody (st 21) = b} := by
  refine' ⟨_, _⟩
  rotate_left
  · (conv => lhs; whnf)
noncomputable def ls315 : {b : Scope // fnScope (st 21) = b} := by
  refine' ⟨_, _⟩
  rotate_left
  · (conv => lhs; whnf)
theorem k315 (P : Params) : (K P).lookup 315 = some ⟨.type "function", none, .func (fnOf (Str.ofString "_law_lead") (Str.ofString "_law_lead") la315.1 lb315.1 ls315.1 .none .none .none (.str (Str.ofString "law_tp0056_01") 698) none (.ref 314) .none), #[]⟩ := by
  kernel_rfl
theorem c315 (P : Params) : codeIn (K P) (.ref 314) (Str.ofString "_law_lead") = true := by
  kernel_rfl
noncomputable def la320 : {b : Arguments // fnArgs (st 22) = b} := by
  refine' ⟨_, _⟩
  rotate_left
  · (conv => lhs; whnf)
noncomputable def lb320 : {b : List Stmt // fnBody (st 22) = b} := by
  refine' ⟨_, _⟩
  rotate_left
  · (conv => lhs; whnf)
noncomputable def ls320 : {b : Scope // fnScope (st 22) = b} := by
  refine' ⟨_, _⟩
  rotate_left
  · (conv => lhs; whnf)
theorem k320 (P : Params) : (K P).lookup 320 = some ⟨.type "function", none, .func (fnOf (Str.ofString "_law_run") (Str.ofString "_law_run") la320.1 lb320.1 ls320.1 .none .none .none (.str (Str.ofString "law_tp0056_01") 698) none (.ref 319) .none), #[]⟩ := by
  kernel_rfl
theorem c320 (P : Params) : codeIn (K P) (.ref 319) (Str.ofString "_law_run") = true := by
  kernel_rfl
noncomputable def la327 : {b : Arguments // fnArgs (st 23) = b} := by
  refine' ⟨_, _⟩
  rotate_left
  · (conv => lhs; whnf)
noncomputable def lb327 : {b : List Stmt // fnBody (st 23) = b} := by
  refine' ⟨_, _⟩
  rotate_left
  · (conv => lhs; whnf)
noncomputable def ls327 : {b : Scope // fnScope (st 23) = b} := by
  refine' ⟨_, _⟩
  rotate_left
  · (conv => lhs; whnf)
theorem k327 (P : Params) : (K P).lookup 327 = some ⟨.type "function", none, .func (fnOf (Str.ofString "_law_rests") (Str.ofString "_law_rests") la327.1 lb327.1 ls327.1 .none .none .none (.str (Str.ofString "law_tp0056_01") 698) none (.ref 326) .none), #[]⟩ := by
  kernel_rfl
theorem c327 (P : Params) : codeIn (K P) (.ref 326) (Str.ofString "_law_rests") = true := by
  kernel_rfl
/-- the library's notes of the written part are filled -/
theorem fill (w : World) (h : Heap) : (K w.params).In h → PySem.Challenge.rw_tp0056_01.foot = 8 := by
  k_fill
  intro _
  rfl
end Mine
end
section
open PySem PySem.W PyProof.Rows PySem.Calls
namespace Mine
/-- an end kept for a hand's close -/
noncomputable def Held (P : Prop) : Prop := P
theorem held {P : Prop} (h : Held P) : P := h
theorem append_H {prog : Program} {w : World} {A : Around} {E : Value → Shared → Prop} {s : Shared} {h₀ : Heap} {L l : Addr} {m : Str → Option Value} {rest : List (Addr × Obj)} {its : Array Value} {n : Nat} {v : Value} {Q : Value → Shared → Prop}
    (F : Fr h₀ L s.heap m) (N : News h₀ L s.heap ((l, listOf its n) :: rest)) (hr : ∀ p ∈ rest, p.1 ≠ l) (hsz : its.size ≤ sizeLine)
    (h : ∀ h', Fr h₀ L h' m → News h₀ L h' ((l, listOf (its.push v) (n + 1)) :: rest) → Q .none { s with heap := h' }) : wpAny (model prog w) A (call (.builtin "list.append") [.ref l, v]) Q E s :=
  append_K F N (Upd.head hr) h hsz
theorem ints_snoc {vs : List Value} {ns : List Int} {n : Int} {t : Tok} (h : IntsAre vs ns) : IntsAre (vs ++ [.int n t]) (ns ++ [n]) := by
  induction h with
  | nil => exact .cons _ _ .nil
  | cons a b _ ih => exact .cons _ _ ih
end Mine
end
section
open PySem PySem.W PyProof.Rows PySem.Calls
namespace Mine
theorem enterC {prog : Program} {w : World} {A₀ : Around} {base h₀ : Heap} {outer : List Env} {cn : Str} {cs : Scope} {L a : Addr} {ccd : Value} {cl : List (Str × Addr)} {gd : Option (List Code)} {m : Str → Option Value} {s : Shared} {Q E : Value → Shared → Prop} {K : Frag} {p : Program} {loose : List Str} {mean : ExcName → Option Value} {mg mb : Str → Option Value}
    {name qual : Str} {params : Arguments} {body : List Stmt} {scope : Scope} {dV kV doc pm cdv ct oc : Value} {an od : Option Addr} {osl : Array (Option Value)} {f : Addr} {args : Args} {binds : List (Str × Value)} {dp un : Nat} (DP UN : Nat)
    (B : Below A₀ base outer h₀) (F : Fr h₀ L s.heap m) (X : K.In h₀) (T : Top p loose mean mg mb h₀) (hke : cs.kind = .function) (hd : dp ≤ DP) (hu : un ≤ UN)
    (ho : K.lookup f = some ⟨oc, od, .func (fnOf name qual params body scope dV kV doc pm an cdv ct), osl⟩) (hcd : codeIn K cdv qual = true) (hroom : DP < recursionLimit)
    (hbind : BindsTo s (fnOf name qual params body scope dV kV doc pm an cdv ct) args binds)
    (hkind : (binds.all fun y => scope.names.lookup y.1 == some .local || scope.names.lookup y.1 == some .cell) = true)
    (hnd : ((cellsFrom 0 scope.names []).map (·.1)).Nodup)
    (hco : scope.isCoroutine = false) (hgen : scope.isGenerator = false) (hk : scope.kind = .function)
    (h : ∀ L' h₁ tk cells, Fr s.heap L' h₁ (bindL (envOfC qual scope L' f cdv).kindOf binds fun _ => none) → News s.heap L' h₁ cells → CellsAre (bindC (envOfC qual scope L' f cdv).kindOf binds fun _ => none) (cellsFrom (L' + 1) scope.names []) cells → Below (ktrTop DP UN gd cn cs L a ccd cl outer) base (envX cn cs L a ccd cl :: outer) s.heap → K.In s.heap → Top p loose mean mg mb s.heap →
      wpAny (model prog w) ((ktrTop DP UN gd cn cs L a ccd cl outer).deeper (envOfC qual scope L' f cdv)) (execs body (envOfC qual scope L' f cdv)) (fun fl s' => Q (match fl with | .ret v => v | _ => .none) s') (fun _ _ => False) { s with heap := h₁, toks := tk }) :
    wpAny (model prog w) (ktrTop dp un gd cn cs L a ccd cl outer) (call (.ref f) args.pos args.kw) Q E s := by
  refine weaken hd hu (wpAny_call ?_)
  have hkind := kindsX hkind
  refine codeAny_call_function hroom ((X.keeps F.keep) _ _ ho) rfl hco hgen rfl (codeRec_of (X.keeps F.keep) hcd) (hbind _ _ _ _ ?_)
  refine wpAny_newFunctionEnv_cells hk (hkind _) fun env' he s' x => ?_
  subst he
  refine ⟨(T.nolimit.keeps F.keep).keeps x.toInCall.keep, codeAny_func ?_⟩
  obtain ⟨h₁, tk, rfl, _⟩ := x.done
  have hk₁ := x.toInCall.keep
  obtain ⟨cells, NC, Y⟩ := Cl.news (h₀ := s.heap) (Nat.le_refl _) fun n c hm => ⟨x.cell n c (lookup_of_mem_nodup (cellsFrom_names scope.names 0 (s.heap.objs.size + 1) [] [] rfl ▸ hnd) hm), x.above n c hm⟩
  have B' : Below (ktrTop DP UN gd cn cs L a ccd cl outer) base (envX cn cs L a ccd cl :: outer) s.heap :=
    ⟨rfl, fun b o e => F.keep b o (B.stays b o e), (pushX (env := envX cn cs L a ccd cl) B F rfl hke).frames⟩
  refine wpAny_mono (h s.heap.objs.size h₁ tk cells ⟨x.toInCall.ns, hk₁, Nat.le_refl _⟩ NC Y B' (X.keeps F.keep) (T.keeps F.keep)) (fun fl s' hl => hl) fun _ _ y => y.elim
/-- a def with a closure, met in the heap -/
theorem enterX {prog : Program} {w : World} {A₀ : Around} {base h₀ : Heap} {outer : List Env} {cn : Str} {cs : Scope} {L a : Addr} {ccd : Value} {cl : List (Str × Addr)} {gd : Option (List Code)} {m : Str → Option Value} {s : Shared} {Q E : Value → Shared → Prop} {K : Frag} {p : Program} {loose : List Str} {mean : ExcName → Option Value} {mg mb : Str → Option Value}
    {name qual : Str} {params : Arguments} {body : List Stmt} {scope : Scope} {cl' : List (Str × Addr)} {dV kV doc pm cdv ct oc : Value} {an od : Option Addr} {osl : Array (Option Value)} {f : Addr} {args : Args} {binds : List (Str × Value)} {dp un : Nat} (DP UN : Nat)
    (B : Below A₀ base outer h₀) (F : Fr h₀ L s.heap m) (X : K.In h₀) (T : Top p loose mean mg mb h₀) (hke : cs.kind = .function) (hd : dp ≤ DP) (hu : un ≤ UN)
    (ho : s.heap.get? f = some ⟨oc, od, .func (fnX name qual params body scope cl' dV kV doc pm an cdv ct), osl⟩) (hcd : s.heap.CodeRec cdv qual) (hroom : DP < recursionLimit)
    (hbind : BindsTo s (fnX name qual params body scope cl' dV kV doc pm an cdv ct) args binds) (hloc : ∀ y ∈ binds, scope.names.lookup y.1 = some .local)
    (hcell : ∀ x ∈ scope.names, x.2 ≠ .cell) (hco : scope.isCoroutine = false) (hgen : scope.isGenerator = false) (hk : scope.kind = .function)
    (h : ∀ L' h₁, Fr s.heap L' h₁ (fun y => binds.reverse.lookup y) → News s.heap L' h₁ [] → Below (ktrTop DP UN gd cn cs L a ccd cl outer) base (envX cn cs L a ccd cl :: outer) s.heap → K.In s.heap → Top p loose mean mg mb s.heap →
      wpAny (model prog w) ((ktrTop DP UN gd cn cs L a ccd cl outer).deeper (envX qual scope L' f cdv cl')) (execs body (envX qual scope L' f cdv cl')) (fun fl s' => Q (match fl with | .ret v => v | _ => .none) s') (fun _ _ => False) { s with heap := h₁, toks := s.toks + binds.length }) :
    wpAny (model prog w) (ktrTop dp un gd cn cs L a ccd cl outer) (call (.ref f) args.pos args.kw) Q E s := by
  refine weaken hd hu (wpAny_call ?_)
  refine codeAny_call_def (fd := fnX name qual params body scope cl' dV kV doc pm an cdv ct) (body := body) (binds := binds) hroom ho rfl (T.nolimit.keeps F.keep) hcd rfl hbind hcell hloc (fun h₁ hns hk₁ => ?_) hco hgen hk
  have B' : Below (ktrTop DP UN gd cn cs L a ccd cl outer) base (envX cn cs L a ccd cl :: outer) s.heap :=
    ⟨rfl, fun b o e => F.keep b o (B.stays b o e), (pushX (env := envX cn cs L a ccd cl) B F rfl hke).frames⟩
  refine wpAny_mono (h s.heap.objs.size h₁ ⟨hns, hk₁, Nat.le_refl _⟩ (fun _ hp => nomatch hp) B' (X.keeps F.keep) (T.keeps F.keep)) (fun fl s' hl => hl) fun _ _ y => y.elim
end Mine
end
section
open PySem PySem.W PyProof.Rows PySem.Calls
namespace Mine
/-- all that stood stands but what was given to be changed; the new ledger -/
noncomputable def KeptX (mu : List Addr) (h h' : Heap) (new : List (Addr × Obj)) : Prop := (∀ b o, b ∉ mu → h.get? b = some o → h'.get? b = some o) ∧ ∀ p ∈ new, h'.get? p.1 = some p.2 ∧ (h.get? p.1 = none ∨ p.1 ∈ mu)
theorem KeptX.fr {h₀ h h' : Heap} {L : Addr} {m : Str → Option Value} {mu : List Addr} {new : List (Addr × Obj)} (k : KeptX mu h h' new) (F : Fr h₀ L h m) (hm : ∀ b ∈ mu, b ≠ L ∧ h₀.get? b = none) : Fr h₀ L h' m := by
  obtain ⟨oL, a1, a2, hL, a3⟩ := F.ns
  refine ⟨⟨oL, a1, a2, k.1 _ _ (fun q => (hm _ q).1 rfl) hL, a3⟩, fun b o e => k.1 _ _ (fun q => ?_) (F.keep b o e), F.above⟩
  rw [(hm _ q).2] at e; cases e
theorem KeptX.news {h₀ h h' : Heap} {L : Addr} {m : Str → Option Value} {mu : List Addr} {new news : List (Addr × Obj)} (k : KeptX mu h h' new) (F : Fr h₀ L h m) (hm : ∀ b ∈ mu, b ≠ L ∧ h₀.get? b = none) (N : News h₀ L h news) (hn : ∀ p ∈ news, p.1 ∉ mu) : News h₀ L h' (new ++ news) := by
  intro p hp
  rcases List.mem_append.mp hp with q | q
  · obtain ⟨a, b⟩ := k.2 p q
    rcases b with b | b
    · refine ⟨a, fun e => ?_, ?_⟩
      · obtain ⟨oL, _, _, hL, _⟩ := F.ns
        rw [e, hL] at b; cases b
      · cases x : h₀.get? p.1 with
        | none => rfl
        | some o => rw [F.keep _ _ x] at b; cases b
    · exact ⟨a, hm _ b⟩
  · exact ⟨k.1 _ _ (hn p q) (N p q).1, (N p q).2⟩
theorem KeptX.of {mu : List (Addr × Obj)} {h h' : Heap} {L : Addr} {m : Str → Option Value} {new : List (Addr × Obj)} (F : Fr (hideAll h (mu.map (·.1))) L h' m) (N : News (hideAll h (mu.map (·.1))) L h' new) : KeptX (mu.map (·.1)) h h' new := by
  refine ⟨fun b o hb e => F.keep b o (hideAll_get _ e hb), fun p hp => ⟨(N p hp).1, ?_⟩⟩
  cases x : h.get? p.1 with
  | none => exact .inl rfl
  | some o =>
    by_cases q : p.1 ∈ mu.map (·.1)
    · exact .inr q
    · have := (N p hp).2.2
      rw [hideAll_get _ x q] at this; cases this
/-- a def is entered with things that it may change; any end -/
theorem enterR {prog : Program} {w : World} {A₀ A : Around} {base h₀ : Heap} {outer : List Env} {env : Env} {L : Addr} {m : Str → Option Value} {s : Shared} {R : Result → Shared → Prop} {K : Frag} {p : Program} {loose : List Str} {mean : ExcName → Option Value} {mg mb : Str → Option Value}
    {name qual : Str} {params : Arguments} {body : List Stmt} {scope : Scope} {dV kV doc pm cdv ct oc : Value} {an od : Option Addr} {osl : Array (Option Value)} {f : Addr} {args : Args} {binds : List (Str × Value)} {mu : List (Addr × Obj)}
    (B : Below A₀ base outer h₀) (F : Fr h₀ L s.heap m) (X : K.In h₀) (T : Top p loose mean mg mb h₀) (hA : A.frames = some (env :: outer)) (hf : env.frame = some L) (hke : env.scope.kind = .function) (Nm : News h₀ L s.heap mu)
    (ho : K.lookup f = some ⟨oc, od, .func (fnOf name qual params body scope dV kV doc pm an cdv ct), osl⟩) (hcd : codeIn K cdv qual = true) (hroom : A.depth < recursionLimit)
    (hbind : BindsTo s (fnOf name qual params body scope dV kV doc pm an cdv ct) args binds) (hloc : ∀ y ∈ binds, scope.names.lookup y.1 = some .local)
    (hcell : ∀ x ∈ scope.names, x.2 ≠ .cell) (hco : scope.isCoroutine = false) (hgen : scope.isGenerator = false) (hk : scope.kind = .function)
    (h : ∀ L' h₁, Fr (hideAll s.heap (mu.map (·.1))) L' h₁ (fun y => binds.reverse.lookup y) → News (hideAll s.heap (mu.map (·.1))) L' h₁ mu → Below A base (env :: outer) (hideAll s.heap (mu.map (·.1))) → K.In (hideAll s.heap (mu.map (·.1))) → Top p loose mean mg mb (hideAll s.heap (mu.map (·.1))) →
      wpAny (model prog w) (A.deeper (envOf qual scope L' f cdv)) (execs body (envOf qual scope L' f cdv)) (fun fl s' => R (.ok (.ret (match fl with | .ret v => v | _ => .none))) s') (fun _ _ => False) { s with heap := h₁, toks := s.toks + binds.length }) :
    codeAny (model prog w) A (.call (.ref f) args) R s := by
  obtain ⟨_, BG, st, _⟩ := groundX (R := R) B F Nm hA hf hke
  refine codeAny_call_def (fd := fnOf name qual params body scope dV kV doc pm an cdv ct) (body := body) (binds := binds) hroom ((X.keeps F.keep) _ _ ho) rfl (T.nolimit.keeps F.keep) (codeRec_of (X.keeps F.keep) hcd) rfl hbind hcell hloc (fun h₁ hns hk₁ => ?_) hco hgen hk
  refine wpAny_mono (h s.heap.objs.size h₁ ⟨hns, fun b o e => hk₁ b o (of_hideAll _ e), Nat.le_of_eq (hideAll_size _ _)⟩
    (fun p hp => ⟨hk₁ _ _ (Nm p hp).1, Nat.ne_of_lt (Heap.lt_size (Nm p hp).1), hideAll_none _ (List.mem_map_of_mem hp)⟩) BG (X.keeps st) (T.keeps st)) (fun fl s' hl => hl) fun _ _ y => y.elim
theorem enterM {prog : Program} {w : World} {A₀ : Around} {base h₀ : Heap} {outer : List Env} {cn : Str} {cs : Scope} {L a : Addr} {ccd : Value} {cl : List (Str × Addr)} {gd : Option (List Code)} {m : Str → Option Value} {s : Shared} {Q E : Value → Shared → Prop} {K : Frag} {p : Program} {loose : List Str} {mean : ExcName → Option Value} {mg mb : Str → Option Value}
    {name qual : Str} {params : Arguments} {body : List Stmt} {scope : Scope} {dV kV doc pm cdv ct oc : Value} {an od : Option Addr} {osl : Array (Option Value)} {f : Addr} {args : Args} {binds : List (Str × Value)} {dp un : Nat} {mu : List (Addr × Obj)} (DP UN : Nat)
    (B : Below A₀ base outer h₀) (F : Fr h₀ L s.heap m) (X : K.In h₀) (T : Top p loose mean mg mb h₀) (hke : cs.kind = .function) (hd : dp ≤ DP) (hu : un ≤ UN) (Nm : News h₀ L s.heap mu)
    (ho : K.lookup f = some ⟨oc, od, .func (fnOf name qual params body scope dV kV doc pm an cdv ct), osl⟩) (hcd : codeIn K cdv qual = true) (hroom : DP < recursionLimit)
    (hbind : BindsTo s (fnOf name qual params body scope dV kV doc pm an cdv ct) args binds) (hloc : ∀ y ∈ binds, scope.names.lookup y.1 = some .local)
    (hcell : ∀ x ∈ scope.names, x.2 ≠ .cell) (hco : scope.isCoroutine = false) (hgen : scope.isGenerator = false) (hk : scope.kind = .function)
    (h : ∀ L' h₁, Fr (hideAll s.heap (mu.map (·.1))) L' h₁ (fun y => binds.reverse.lookup y) → News (hideAll s.heap (mu.map (·.1))) L' h₁ mu → Below (ktrTop DP UN gd cn cs L a ccd cl outer) base (envX cn cs L a ccd cl :: outer) (hideAll s.heap (mu.map (·.1))) → K.In (hideAll s.heap (mu.map (·.1))) → Top p loose mean mg mb (hideAll s.heap (mu.map (·.1))) →
      wpAny (model prog w) ((ktrTop DP UN gd cn cs L a ccd cl outer).deeper (envOf qual scope L' f cdv)) (execs body (envOf qual scope L' f cdv)) (fun fl s' => Q (match fl with | .ret v => v | _ => .none) s') (fun _ _ => False) { s with heap := h₁, toks := s.toks + binds.length }) :
    wpAny (model prog w) (ktrTop dp un gd cn cs L a ccd cl outer) (call (.ref f) args.pos args.kw) Q E s :=
  weaken hd hu (wpAny_call (enterR B F X T rfl rfl hke Nm ho hcd hroom hbind hloc hcell hco hgen hk h))
end Mine
end
section
open PySem PySem.W PyProof.Rows PySem.Calls PyProof.V PySem.Spec
namespace Mine
section
variable {prog : Program} {w : World} {A : Around} {E : Value → Shared → Prop} {s : Shared} {env : Env} {h₀ : Heap} {x : Str} {body : List Stmt} {Q : Flow → Shared → Prop}
/-- a turn's end: the iterator's object stands, the rest is the word's -/
noncomputable def EndG (h₀ : Heap) (L I : Addr) (oI : Obj) (J : (Str → Option Value) → List (Addr × Obj) → Prop) (s₁ s₂ : Shared) : Prop :=
  ∃ h' tk m' nx, s₂ = { s₁ with heap := h', toks := tk } ∧ Fr h₀ L h' m' ∧ News h₀ L h' ((I, oI) :: nx) ∧ (∀ p ∈ nx, p.1 ≠ I) ∧ J m' nx
noncomputable def PostG (h₀ : Heap) (L I : Addr) (oI : Obj) (J : (Str → Option Value) → List (Addr × Obj) → Prop) (s₁ : Shared) (Q : Flow → Shared → Prop) (f : Flow) (s₂ : Shared) : Prop :=
  match f with
  | .ret v => Q (.ret v) s₂
  | .brk => Q .next s₂
  | _ => EndG h₀ L I oI J s₁ s₂
theorem loop_G {I : Addr} {n : Nat} {P : Nat → Value → Prop} {St : Nat → Heap → Prop} {m₀ : Str → Option Value} {news : List (Addr × Obj)} (J : Nat → (Str → Option Value) → List (Addr × Obj) → Prop)
    (W : Walks prog w A I [I] [I] n P St) (hI : ∀ i h, St i h → ∃ o, h.get? I = some o) (hL : env.locals ≠ I) (h0 : h₀.get? I = none) (hnI : ∀ p ∈ news, p.1 ≠ I) (hst : St 0 s.heap) (F : Fr h₀ env.locals s.heap m₀) (N : News h₀ env.locals s.heap news) (hj : J 0 m₀ news)
    (turn : ∀ i v m₁ nx h tk oI, i < n → P i v → (∀ p ∈ nx, p.1 ≠ I) → J i m₁ nx → Fr h₀ env.locals h (fun y => if y = x then some v else m₁ y) → News h₀ env.locals h ((I, oI) :: nx) →
      wpAny (model prog w) A (execs body env) (PostG h₀ env.locals I oI (J (i + 1)) { s with heap := h, toks := tk } Q) E { s with heap := h, toks := tk })
    (done : ∀ m₁ nx h tk, J n m₁ nx → Fr h₀ env.locals h m₁ → News h₀ env.locals h nx → Q .next { s with heap := h, toks := tk }) :
    LoopAtV prog w A h₀ env x body Q E (.ref I) s := by
  refine ⟨I, [I], [I], n, P, St, m₀, news, J, rfl, W, fun q => hL (List.mem_singleton.mp q), fun b hb => by rw [List.mem_singleton.mp hb]; exact h0, fun p hp q => hnI p hp (List.mem_singleton.mp q), hst, F, N, hj, ?_, ?_⟩
  · rintro i v m₁ nx s₁ own ⟨h, tk, rfl⟩ hi hP hJ hoff hown hown2 hfp hst' F₁ N₁
    obtain ⟨oI, hoI⟩ := hI _ _ hst'
    have hIown := hfp I (.head _) h0 oI hoI
    have hn : ∀ p ∈ nx, p.1 ≠ I := fun p hp q => hoff p hp (List.mem_singleton.mpr q)
    have N₂ : News h₀ env.locals h ((I, oI) :: nx) := fun p hp => by
      rcases List.mem_cons.mp hp with rfl | hp
      · exact N₁ _ (List.mem_append_left _ hIown)
      · exact N₁ _ (List.mem_append_right _ hp)
    refine wpAny_mono (turn i v m₁ nx h tk oI hi hP hn hJ F₁ N₂) (fun f s₂ p => ?_) fun _ _ e => e
    have fin : EndG h₀ env.locals I oI (J (i + 1)) { s with heap := h, toks := tk } s₂ → LoopStepU h₀ env.locals [I] own (J (i + 1)) { s with heap := h, toks := tk } .next s₂ := by
      rintro ⟨h', tk', m', nx', e, F', N', ha, hj'⟩
      refine ⟨rfl, h', tk', m', nx', e, F', fun p hp => ?_, fun p hp q => ha p hp (List.mem_singleton.mp q), hj'⟩
      rcases List.mem_append.mp hp with q | q
      · have e1 : p.1 = I := List.mem_singleton.mp (hown p q)
        have e2 := hown2 p q
        rw [e1] at e2
        have e3 : p.2 = oI := Option.some.inj (e2.symm.trans hoI)
        have : p = (I, oI) := Prod.ext e1 e3
        rw [this]; exact N' _ (.head _)
      · exact N' _ (.tail _ q)
    cases f with
    | ret v => exact .ret p
    | brk => exact .brk p
    | next => exact .next (fin p)
    | cont => exact .cont (fin p)
  · rintro h' tk m' nx' F' N' _ hJ
    exact done m' nx' h' tk hJ F' N'
theorem EndG.intro {σ : Type} {Led : σ → List (Addr × Obj)} {ps : σ → List (Str × Value)} {Facts : σ → Prop} {stored : List Str} {m₀ : Str → Option Value} {P : List Int → σ → Prop} {pre : List Int} {L I : Addr} {oI : Obj} (c : σ) {m' : Str → Option Value} {news' : List (Addr × Obj)} {s₁ : Shared} {h' : Heap} {tk : Nat}
    (F : Fr h₀ L h' m') (N : News h₀ L h' news') (hn : ∀ p ∈ (I, oI) :: Led c, p ∈ news') (ha : ∀ p ∈ Led c, p.1 ≠ I) (hf : Facts c) (hk : ∀ p ∈ ps c, m' p.1 = some p.2) (hr : ∀ z, z ≠ x → (∀ p ∈ ps c, z ≠ p.1) → stored.contains z = false → m' z = m₀ z) (hp : P pre c) :
    EndG h₀ L I oI (KstS Led ps Facts x stored m₀ P pre) s₁ { s₁ with heap := h', toks := tk } :=
  ⟨h', tk, m', Led c, rfl, F, fun p hp => N p (hn p hp), ha, c, rfl, hf, hk, hr, hp⟩
theorem textG {σ : Type} {xt : Str} {tx : Tok} {m₀ : Str → Option Value} (Led : σ → List (Addr × Obj)) (ps : σ → List (Str × Value)) (Facts : σ → Prop) (stored : List Str) (P : List Int → σ → Prop) (c₀ : σ)
    (hh : A.handled = none) (F : Fr h₀ env.locals s.heap m₀) (N : News h₀ env.locals s.heap (Led c₀)) (hf : Facts c₀) (hk : ∀ p ∈ ps c₀, m₀ p.1 = some p.2) (hp : P [] c₀)
    (turn : ∀ (I : Addr) (c : σ) (pre post : List Int) (n : Nat) t (u : Str → Option Value) h tk oI, KStt.codes xt = pre ++ (n : Int) :: post → (∀ p ∈ Led c, p.1 ≠ I) → Facts c → P pre c →
      Fr h₀ env.locals h (fun y => if y = x then some (.str ⟨#[n]⟩ t) else kstB (fun z => if stored.contains z then u z else m₀ z) (ps c) y) → News h₀ env.locals h ((I, oI) :: Led c) →
      wpAny (model prog w) A (execs body env) (PostG h₀ env.locals I oI (KstS Led ps Facts x stored m₀ P (pre ++ [(n : Int)])) { s with heap := h, toks := tk } Q) E { s with heap := h, toks := tk })
    (done : ∀ (c : σ) (u : Str → Option Value) h tk, Facts c → P (KStt.codes xt) c → Fr h₀ env.locals h (fun y => if y = x then u y else kstB (fun z => if stored.contains z then u z else m₀ z) (ps c) y) → News h₀ env.locals h (Led c) → Q .next { s with heap := h, toks := tk }) :
    wpAny (model prog w) A (pyIter (.str xt tx)) (fun it s₂ => LoopAtV prog w A h₀ env x body Q E it s₂) E s := by
  refine wpAny_pyIter_strU ?_
  have ex : ∃ St : Nat → Heap → Prop, Walks prog w A s.heap.objs.size [s.heap.objs.size] [s.heap.objs.size] xt.cps.size (SignAt xt) St ∧ (∀ i h, St i h → ∃ o, h.get? s.heap.objs.size = some o) ∧ St 0 (s.heap.push { cls := .type (strIterType xt), data := .fields #[.str xt tx, .int 0 0] }) := by
    cases ha : xt.cps.all (· < 128)
    · refine ⟨_, Walks.strWide hh _ xt tx, fun i h st => let ⟨o, ho, _⟩ := st; ⟨o, ho⟩, ⟨_, Heap.get?_push_size _ rfl, ?_, rfl⟩⟩
      simp [strIterType, ha]
    · refine ⟨_, Walks.strAscii hh _ xt tx, fun i h st => let ⟨o, ho, _⟩ := st; ⟨o, ho⟩, ⟨_, Heap.get?_push_size _ rfl, ?_, rfl⟩⟩
      simp [strIterType, ha]
  obtain ⟨St, W, hI, hst⟩ := ex
  refine loop_G (s := { s with heap := s.heap.push _ }) (fun i m nx => KstS Led ps Facts x stored m₀ P ((KStt.codes xt).take i) m nx) W hI (Nat.ne_of_lt F.ns.lt) (next_is_new F) (fun p hp => Nat.ne_of_lt (Heap.lt_size (N p hp).1)) hst (F.push _) (fun p hp => ⟨Heap.get?_push_of_some _ (N p hp).1, (N p hp).2⟩) ⟨c₀, rfl, hf, hk, fun _ _ _ _ => rfl, by simpa using hp⟩ ?_ ?_
  · rintro i v m₁ nx h tk oI hi ⟨n, u, hn, rfl⟩ hoff ⟨c, rfl, hf', h1, h2, hp'⟩ F₁ N₁
    have hn' := KStt.code_at hn
    have hs : (KStt.codes xt).take (i + 1) = (KStt.codes xt).take i ++ [(n : Int)] := by simp [List.take_add_one, hn']
    have e : KStt.codes xt = (KStt.codes xt).take i ++ (n : Int) :: (KStt.codes xt).drop (i + 1) := by
      have ht := List.take_append_drop (i + 1) (KStt.codes xt)
      rw [hs, List.append_assoc] at ht
      exact ht.symm
    rw [hs]
    exact turn _ c _ _ n u m₁ h tk oI e hoff hf' hp' (kst_fr h1 h2 F₁) N₁
  · rintro m₁ nx h tk ⟨c, rfl, hf', h1, h2, hp'⟩ F₁ N₁
    have hl : xt.cps.size = (KStt.codes xt).length := (KStt.codes_length xt).symm
    rw [hl, List.take_length] at hp'
    exact done c m₁ h tk hf' hp' (kst_frOut h1 h2 F₁) N₁
theorem rangeG {σ : Type} {r : Addr} {a₀ b₀ : Int} {t₀ u₀ v₀ : Tok} {n : Nat} {m₀ : Str → Option Value} (Led : σ → List (Addr × Obj)) (ps : σ → List (Str × Value)) (Facts : σ → Prop) (stored : List Str) (P : List Int → σ → Prop) (c₀ : σ)
    (hh : A.handled = none) (hr : IsRange s.heap r a₀ b₀ 1 t₀ u₀ v₀) (hsmall : Builtin.Range.small a₀ b₀ 1 = true) (hn : Builtin.Range.rangeSize a₀ b₀ 1 = (n : Int)) (F : Fr h₀ env.locals s.heap m₀) (N : News h₀ env.locals s.heap (Led c₀)) (hf : Facts c₀) (hk : ∀ p ∈ ps c₀, m₀ p.1 = some p.2) (hp : P [] c₀)
    (turn : ∀ (I : Addr) (c : σ) (pre : List Int) (k : Int) t (u : Str → Option Value) h tk oI, k = a₀ + (pre.length : Int) → pre.length < n → (∀ p ∈ Led c, p.1 ≠ I) → Facts c → P pre c →
      Fr h₀ env.locals h (fun y => if y = x then some (.int k t) else kstB (fun z => if stored.contains z then u z else m₀ z) (ps c) y) → News h₀ env.locals h ((I, oI) :: Led c) →
      wpAny (model prog w) A (execs body env) (PostG h₀ env.locals I oI (KstS Led ps Facts x stored m₀ P (pre ++ [k])) { s with heap := h, toks := tk } Q) E { s with heap := h, toks := tk })
    (done : ∀ (c : σ) (u : Str → Option Value) h tk, Facts c → P (rangeKs a₀ n) c → Fr h₀ env.locals h (fun y => if y = x then u y else kstB (fun z => if stored.contains z then u z else m₀ z) (ps c) y) → News h₀ env.locals h (Led c) → Q .next { s with heap := h, toks := tk }) :
    wpAny (model prog w) A (pyIter (.ref r)) (fun it s₂ => LoopAtV prog w A h₀ env x body Q E it s₂) E s := by
  refine wpAny_pyIter_range hr hsmall ?_
  have W : Walks prog w A s.heap.objs.size [s.heap.objs.size] [s.heap.objs.size] n (fun i v => i < n ∧ ∃ t, v = .int (a₀ + i * 1) t)
      (fun i h => IsRangeIter h s.heap.objs.size (a₀ + (i : Nat) * 1) ((n : Int) - (i : Nat)) 1) := (Walks.range hh _ a₀ 1 n).bound
  refine loop_G (fun i m nx => KstS Led ps Facts x stored m₀ P ((rangeKs a₀ n).take i) m nx) W (fun i h st => ⟨_, st⟩) (Nat.ne_of_lt F.ns.lt) (next_is_new F) (fun p hp => Nat.ne_of_lt (Heap.lt_size (N p hp).1)) (by show IsRangeIter _ _ _ _ _; rw [hn]; simpa using Heap.get?_push_size _ rfl) (F.push _) (fun p hp => ⟨Heap.get?_push_of_some _ (N p hp).1, (N p hp).2⟩) ⟨c₀, rfl, hf, hk, fun _ _ _ _ => rfl, by simpa using hp⟩ ?_ ?_
  · rintro i v m₁ nx h tk oI hi ⟨_, t, rfl⟩ hoff ⟨c, rfl, hf', h1, h2, hp'⟩ F₁ N₁
    have e1 : a₀ + (i : Int) * 1 = a₀ + (i : Int) := by omega
    rw [e1] at F₁
    have hk' : (rangeKs a₀ n)[i]? = some (a₀ + (i : Int)) := by simp [rangeKs, hi]
    have hs : (rangeKs a₀ n).take (i + 1) = (rangeKs a₀ n).take i ++ [a₀ + (i : Int)] := by simp [List.take_add_one, hk']
    have hlen : ((rangeKs a₀ n).take i).length = i := by rw [List.length_take, rangeKs_length]; omega
    rw [hs]
    exact turn _ c _ _ t m₁ h tk oI (by rw [hlen]) (by rw [hlen]; exact hi) hoff hf' hp' (kst_fr h1 h2 F₁) N₁
  · rintro m₁ nx h tk ⟨c, rfl, hf', h1, h2, hp'⟩ F₁ N₁
    have hl : (rangeKs a₀ n).take n = rangeKs a₀ n := List.take_of_length_le (Nat.le_of_eq (rangeKs_length _ _))
    rw [hl] at hp'
    exact done c m₁ h tk hf' hp' (kst_frOut h1 h2 F₁) N₁
end
end Mine
end
section
open PySem PySem.W PyProof.Rows PySem.Calls
namespace Mine
theorem fill2 (w : World) (h : Heap) : (K w.params).In h → PySem.Challenge.rw_tp0056_01.foot = 8 := by
  k_fill
  intro _
  rfl
theorem bits_le {x : Int} (h0 : 0 ≤ x) (h : x < 4096) : (Builtin.Int.intBits x) ≤ 12 := by
  unfold Builtin.Int.intBits
  split
  · omega
  · have : x.natAbs < 2 ^ 12 := by omega
    have h2 := (Nat.log2_lt (by rename_i hx; simp at hx; omega)).mpr this
    omega
set_option maxHeartbeats 2000000 in
theorem div_spec (w : World) {p : Program} {loose : List Str} {mean : ExcName → Option Value} {mg mb : Str → Option Value} {cn : Str} {cs : Scope} {L a : Addr} {ccd : Value} {cl : List (Str × Addr)} {outer : List Env} {A₀ : Around} {base h₀ : Heap} {m : Str → Option Value} {s : Shared} {Q E : Value → Shared → Prop} {dp un : Nat} {x b n : Int} {t1 t2 t3 : Tok}
    (B : Below A₀ base outer h₀) (F : Fr h₀ L s.heap m) (X : (K w.params).In h₀) (T : Top p loose mean mg mb h₀) (hke : cs.kind = .function) (hd : dp ≤ 900) (hu : un ≤ 9000)
    (hx0 : 0 ≤ x) (hx : x < 4096) (hb : 0 < b) (hb' : b < 4096) (hn : 0 ≤ n) (hn' : n < 64)
    (ret : ∀ l t t' h' tk, Kept s.heap h' [(l, { cls := .type "tuple", data := .seq #[.int (x / b) t, .int (x % b) t'] })] → Q (.ref l) { s with heap := h', toks := tk }) :
    wpAny (model PySem.Challenge.rw_tp0056_01.row.prog w) (ktrTop dp un (some []) cn cs L a ccd cl outer) (call (.ref 45) [.int x t1, .int b t2, .int n t3] []) Q E s := by
  refine enter (args := ⟨[.int x t1, .int b t2, .int n t3], []⟩) 900 9000 B F X T hke hd hu (k45 _) (c45 _) (by decide) (BindsTo.of_eq rfl) (locs rfl) (by decide) rfl rfl rfl ?_
  clear B F X T
  intro L' h₁ F N B X T
  dsimp only [lb45, ls45, la45]
  have hbits := bits_le hx0 hx
  k_steps
  have e1 : Int.fdiv x b = x / b := Int.fdiv_eq_ediv_of_nonneg _ (by omega)
  have e2 : Int.fmod x b = x % b := Int.fmod_eq_emod_of_nonneg _ (by omega)
  rename_i _ F' N'
  rw [e1, e2] at N'
  exact ret _ _ _ _ _ (Kept.of F' N')
end Mine
end
section
open PySem PySem.W PyProof.Rows PySem.Calls
namespace Mine
theorem fillAlone (w : World) (h : Heap) : (K w.params).In h → PySem.Challenge.rw_tp0056_01.foot = 8 := by
  k_fill
  intro _
  rfl
local macro_rules | `(tactic| walk_at "KswEnd") => `(tactic| refine held ?_)
local macro_rules | `(tactic| walk_at "InvEndN") => `(tactic| refine held ?_)
local macro_rules | `(tactic| walk_at "call builtin:list.append") => `(tactic| (k_dflt (refine append_H (by assumption) (by assumption) (by assumption) (by assumption) ?_); intro _ _ _))
local macro_rules | `(tactic| walk_at "s1") => `(tactic| first | (k_unfold; (try dsimp only)) | walk1 | (dsimp only; walk1))
noncomputable def turned (x : Str) (k : Int) : Str := Txt.slice x (some k) none ++ Txt.slice x none (some k)
noncomputable def noB (x : Str) (k j : Int) : Bool := Txt.slice (turned x k) none (some j) != Txt.slice (turned x k) (some ((x.length : Int) - j)) none
noncomputable def aloneAt (x : Str) (k : Int) : Int := if (List.range (x.length - 1)).all fun j => noB x k ((j : Int) + 1) then 1 else 0
theorem aloneAt_0 {x : Str} {k d : Int} (h1 : 1 ≤ d) (h2 : d < x.length) (h : noB x k d = false) : aloneAt x k = 0 := by
  unfold aloneAt
  rw [if_neg]
  intro ha
  have := List.all_eq_true.mp ha (d.toNat - 1) (List.mem_range.mpr (by omega))
  have e : ((d.toNat - 1 : Nat) : Int) + 1 = d := by omega
  rw [e, h] at this; cases this
theorem aloneAt_1 {x : Str} {k : Int} (h : ∀ j : Int, 1 ≤ j → j < x.length → noB x k j = true) : aloneAt x k = 1 := by
  unfold aloneAt
  rw [if_pos]
  refine List.all_eq_true.mpr fun j hj => h _ (by omega) (by have := List.mem_range.mp hj; omega)
set_option maxHeartbeats 2000000 in
theorem alone_spec (w : World) {p : Program} {loose : List Str} {mean : ExcName → Option Value} {mg mb : Str → Option Value} {cn : Str} {cs : Scope} {L a : Addr} {ccd : Value} {cl : List (Str × Addr)} {outer : List Env} {A₀ : Around} {base h₀ : Heap} {m : Str → Option Value} {s : Shared} {Q E : Value → Shared → Prop} {dp un : Nat} {x : Str} {t1 : Tok}
    (B : Below A₀ base outer h₀) (F : Fr h₀ L s.heap m) (X : (K w.params).In h₀) (T : Top p loose mean mg mb h₀) (hke : cs.kind = .function) (hd : dp ≤ 900) (hu : un ≤ 9000)
    (hx0 : 1 ≤ x.length) (hx : x.length ≤ 9)
    (ret : ∀ l vs e h' tk, IntsAre vs ((rangeKs 0 x.length).map (aloneAt x)) → Kept s.heap h' [(l, listOf vs.toArray e)] → Q (.ref l) { s with heap := h', toks := tk }) :
    wpAny (model PySem.Challenge.rw_tp0056_01.row.prog w) (ktrTop dp un (some []) cn cs L a ccd cl outer) (call (.ref 310) [.str x t1] []) Q E s := by
  refine enter (args := ⟨[.str x t1], []⟩) (binds := [(Str.ofString "word", .str x t1)]) 900 9000 B F X T hke hd hu (k310 _) (c310 _) (by decide) (BindsTo.of_eq rfl) (locs rfl) (by decide) rfl rfl rfl ?_
  clear B F X T
  intro L' h₁ F N B X T
  dsimp only [lb310, ls310, la310]
  replace F : Fr s.heap L' h₁ (fun y => List.lookup y [(Str.ofString "word", Value.str x t1)]) := F

  iterate 27 (walk_at "s1")
  rename IsRange _ _ _ _ _ _ _ _ => hR
  rename Fr _ _ _ _ => F1
  rename News _ _ _ _ => N1
  refine kst_range (σ := Nat × List Value) (n := x.length) (x := Str.ofString "place") (fun c => [(_, listOf c.2.toArray c.1)]) (fun _ => []) (fun _ => True) [Str.ofString "turned", Str.ofString "k"] (fun pre c => IntsAre c.2 (pre.map (aloneAt x))) (0, []) rfl hR ?_ ?_ F1 N1 trivial (fun _ hp => nomatch hp) IntsAre.nil ?_ ?_
  · exact small_one (by omega) (by omega) (by omega) (by omega)
  · rw [rangeSize_one]; split <;> omega
  · intro c pre k t u h tk own hk hl hoff _ hP F2 N2
    iterate 26 (walk_at "s1")
    rename Fr _ _ _ _ => F3
    rename News _ _ _ _ => N3
    refine ksw_while (σ := Int × Tok) (fun _ => [(_, listOf c.2.toArray c.1)] ++ own) (fun d => [(Str.ofString "k", .int d.1 d.2)]) (fun _ => True) [] (fun d => 1 ≤ d.1 ∧ d.1 ≤ x.length ∧ ∀ j : Int, 1 ≤ j → j < d.1 → noB x k j = true) (fun d => (x.length - d.1).toNat) (1, _) F3 N3 trivial (List.forall_mem_singleton.mpr rfl) ⟨Int.le_refl 1, by dsimp only; omega, fun j a b => absurd a (by dsimp only at b; omega)⟩ ?_
    intro d u2 h2 tk2 _ hP2 F4 N4
    obtain ⟨g1, g2, g3⟩ := hP2
    have hap : ∀ p ∈ own, p.1 ≠ _ := OwnOff.ne hoff (.head _)
    have hsz : c.2.toArray.size ≤ sizeLine := by
      rw [List.size_toArray, hP.length, List.length_map]
      exact Nat.le_trans (Nat.le_of_lt hl) (Nat.le_trans hx (by decide))
    k_steps
    · rename_i hb _ _ _
      rename Fr _ _ _ _ => F5
      rename News _ _ _ _ => N5
      refine ksw_end (d.1 + 1, _) F5 N5 (fun _ hp => hp) trivial (List.forall_mem_singleton.mpr rfl) ?_ ⟨by dsimp only; omega, by dsimp only; omega, fun j a b => ?_⟩ (by dsimp only; omega)
      · intro z z1 _
        have hz : z ≠ Str.ofString "k" := z1 _ (.head _)
        simp only [kstB, if_neg hz, List.contains_nil, Bool.false_eq_true, if_false]
      · by_cases e : j = d.1
        · subst e; exact hb
        · exact g3 j a (by dsimp only at b; omega)
    all_goals (try (exfalso; omega))
    · rename_i hb _ _ _ _
      rename Fr _ _ _ _ => F5
      rename News _ _ _ _ => N5
      rw [List.push_toArray] at N5
      refine kst_end (c.1 + 1, c.2 ++ [.int 0 _]) F5 N5 (List.forall_mem_singleton.mpr (.head _)) (fun p hp => .tail _ hp) rfl trivial (fun _ hp => nomatch hp) ?_ ?_
      · intro z z0 _ z3
        simp only [List.contains_cons, List.contains_nil, Bool.or_false, Bool.or_eq_false_iff, beq_eq_false_iff_ne, ne_eq] at z3
        simp only [kstB, if_neg z0, if_neg z3.1, if_neg z3.2, List.contains_cons, List.contains_nil, Bool.or_false, Bool.false_eq_true, if_false, beq_eq_false_iff_ne.mpr z3.1, beq_eq_false_iff_ne.mpr z3.2]
      · rw [List.map_append, List.map_singleton, aloneAt_0 g1 (by omega) hb]
        exact ints_snoc hP
    · rename Fr _ _ _ _ => F5
      rename News _ _ _ _ => N5
      rw [List.push_toArray] at N5
      refine kst_end (c.1 + 1, c.2 ++ [.int 1 _]) F5 N5 (List.forall_mem_singleton.mpr (.head _)) (fun p hp => .tail _ hp) rfl trivial (fun _ hp => nomatch hp) ?_ ?_
      · intro z z0 _ z3
        simp only [List.contains_cons, List.contains_nil, Bool.or_false, Bool.or_eq_false_iff, beq_eq_false_iff_ne, ne_eq] at z3
        simp only [kstB, if_neg z0, if_neg z3.1, if_neg z3.2, List.contains_cons, List.contains_nil, Bool.or_false, Bool.false_eq_true, if_false, beq_eq_false_iff_ne.mpr z3.1, beq_eq_false_iff_ne.mpr z3.2]
      · rw [List.map_append, List.map_singleton, aloneAt_1 (fun j a b => g3 j a (by omega))]
        exact ints_snoc hP
  · intro c u h tk _ hP F2 N2
    k_steps
    exact ret _ _ _ _ _ hP (Kept.of F2 N2)
end Mine
end
section
open PySem PySem.W PyProof.Rows PySem.Calls PyProof.V PySem.Spec
namespace Mine
theorem fillWs (w : World) (h : Heap) : (K w.params).In h → PySem.Challenge.rw_tp0056_01.foot = 8 := by
  k_fill
  intro _
  rfl
local macro_rules | `(tactic| walk_at "EndG") => `(tactic| refine held ?_)
local macro_rules | `(tactic| walk_at "PostG") => `(tactic| dsimp only [PostG])
local macro_rules | `(tactic| walk_at "s1") => `(tactic| first | (k_unfold; (try dsimp only)) | walk1 | (dsimp only; walk1))
theorem flat0 (k : Nat) : (List.replicate k [(0 : Int)]).flatten = List.replicate k 0 := by
  induction k with
  | zero => rfl
  | succ k ih => rw [List.replicate_succ, List.flatten_cons, ih]; rfl
theorem close3 {g h' : Heap} {L I x d D : Addr} {oI oD ox od : Obj} {R : List (Addr × Obj)} {m' : Str → Option Value} {J : (Str → Option Value) → List (Addr × Obj) → Prop} {s : Shared} {tk : Nat}
    (F : Fr g L h' m') (N : News g L h' R) (hI : (I, oI) ∈ R) (hD : (D, oD) ∈ R) (hx : (x, ox) ∈ R) (hd : (d, od) ∈ R) (a1 : D ≠ I) (a2 : x ≠ I) (a3 : d ≠ I) (j : J m' [(D, oD), (x, ox), (d, od)]) : EndG g L I oI J s { s with heap := h', toks := tk } := by
  refine ⟨h', tk, m', _, rfl, F, fun p hp => N p ?_, ?_, j⟩
  · simp only [List.mem_cons, List.not_mem_nil, or_false] at hp
    rcases hp with rfl | rfl | rfl | rfl
    · exact hI
    · exact hD
    · exact hx
    · exact hd
  · intro p hp
    simp only [List.mem_cons, List.not_mem_nil, or_false] at hp
    rcases hp with rfl | rfl | rfl <;> assumption
structure WsSt where
  cl : Addr
  vs : List Value
  e : Nat
  b : Int
  n : Int
  nt : Int
  tb : Tok
  tn : Tok
  tt : Tok
/-- the reading of a lead: counts, the run of blanks, signs, tabs -/
structure WsP where
  counts : List Int
  b : Nat
  n : Nat
  nt : Nat
noncomputable def grow (cs : List Int) (b : Nat) : List Int := if cs.length ≤ b then cs ++ List.replicate (b - cs.length + 1) 0 else cs
noncomputable def wsStep (p : WsP) (c : Int) : WsP := if c = 32 then ⟨p.counts, p.b + 1, p.n + 1, p.nt⟩ else ⟨(grow p.counts p.b).set p.b ((grow p.counts p.b).getD p.b 0 + 1), 0, p.n + 1, p.nt + 1⟩
noncomputable def wsRead (l : List Int) : WsP := l.foldl wsStep ⟨[], 0, 0, 0⟩
noncomputable def forBody : Stmt → List Stmt | .For _ _ b .. => b | _ => []
noncomputable def lbWs : {b : List Stmt // forBody (lb100.1.getD 4 (.Pass default)) = b} := by
  refine' ⟨_, _⟩
  rotate_left
  · (conv => lhs; whnf)
noncomputable abbrev mWs (x cl : Addr) (b n nt : Int) (tb tn tt : Tok) (y : Str) (t1 tS tT : Tok) (z : Str) : Option Value :=
  if z = Str.ofString "nt" then some (.int nt tt) else if z = Str.ofString "n" then some (.int n tn) else if z = Str.ofString "b" then some (.int b tb) else if z = Str.ofString "count" then some (.ref cl)
  else if z = Str.ofString "S" then some (.str (Str.ofString " ") tS) else if z = Str.ofString "T" then some (.str (Str.ofString "\t") tT) else List.lookup z [(Str.ofString "ws", .str y t1), (Str.ofString "self", .ref x)]
set_option maxHeartbeats 2000000 in
theorem ws_turn (w : World) {A : Around} {p : Program} {loose : List Str} {mean : ExcName → Option Value} {mg mb : Str → Option Value} {A₀ : Around} {base g : Heap} {outer : List Env} {L I x d cl : Addr} {oI od : Obj} {s : Shared} {y : Str} {t1 tS tT t tb tn tt : Tok} {b n nt : Int} {vs : List Value} {ns : List Int} {e : Nat} {code : Nat} {J : (Str → Option Value) → List (Addr × Obj) → Prop} {Q : Flow → Shared → Prop}
    (B : Below A₀ base outer g) (X : (K w.params).In g) (T : Top p loose mean mg mb g)
    (F : Fr g L s.heap (fun z => if z = Str.ofString "ch" then some (.str ⟨#[code]⟩ t) else mWs x cl b n nt tb tn tt y t1 tS tT z)) (N : News g L s.heap [(I, oI), (cl, listOf vs.toArray e), (x, instObj 145 d), (d, od)])
    (hc : code = 32 ∨ code = 9) (hI : IntsAre vs ns) (hb0 : 0 ≤ b) (hb : b ≤ 9) (hn : 0 ≤ n) (hn' : n ≤ 9) (hnt : 0 ≤ nt) (hnt' : nt ≤ 9) (hl : ns.length ≤ 10) (a1 : cl ≠ I) (a2 : x ≠ I) (a3 : d ≠ I) (a4 : cl ≠ x) (a5 : cl ≠ d) (a6 : x ≠ d)
    (hJ : ∀ cl' vs' e' b' n' nt' tb' tn' tt' m', cl' ≠ I → cl' ≠ x → cl' ≠ d → IntsAre vs' (wsStep ⟨ns, b.toNat, n.toNat, nt.toNat⟩ code).counts → b' = ((wsStep ⟨ns, b.toNat, n.toNat, nt.toNat⟩ code).b : Int) → n' = ((wsStep ⟨ns, b.toNat, n.toNat, nt.toNat⟩ code).n : Int) → nt' = ((wsStep ⟨ns, b.toNat, n.toNat, nt.toNat⟩ code).nt : Int) →
      m' (Str.ofString "count") = some (.ref cl') → m' (Str.ofString "b") = some (.int b' tb') → m' (Str.ofString "n") = some (.int n' tn') → m' (Str.ofString "nt") = some (.int nt' tt') →
      (∀ z, z ≠ Str.ofString "ch" → z ≠ Str.ofString "count" → z ≠ Str.ofString "b" → z ≠ Str.ofString "n" → z ≠ Str.ofString "nt" → m' z = mWs x cl b n nt tb tn tt y t1 tS tT z) → J m' [(cl', listOf vs'.toArray e'), (x, instObj 145 d), (d, od)]) :
    wpAny (model PySem.Challenge.rw_tp0056_01.row.prog w) A (execs lbWs.1 (envOf (Str.ofString "Whitespace.__init__") ls100.1 L 100 (.ref 99))) (PostG g L I oI J s Q) (fun _ _ => False) s := by
  have hMk := kstMark
  replace a1 := neN a1
  replace a2 := neN a2
  replace a3 := neN a3
  replace a4 := neN a4
  replace a5 := neN a5
  replace a6 := neN a6
  rcases hc with rfl | rfl
  · dsimp only [lbWs, ls100]
    k_steps
    rename Fr _ _ _ _ => F1
    rename News _ _ _ _ => N1
    refine ⟨_, _, _, _, rfl, F1, N1, ?_, hJ cl vs e (b + 1) (n + 1) nt _ _ _ _ a1 a4 a5 ?_ ?_ ?_ ?_ rfl rfl rfl rfl ?_⟩
    · intro p hp
      simp only [List.mem_cons, List.not_mem_nil, or_false] at hp
      rcases hp with rfl | rfl | rfl <;> assumption
    · exact hI
    · show b + 1 = ((b.toNat + 1 : Nat) : Int); omega
    · show n + 1 = ((n.toNat + 1 : Nat) : Int); omega
    · show nt = ((nt.toNat : Nat) : Int); omega
    · intro z z1 z2 z3 z4 z5
      simp only [if_neg z1, if_neg z3, if_neg z4]
  · dsimp only [lbWs, ls100]
    k_steps
    · rename Fr _ _ _ _ => F1
      rename News _ _ _ _ => N1
      rename_i hle _ _ _ _ _ _ _ _ _ _ _ l1b D ws _ i3 l1a _ _ _ i2 _ _ _
      have hg : (wsStep ⟨ns, b.toNat, n.toNat, nt.toNat⟩ ((9 : Nat) : Int)).counts = (ns ++ (List.replicate (b - (ns.length : Int) + 1).toNat [0]).flatten).set b.toNat ((ns ++ (List.replicate (b - (ns.length : Int) + 1).toNat [0]).flatten).getD b.toNat 0 + 1) := by
        show (grow ns b.toNat).set b.toNat ((grow ns b.toNat).getD b.toNat 0 + 1) = _
        have e1 : grow ns b.toNat = ns ++ (List.replicate (b - (ns.length : Int) + 1).toNat [0]).flatten := by
          unfold grow
          rw [if_pos (by omega), flat0]
          have : b.toNat - ns.length + 1 = (b - (ns.length : Int) + 1).toNat := by omega
          rw [this]
        rw [e1]
      refine close3 F1 N1 ?_ ?_ ?_ ?_ (Nat.ne_of_gt l1a.2.2.1) a2 a3 (hJ D _ 0 _ _ _ _ _ _ _ (Nat.ne_of_gt l1a.2.2.1) (Nat.ne_of_gt l1a.2.2.2.2.1) (Nat.ne_of_gt l1a.2.2.2.2.2) (hg ▸ i2) rfl ?_ ?_ rfl rfl rfl rfl ?_)
      any_goals (simp only [List.mem_cons, true_or, or_true])
      · show n + 1 = ((n.toNat + 1 : Nat) : Int); omega
      · show nt + 1 = ((nt.toNat + 1 : Nat) : Int); omega
      · intro z z1 z2 z3 z4 z5
        simp only [if_neg z1, if_neg z2, if_neg z3, if_neg z4, if_neg z5]
    · rename Fr _ _ _ _ => F1
      rename News _ _ _ _ => N1
      rename_i hle _ _ _ _ i2 _ _ _
      have hg : (wsStep ⟨ns, b.toNat, n.toNat, nt.toNat⟩ ((9 : Nat) : Int)).counts = ns.set b.toNat (ns.getD b.toNat 0 + 1) := by
        show (grow ns b.toNat).set b.toNat ((grow ns b.toNat).getD b.toNat 0 + 1) = _
        have e1 : grow ns b.toNat = ns := by
          unfold grow
          rw [if_neg (by omega)]
        rw [e1]
      refine close3 F1 N1 ?_ ?_ ?_ ?_ a1 a2 a3 (hJ cl _ e _ _ _ _ _ _ _ a1 a4 a5 (hg ▸ i2) rfl ?_ ?_ rfl rfl rfl rfl ?_)
      any_goals (simp only [List.mem_cons, true_or, or_true])
      · show n + 1 = ((n.toNat + 1 : Nat) : Int); omega
      · show nt + 1 = ((nt.toNat + 1 : Nat) : Int); omega
      · intro z z1 z2 z3 z4 z5
        simp only [if_neg z1, if_neg z3, if_neg z4, if_neg z5]
end Mine
end
section
open PySem PySem.W PyProof.Rows PySem.Calls PyProof.V PySem.Spec
namespace Mine
local macro_rules | `(tactic| walk_at "EndG") => `(tactic| refine held ?_)
local macro_rules | `(tactic| walk_at "PostG") => `(tactic| dsimp only [PostG])
local macro_rules | `(tactic| walk_at "s1") => `(tactic| first | (k_unfold; (try dsimp only)) | walk1 | (dsimp only; walk1))
theorem ite4 {α : Type} {P1 P2 P3 P4 : Prop} [Decidable P1] [Decidable P2] [Decidable P3] [Decidable P4] {a b c d e f g h i : α} : (if P1 then a else if P2 then b else if P3 then c else if P4 then d else (if P1 then e else if P2 then f else if P3 then g else if P4 then h else i)) = (if P1 then a else if P2 then b else if P3 then c else if P4 then d else i) := by
  by_cases h1 : P1
  · simp only [if_pos h1]
  · by_cases h2 : P2
    · simp only [if_neg h1, if_pos h2]
    · by_cases h3 : P3
      · simp only [if_neg h1, if_neg h2, if_pos h3]
      · by_cases h4 : P4
        · simp only [if_neg h1, if_neg h2, if_neg h3, if_pos h4]
        · simp only [if_neg h1, if_neg h2, if_neg h3, if_neg h4]
theorem mWs_over {x cl cl' : Addr} {b n nt b' n' nt' : Int} {ta tb tc tb' tn' tt' : Tok} {y : Str} {t1 tS tT : Tok} (u : Str → Option Value) (z : Str) :
    kstB (fun z => if ([] : List Str).contains z then u z else mWs x cl b n nt ta tb tc y t1 tS tT z) [(Str.ofString "nt", .int nt' tt'), (Str.ofString "n", .int n' tn'), (Str.ofString "b", .int b' tb'), (Str.ofString "count", .ref cl')] z = mWs x cl' b' n' nt' tb' tn' tt' y t1 tS tT z :=
  ite4
theorem wsRead_snoc (l : List Int) (c : Int) : wsRead (l ++ [c]) = wsStep (wsRead l) c := by
  unfold wsRead; rw [List.foldl_append]; rfl
theorem grow_len (cs : List Int) (b : Nat) : (grow cs b).length ≤ max cs.length (b + 1) := by
  unfold grow; split
  · rw [List.length_append, List.length_replicate]; omega
  · omega
theorem wsFold_le : ∀ (l : List Int) (p : WsP) (k : Nat), p.b ≤ k → p.n ≤ k → p.nt ≤ k → p.counts.length ≤ k + 1 → (l.foldl wsStep p).b ≤ k + l.length ∧ (l.foldl wsStep p).n ≤ k + l.length ∧ (l.foldl wsStep p).nt ≤ k + l.length ∧ (l.foldl wsStep p).counts.length ≤ k + l.length + 1
  | [], p, k, h1, h2, h3, h4 => ⟨h1, h2, h3, h4⟩
  | c :: l, p, k, h1, h2, h3, h4 => by
    have st : (wsStep p c).b ≤ k + 1 ∧ (wsStep p c).n ≤ k + 1 ∧ (wsStep p c).nt ≤ k + 1 ∧ (wsStep p c).counts.length ≤ k + 1 + 1 := by
      unfold wsStep
      split
      · exact ⟨by dsimp only; omega, by dsimp only; omega, by dsimp only; omega, by dsimp only; omega⟩
      · refine ⟨by dsimp only; omega, by dsimp only; omega, by dsimp only; omega, ?_⟩
        dsimp only
        have := grow_len p.counts p.b
        rw [List.length_set]
        omega
    obtain ⟨a, b, c', d⟩ := wsFold_le l (wsStep p c) (k + 1) st.1 st.2.1 st.2.2.1 st.2.2.2
    rw [List.foldl_cons, List.length_cons]
    exact ⟨by omega, by omega, by omega, by omega⟩
theorem wsRead_le (l : List Int) : (wsRead l).b ≤ l.length ∧ (wsRead l).n ≤ l.length ∧ (wsRead l).nt ≤ l.length ∧ (wsRead l).counts.length ≤ l.length + 1 := by
  have := wsFold_le l ⟨[], 0, 0, 0⟩ 0 (Nat.le_refl _) (Nat.le_refl _) (Nat.le_refl _) (Nat.zero_le _)
  rw [Nat.zero_add] at this
  exact this
set_option maxHeartbeats 2000000 in
theorem ws_loop (w : World) {A : Around} {p : Program} {loose : List Str} {mean : ExcName → Option Value} {mg mb : Str → Option Value} {A₀ : Around} {base g : Heap} {outer : List Env} {L x d cl : Addr} {od : Obj} {s : Shared} {y : Str} {t1 tS tT tb tn tt : Tok} {e : Nat} {Q : Flow → Shared → Prop}
    (hh : A.handled = none) (B : Below A₀ base outer g) (X : (K w.params).In g) (T : Top p loose mean mg mb g)
    (F : Fr g L s.heap (mWs x cl 0 0 0 tb tn tt y t1 tS tT)) (N : News g L s.heap [(cl, listOf #[] e), (x, instObj 145 d), (d, od)])
    (hy : y.length ≤ 9) (hc : ∀ c ∈ KStt.codes y, c = 32 ∨ c = 9) (a4 : cl ≠ x) (a5 : cl ≠ d) (a6 : x ≠ d)
    (done : ∀ cl' vs' e' tb' tn' tt' (u : Str → Option Value) h' tk', cl' ≠ x → cl' ≠ d → IntsAre vs' (wsRead (KStt.codes y)).counts →
      Fr g L h' (fun z => if z = Str.ofString "ch" then u z else mWs x cl' (wsRead (KStt.codes y)).b (wsRead (KStt.codes y)).n (wsRead (KStt.codes y)).nt tb' tn' tt' y t1 tS tT z) → News g L h' [(cl', listOf vs'.toArray e'), (x, instObj 145 d), (d, od)] → Q .next { s with heap := h', toks := tk' }) :
    wpAny (model PySem.Challenge.rw_tp0056_01.row.prog w) A (pyIter (.str y t1)) (fun it s₂ => LoopAtV PySem.Challenge.rw_tp0056_01.row.prog w A g (envOf (Str.ofString "Whitespace.__init__") ls100.1 L 100 (.ref 99)) (Str.ofString "ch") lbWs.1 Q (fun _ _ => False) it s₂) (fun _ _ => False) s := by
  refine textG (σ := WsSt) (x := Str.ofString "ch") (fun c => [(c.cl, listOf c.vs.toArray c.e), (x, instObj 145 d), (d, od)]) (fun c => [(Str.ofString "nt", .int c.nt c.tt), (Str.ofString "n", .int c.n c.tn), (Str.ofString "b", .int c.b c.tb), (Str.ofString "count", .ref c.cl)]) (fun c => c.cl ≠ x ∧ c.cl ≠ d) [] (fun pre c => IntsAre c.vs (wsRead pre).counts ∧ c.b = (wsRead pre).b ∧ c.n = (wsRead pre).n ∧ c.nt = (wsRead pre).nt) ⟨cl, [], e, 0, 0, 0, tb, tn, tt⟩ hh F N ⟨a4, a5⟩ ?_ ⟨IntsAre.nil, rfl, rfl, rfl⟩ ?_ ?_
  · exact List.forall_mem_cons.mpr ⟨rfl, List.forall_mem_cons.mpr ⟨rfl, List.forall_mem_cons.mpr ⟨rfl, List.forall_mem_cons.mpr ⟨rfl, fun _ hp => nomatch hp⟩⟩⟩⟩
  · intro I c pre post code t u h tk oI hcodes hoff hf hP F2 N2
    obtain ⟨cl', vs', e', b', n', nt', tb', tn', tt'⟩ := c
    obtain ⟨hI, rfl, rfl, rfl⟩ := hP
    dsimp only at hf hI F2 N2 hoff ⊢
    have hcode : code = 32 ∨ code = 9 := by
      rcases hc code (by rw [hcodes]; exact List.mem_append_right _ (.head _)) with h | h
      · exact .inl (by omega)
      · exact .inr (by omega)
    obtain ⟨q1, q2, q3, q4⟩ := wsRead_le pre
    have hpl : pre.length ≤ 8 := by
      have := congrArg List.length hcodes
      rw [KStt.codes_length, List.length_append, List.length_cons] at this
      have hy' : y.cps.size ≤ 9 := hy
      omega
    refine ws_turn w B X T (d := d) (od := od) (x := x) (cl := cl') (y := y) (t1 := t1) (t := t) (ns := (wsRead pre).counts) (b := ((wsRead pre).b : Int)) (n := ((wsRead pre).n : Int)) (nt := ((wsRead pre).nt : Int)) (tb := tb') (tn := tn') (tt := tt') (tS := tS) (tT := tT) ?_ N2 hcode hI (by omega) (by omega) (by omega) (by omega) (by omega) (by omega) (by omega) ?_ ?_ ?_ hf.1 hf.2 a6 ?_
    · exact Eq.mp (congrArg (fun m => Fr g L h m) (funext fun z => congrArg (fun r => if z = Str.ofString "ch" then some (.str ⟨#[code]⟩ t) else r) (mWs_over u z))) F2
    · exact hoff _ (.head _)
    · exact hoff _ (.tail _ (.head _))
    · exact hoff _ (.tail _ (.tail _ (.head _)))
    · intro cl2 vs2 e2 b2 n2 nt2 tb2 tn2 tt2 m2 c1 c2 c3 hI2 hb2 hn2 hnt2 k1 k2 k3 k4 kr
      refine ⟨⟨cl2, vs2, e2, b2, n2, nt2, tb2, tn2, tt2⟩, rfl, ⟨c2, c3⟩, ?_, ?_, ?_⟩
      · exact List.forall_mem_cons.mpr ⟨k4, List.forall_mem_cons.mpr ⟨k3, List.forall_mem_cons.mpr ⟨k2, List.forall_mem_cons.mpr ⟨k1, fun _ hp => nomatch hp⟩⟩⟩⟩
      · intro z z1 z2 _
        have y4 := z2 _ (.head _)
        have y3 := z2 _ (.tail _ (.head _))
        have y2 := z2 _ (.tail _ (.tail _ (.head _)))
        have y1 := z2 _ (.tail _ (.tail _ (.tail _ (.head _))))
        dsimp only at y1 y2 y3 y4
        rw [kr z z1 y1 y2 y3 y4]
        simp only [mWs, if_neg y1, if_neg y2, if_neg y3, if_neg y4]
      · dsimp only
        rw [wsRead_snoc]
        exact ⟨hI2, hb2, hn2, hnt2⟩
  · intro c u h tk hf hP F2 N2
    obtain ⟨cl', vs', e', b', n', nt', tb', tn', tt'⟩ := c
    obtain ⟨hI, rfl, rfl, rfl⟩ := hP
    exact done cl' vs' e' tb' tn' tt' u h tk hf.1 hf.2 hI (Eq.mp (congrArg (fun m => Fr g L h m) (funext fun z => congrArg (fun r => if z = Str.ofString "ch" then u z else r) (mWs_over u z))) F2) N2
end Mine
end
section
open PySem PySem.W PyProof.Rows PySem.Calls PyProof.V PySem.Spec
namespace Mine
theorem fillWs4 (w : World) (h : Heap) : (K w.params).In h → PySem.Challenge.rw_tp0056_01.foot = 8 := by
  k_fill
  intro _
  rfl
local macro_rules | `(tactic| walk_at "s1") => `(tactic| first | (k_unfold; (try dsimp only)) | walk1 | (dsimp only; walk1))
theorem pick3 {g h : Heap} {L : Addr} {a b c d : Addr × Obj} (N : News g L h [a, b, c, d]) : News g L h [a, c, d] := fun p hp => N p (by
  rcases List.mem_cons.mp hp with rfl | hp
  · exact .head _
  · exact .tail _ (.tail _ hp))
noncomputable def tupOf (its : Array Value) : Obj := { cls := .type "tuple", data := .seq its }
/-- a lead's four objects -/
noncomputable def LeadL (w : World) (x : Addr) (r : WsP) (led : List (Addr × Obj)) : Prop :=
  ∃ d t1 t2 vs tb y ty tn tt k1 k2 k3 k4 k5 sb, IntsAre vs r.counts ∧ led = [(x, instObj 145 d), (d, dictOf [⟨PyData.keyHash w.params (Str.ofString "raw"), .str (Str.ofString "raw") k1, .str y ty⟩, ⟨PyData.keyHash w.params (Str.ofString "n"), .str (Str.ofString "n") k2, .int r.n tn⟩, ⟨PyData.keyHash w.params (Str.ofString "nt"), .str (Str.ofString "nt") k3, .int r.nt tt⟩, ⟨PyData.keyHash w.params (Str.ofString "norm"), .str (Str.ofString "norm") k4, .ref t2⟩, ⟨PyData.keyHash w.params (Str.ofString "is_simple"), .str (Str.ofString "is_simple") k5, .bool sb⟩] 5), (t2, tupOf #[.ref t1, .int r.b tb]), (t1, tupOf vs.toArray)]
theorem lead_close {w : World} {h₀ h' : Heap} {L x d D1 D2 : Addr} {oc : Addr × Obj} {vs : List Value} {r : WsP} {bi ni ti : Int} {tb ty tn tt k1 k2 k3 k4 k5 : Tok} {y : Str} {sb : Bool} {news : List (Addr × Obj)}
    (N : News h₀ L h' ([(D2, tupOf #[.ref D1, .int bi tb]), (D1, tupOf vs.toArray), oc, (x, instObj 145 d), (d, dictOf [⟨PyData.keyHash w.params (Str.ofString "raw"), .str (Str.ofString "raw") k1, .str y ty⟩, ⟨PyData.keyHash w.params (Str.ofString "n"), .str (Str.ofString "n") k2, .int ni tn⟩, ⟨PyData.keyHash w.params (Str.ofString "nt"), .str (Str.ofString "nt") k3, .int ti tt⟩, ⟨PyData.keyHash w.params (Str.ofString "norm"), .str (Str.ofString "norm") k4, .ref D2⟩, ⟨PyData.keyHash w.params (Str.ofString "is_simple"), .str (Str.ofString "is_simple") k5, .bool sb⟩] 5)] ++ news))
    (hI : IntsAre vs r.counts) (hb : bi = r.b) (hn : ni = r.n) (ht : ti = r.nt) (l1 : ∀ p ∈ news, p.1 < d) (l2 : d < x) (q2 : x < D1) (q3 : D1 < D2) : ∃ led, LeadL w x r led ∧ News h₀ L h' (led ++ news) ∧ (∀ p ∈ led, ∀ q ∈ news, q.1 ≠ p.1) := by
  subst hb hn ht
  refine ⟨_, ⟨d, D1, D2, vs, tb, y, ty, tn, tt, k1, k2, k3, k4, k5, sb, hI, rfl⟩, fun p hp => N p ?_, ?_⟩
  · rcases List.mem_append.mp hp with hp | hp
    · simp only [List.mem_cons, List.not_mem_nil, or_false] at hp
      rcases hp with rfl | rfl | rfl | rfl
      · exact .tail _ (.tail _ (.tail _ (.head _)))
      · exact .tail _ (.tail _ (.tail _ (.tail _ (.head _))))
      · exact .head _
      · exact .tail _ (.head _)
    · exact List.mem_append_right _ hp
  · intro p hp q hq
    have q1 := l1 q hq
    simp only [List.mem_cons, List.not_mem_nil, or_false] at hp
    rcases hp with rfl | rfl | rfl | rfl
    · exact Nat.ne_of_lt (Nat.lt_trans q1 l2)
    · exact Nat.ne_of_lt q1
    · exact Nat.ne_of_lt (Nat.lt_trans (Nat.lt_trans (Nat.lt_trans q1 l2) q2) q3)
    · exact Nat.ne_of_lt (Nat.lt_trans (Nat.lt_trans q1 l2) q2)
theorem tupleOfL {prog : Program} {w : World} {A : Around} {E : Value → Shared → Prop} {s : Shared} {h₀ : Heap} {L l : Addr} {m : Str → Option Value} {news : List (Addr × Obj)} {vs : List Value} {e : Nat} {Q : Value → Shared → Prop} (F : Fr h₀ L s.heap m) (N : News h₀ L s.heap ((l, listOf vs.toArray e) :: news)) (hz : vs.toArray.size ≤ 16384)
    (h : ∀ D h', Fr h₀ L h' m → News h₀ L h' ((D, ({ cls := .type "tuple", data := .seq vs.toArray } : Obj)) :: (l, listOf vs.toArray e) :: news) → (∀ p ∈ ((l, listOf vs.toArray e) :: news), p.1 < D) → Q (.ref D) { s with heap := h' }) : wpAny (model prog w) A (call (.type "tuple") [.ref l]) Q E s :=
  kde_tupleOf (zs := vs) F N (News.isList N (.head _)) hz rfl h
local macro_rules | `(tactic| walk_at "call type:tuple") => `(tactic| (k_dflt (refine tupleOfL (by assumption) (by assumption) (by assumption) ?_); intro D' h' F' N' l1; (try k_lt l1); (try k_sweep)))
set_option maxHeartbeats 2000000 in
theorem ws_spec (w : World) {p : Program} {loose : List Str} {mean : ExcName → Option Value} {mg mb : Str → Option Value} {cn : Str} {cs : Scope} {L a : Addr} {ccd : Value} {cl : List (Str × Addr)} {outer : List Env} {A₀ : Around} {base h₀ : Heap} {m : Str → Option Value} {s : Shared} {Q E : Value → Shared → Prop} {dp un : Nat} {y : Str} {t1 : Tok} {news : List (Addr × Obj)}
    (B : Below A₀ base outer h₀) (F : Fr h₀ L s.heap m) (X : (K w.params).In h₀) (T : Top p loose mean mg mb h₀) (hke : cs.kind = .function) (hd : dp ≤ 900) (hu : un ≤ 9000) (N : News h₀ L s.heap news)
    (hy : y.length ≤ 9) (hc : ∀ c ∈ KStt.codes y, c = 32 ∨ c = 9)
    (ret : ∀ x led h' tk, LeadL w x (wsRead (KStt.codes y)) led → Fr h₀ L h' m → News h₀ L h' (led ++ news) → (∀ p ∈ led, ∀ q ∈ news, q.1 ≠ p.1) → Q (.ref x) { s with heap := h', toks := tk }) :
    wpAny (model PySem.Challenge.rw_tp0056_01.row.prog w) (ktrTop dp un (some []) cn cs L a ccd cl outer) (call (.ref 145) [.str y t1] []) Q E s := by
  refine weaken hd hu ?_
  k_dflt (refine' call_cls F X N ?k4 ?k5 ?k6 ?_; (case k4 => k_is); (case k5 => k_is); (case k6 => k_is))
  intro x d h1 F1 N1 l1 l2
  replace l2 := ltN l2
  have Nm : News h₀ L h1 [(x, instObj 145 d), (d, dictOf [] 0)] := fun p hp => N1 p (by rcases List.mem_cons.mp hp with rfl | hp; exact .head _; exact .tail _ (by rw [List.mem_singleton.mp hp]; exact .head _))
  refine enterR (binds := [(Str.ofString "self", .ref x), (Str.ofString "ws", .str y t1)]) B F1 X T rfl rfl hke Nm (k100 _) (c100 _) (by k_room) (BindsTo.of_eq rfl) (locs rfl) (by decide) rfl rfl rfl ?_
  clear B X T
  intro L' h₁ F' N' B X T
  dsimp only [lb100, ls100, la100]
  generalize hgen : hideAll h1 _ = g at F' N' B X T
  replace F' : Fr g L' h₁ (fun y_1 => List.lookup y_1 [(Str.ofString "ws", Value.str y t1), (Str.ofString "self", Value.ref x)]) := F'
  iterate 48 (walk_at "s1")
  rename Fr g _ _ _ => F3
  rename News g _ _ _ => N3
  refine ws_loop w rfl B X T F3 (pick3 N3) hy hc ?_ ?_ ?_ ?_
  · rename_i l1a _ _ _ _
    exact Nat.ne_of_gt l1a.2.1
  · rename_i l1a _ _ _ _
    exact Nat.ne_of_gt l1a.2.2
  · exact Nat.ne_of_gt l2
  · intro cl' vs' e' tb' tn' tt' u h' tk' c1 c2 hI F4 N4
    clear F3 N3
    have hsz : vs'.toArray.size ≤ 16384 := by
      rw [List.size_toArray, hI.length]
      have := (wsRead_le (KStt.codes y)).2.2.2
      rw [KStt.codes_length] at this
      have hy' : y.cps.size ≤ 9 := hy
      omega
    have hMk := kstMark
    k_steps
    rename Fr g _ _ _ => F5
    rename News g _ _ _ => N5
    rename_i D1 _ l1a D2 _ l1b _ _ _
    subst hgen
    have kx := KeptX.of (mu := [(x, instObj 145 d), (d, dictOf [] 0)]) F5 N5
    have hm : ∀ b ∈ [(x, instObj 145 d), (d, dictOf [] 0)].map (fun z : Addr × Obj => z.1), b ≠ L ∧ h₀.get? b = none := by
      intro b hb
      simp only [List.map_cons, List.map_nil, List.mem_cons, List.not_mem_nil, or_false] at hb
      rcases hb with rfl | rfl
      · exact (N1 _ (.head _)).2
      · exact (N1 _ (.tail _ (.head _))).2
    have Nn : News h₀ L h1 news := fun p hp => N1 p (.tail _ (.tail _ hp))
    have hn : ∀ p ∈ news, p.1 ∉ [(x, instObj 145 d), (d, dictOf [] 0)].map (fun z : Addr × Obj => z.1) := by
      intro p hp hb
      simp only [List.map_cons, List.map_nil, List.mem_cons, List.not_mem_nil, or_false] at hb
      have := l1 p hp
      rcases hb with e | e
      · rw [e] at this; exact Nat.lt_irrefl _ (Nat.lt_trans l2 this)
      · rw [e] at this; exact Nat.lt_irrefl _ this
    have N6 := kx.news F1 hm Nn hn
    obtain ⟨led, g1, g2, g3⟩ := lead_close (r := wsRead (KStt.codes y)) N6 hI rfl rfl rfl l1 l2 l1a.2.1 l1b.1
    exact ⟨rfl, ret x led _ _ g1 (kx.fr F1 hm) g2 g3⟩
end Mine
end
section
open PySem PySem.W PyProof.Rows PySem.Calls PyProof.V PySem.Spec
namespace Mine
theorem fillLead (w : World) (h : Heap) : (K w.params).In h → PySem.Challenge.rw_tp0056_01.foot = 8 := by
  k_fill
  intro _
  rfl
local macro_rules | `(tactic| walk_at "s1") => `(tactic| first | (k_unfold; (try dsimp only)) | walk1 | (dsimp only; walk1))
theorem join_cps : ∀ l : List Str, (Txt.join (Str.ofString "") l).cps.toList = l.flatMap (fun a => a.cps.toList) := by
  intro l
  show (Builtin.Str.glued (Str.ofString "") l).cps.toList = _
  rw [StrLaws.glued_eq_join]
  have e0 : (Str.ofString "").cps.toList = [] := rfl
  induction l with
  | nil => rfl
  | cons a r ih =>
    cases r with
    | nil => simp [Str.join]
    | cons b r =>
      show (a.cps ++ (Str.ofString "").cps ++ (Str.join (Str.ofString "") (b :: r)).cps).toList = _
      rw [Array.toList_append, Array.toList_append, e0, ih, List.append_nil]
      rfl
noncomputable def cutAt (ns : List Int) : Nat := (ns ++ [1]).idxOf 1 + 1
noncomputable def turnRow (ns : List Int) : List Int := ns.drop (cutAt ns) ++ ns.take (cutAt ns)
noncomputable def leadCodes (ns : List Int) : List Int := (turnRow ns).map fun k => if k = 0 then 32 else 9
noncomputable def leadOf (ns : List Int) : WsP := wsRead (leadCodes ns)
theorem lead_codes : ∀ l : List Int, (∀ k ∈ l, k = 0 ∨ k = 1) → KStt.codes (Txt.join (Str.ofString "") (l.map (Txt.item (Str.ofString " \t")))) = l.map fun k => if k = 0 then 32 else 9 := by
  intro l
  unfold KStt.codes
  rw [join_cps]
  induction l with
  | nil => intro _; rfl
  | cons k l ih =>
    intro h
    rw [List.map_cons, List.flatMap_cons, List.map_append, ih (fun k hk => h k (.tail _ hk)), List.map_cons]
    rcases h k (.head _) with rfl | rfl <;> rfl
theorem lead_at {j : Int} {ns : List Int} (hj : Held (j = ((ns ++ [1]).idxOf 1 : Nat))) : ns.drop (j + 1).toNat ++ ns.take (j + 1).toNat = turnRow ns := by
  unfold Held at hj
  unfold turnRow cutAt
  have : (j + 1).toNat = (ns ++ [1]).idxOf 1 + 1 := by omega
  rw [this]
theorem turn_mem {ns : List Int} {k : Int} (h : k ∈ turnRow ns) : k ∈ ns := by
  rcases List.mem_append.mp h with h | h
  · exact List.mem_of_mem_drop h
  · exact List.mem_of_mem_take h
theorem turn_len (ns : List Int) : (turnRow ns).length = ns.length := by
  unfold turnRow
  rw [List.length_append, List.length_drop, List.length_take]; omega
theorem indexL {prog : Program} {w : World} {A : Around} {E : Value → Shared → Prop} {s : Shared} {l : Addr} {vs : List Value} {ns : List Int} {k : Int} {t : Tok} {Q : Value → Shared → Prop} (hl : s.heap.IsList l vs.toArray) (hi : IntsAre vs ns)
    (hz : ns.length ≤ 10) (hk : k ∈ ns) (h : ∀ j : Int, j = (ns.idxOf k : Nat) → 0 ≤ j → j < ns.length → Q (.int j s.toks) { s with toks := s.toks + 1 }) :
    wpAny (model prog w) A (call (.builtin "list.index") [.ref l, .int k t]) Q E s := by
  obtain ⟨⟨c, dd, da, sl⟩, ho, hc, n, hd⟩ := hl
  cases hc
  cases hd
  have e1 := hi.length
  have lt : ns.idxOf k < ns.length := List.idxOf_lt_length_iff.mpr hk
  refine call_meets PySem.F.slot_list_index ⟨_, ho, rfl⟩ PySem.F.entry_list_index (PySem.F.args_list_index_2 _ _)
    (SeqAt.list_indexAt l vs.toArray n dd sl (.int k t) (isInt k) (ns.idxOf k) (by rw [List.size_toArray, e1]; exact lt) (by omega) ?_ fun j hj hlt => ?_) ⟨ho, fun y hy => (eq_isInt k t hi y (by simpa using hy)).at _ _, h _ rfl (by omega) (by omega)⟩
  · show isInt k vs[ns.idxOf k] = true
    rw [isInt_at k hi _ (by omega) lt]
    simpa using List.getElem_idxOf lt
  · show isInt k vs[j] = false
    rw [isInt_at k hi j (by simpa using hj) (by omega)]
    exact ne_of_lt_idxOf hlt _
local macro_rules | `(tactic| walk_at "call builtin:list.index") => `(tactic| (k_dflt (refine indexL (News.isList (by assumption) (.head _)) (by assumption) (by assumption) (by assumption) ?_); intro j hj hj0 hj1; replace hj : Held _ := hj))
local macro_rules | `(tactic| walk_at "eval ListComp") => `(tactic| (k_dflt (refine LCg.ListComp_U (F₀ := by k_asm) (by with_unfolding_all rfl) (by decide) (by rfl) (by decide) (by rfl) ?_)))
local macro_rules | `(tactic| walk_at "subscriptTail Name Slice ref ref") => `(tactic| (k_dflt (refine' kmk_slice_ints ?F ?N ?l ?p ?q ?i ?m ?c ?_ ?s ?t ?z; (case F => k_asm); (case N => k_asm); (case l => kmk_list); (case p => kmk_part); (case q => kmk_part); (case i => l_ints); (case m => first | exact kmk_from (by l_ints) (by omega) | exact kmk_upto (by l_ints) (by omega)); (case c => kmk_len); (case s => with_unfolding_all rfl); (case t => kmk_pure); (case z => assumption)); intro D' ws' h' F' N' l1 hI' hC' hL'; k_lt l1))
local macro_rules | `(tactic| walk_at "call ref") => `(tactic| refine held ?_)
local macro_rules | `(tactic| walk_at "call builtin:str.join") => `(tactic| refine held ?_)
local macro_rules | `(tactic| walk_at "CompSrc") => `(tactic| refine held ?_)
set_option maxHeartbeats 2000000 in
theorem lead_spec (w : World) {p : Program} {loose : List Str} {mean : ExcName → Option Value} {mg mb : Str → Option Value} {cn : Str} {cs : Scope} {L a : Addr} {ccd : Value} {cl : List (Str × Addr)} {outer : List Env} {A₀ : Around} {base h₀ : Heap} {m : Str → Option Value} {s : Shared} {Q E : Value → Shared → Prop} {dp un : Nat} {l : Addr} {vs : List Value} {ns : List Int}
    (B : Below A₀ base outer h₀) (F : Fr h₀ L s.heap m) (X : (K w.params).In h₀) (T : Top p loose mean mg mb h₀) (hke : cs.kind = .function) (hd : dp ≤ 800) (hu : un ≤ 8000) (hl : s.heap.IsList l vs.toArray) (hI : IntsAre vs ns) (hb : ∀ c ∈ ns, c = 0 ∨ c = 1) (hn0 : 1 ≤ ns.length)
    (hn : ns.length ≤ 9)
    (ret : ∀ x led h' tk, LeadL w x (leadOf ns) led → Kept s.heap h' led → Q (.ref x) { s with heap := h', toks := tk }) :
    wpAny (model PySem.Challenge.rw_tp0056_01.row.prog w) (ktrTop dp un (some []) cn cs L a ccd cl outer) (call (.ref 315) [.ref l] []) Q E s := by
  refine enter (args := ⟨[.ref l], []⟩) (binds := [(Str.ofString "row", .ref l)]) 800 8000 B F X T hke hd hu (k315 _) (c315 _) (by decide) (BindsTo.of_eq rfl) (locs rfl) (by decide) rfl rfl rfl ?_
  clear B F X T
  intro L' h₁ F N B X T
  dsimp only [lb315, ls315, la315]
  replace F : Fr s.heap L' h₁ (fun y => List.lookup y [(Str.ofString "row", Value.ref l)]) := F
  have hMk := kstMark
  have hvz : vs.toArray.size ≤ sizeLine := by rw [List.size_toArray, hI.length]; exact Nat.le_trans hn (by decide)
  have hz1 : (ns ++ [1]).length ≤ 10 := by rw [List.length_append]; exact Nat.succ_le_succ hn
  have hm1 : (1 : Int) ∈ ns ++ [1] := List.mem_append_right _ (.head _)
  have hi1 : (ns ++ [1]).idxOf 1 < (ns ++ [1]).length := List.idxOf_lt_length_iff.mpr hm1
  k_steps
  rename Fr _ _ _ _ => F1
  rename News _ _ _ _ => N1
  rename IntsAre _ (_ ++ List.take _ _) => hI6
  refine LCg.CompSrc.ledger rfl F1 N1 (.head _) ?_ ?_
  · rw [List.size_toArray, hI6.length, List.length_append, List.length_drop, List.length_take]
    refine Nat.le_trans ?_ (show 20 ≤ sizeLine by decide)
    omega
  intro g'
  refine kct_list (fun k => Txt.item (Str.ofString " \t") k) hI6 ?_ ?_
  · intro k t I oI C oC D m₂ ys h tk E' hk hC hx F2 N2 off ne _
    have hk01 : k = 0 ∨ k = 1 := by
      rcases List.mem_append.mp hk with h | h
      · exact hb k (List.mem_of_mem_drop h)
      · exact hb k (List.mem_of_mem_take h)
    rcases hk01 with rfl | rfl
    all_goals k_steps
    all_goals rename Fr _ _ _ _ => F3
    all_goals rename News _ _ _ _ => N3
    all_goals exact LCg.CompEnd.intro F3 N3 _ (fun p hp => hp) off (Or.inr ⟨_, .head _, rfl, _, rfl⟩) (kct_el rfl rfl rfl)
  · unfold KPfDone
    intro ys hc hlen
    intro D h tk F2 N2 off
    k_steps
    refine KT.join_1 (News.isList N2 (.head _)) hc (fun _ _ => rfl) ?_ ?_
    · rw [List.length_append, List.length_drop, List.length_take]; omega
    intro t' k' hlj
    k_steps
    with_reducible rename Held _ => hj
    have hcut := lead_at hj
    have h01 : ∀ k ∈ turnRow ns, k = 0 ∨ k = 1 := fun k hk => hb k (turn_mem hk)
    refine ws_spec w B F2 X T rfl (Nat.le_of_ble_eq_true rfl) (Nat.le_of_ble_eq_true rfl) N2 ?_ ?_ ?_
    · rw [hcut] at hlj ⊢
      refine Nat.le_trans (Nat.le_of_eq hlj) ?_
      rw [turn_len]; exact hn
    · intro c hc
      rw [hcut, lead_codes _ h01] at hc
      obtain ⟨k, _, rfl⟩ := List.mem_map.mp hc
      by_cases e : k = 0
      · rw [if_pos e]; exact .inl rfl
      · rw [if_neg e]; exact .inr rfl
    · intro x led h2 tk2 g1 F3 N3 g3
      rw [hcut, lead_codes _ h01] at g1
      exact ret x led _ _ g1 (Kept.of F3 (fun p hp => N3 p (List.mem_append_left _ hp)))
end Mine
end
section
open PySem PySem.W PyProof.Rows PySem.Calls PyProof.V PySem.Spec
namespace Mine
theorem fillEq (w : World) (h : Heap) : (K w.params).In h → PySem.Challenge.rw_tp0056_01.foot = 8 := by
  k_fill
  intro _
  rfl
noncomputable def normD (r : WsP) : PyData := .tuple [.tuple (r.counts.map .int), .int r.b]
theorem shaped_norm (r : WsP) : SeqAt.shaped (normD r) = true := by
  simp [normD, SeqAt.shaped, PyData.canLay0, PyData.canLayAll0, PyData.depth, PyData.depthAll, ke_canLayAll0, ke_depthAll]
theorem same_norm (r r' : WsP) : PySem.Spec.same (normD r) (normD r') = decide (r.counts = r'.counts ∧ r.b = r'.b) := by
  simp only [normD, PySem.Spec.same, PySem.Spec.sameAll, ke_sameAll]
  have e : ((r.b : Int) = (r'.b : Int)) = (r.b = r'.b) := propext ⟨fun q => by omega, fun q => by omega⟩
  by_cases h : r.counts = r'.counts <;> by_cases h' : r.b = r'.b <;> simp [h, h', e]
theorem noMix_norm (r r' : WsP) : SeqAt.noMix (normD r) (normD r') = true := by
  simp [normD, SeqAt.noMix, SeqAt.noMixAll, noMix_ints]
theorem reads_norm {h : Heap} {t1 t2 : Addr} {vs : List Value} {r : WsP} {tb : Tok} (h2 : h.get? t2 = some (tupOf #[.ref t1, .int r.b tb])) (h1 : h.get? t1 = some (tupOf vs.toArray)) (hI : IntsAre vs r.counts) : Reads h (.ref t2) (normD r) [] := by
  refine reads_tuple_at h2 rfl rfl ?_
  exact ReadsAll.cons (as := []) (bs := []) (reads_tuple_at h1 rfl rfl (by simpa using readsAll_of_ints hI)) (ReadsAll.cons (as := []) (bs := []) (.int _ _) .nil)
theorem keptX_all {mu : List (Addr × Obj)} {h h' : Heap} {L : Addr} {m : Str → Option Value} {h₀ : Heap} {L₀ : Addr} (N : News h₀ L₀ h mu) (F : Fr (hideAll h (mu.map (·.1))) L h' m) (N' : News (hideAll h (mu.map (·.1))) L h' mu) : Kept h h' [] := by
  refine ⟨fun b o e => ?_, fun p hp => nomatch hp⟩
  by_cases q : b ∈ mu.map (·.1)
  · obtain ⟨p, hp, rfl⟩ := List.mem_map.mp q
    have := (N p hp).1
    rw [this] at e
    cases e
    exact (N' p hp).1
  · exact F.keep b o (hideAll_get _ e q)
local macro_rules | `(tactic| walk_at "compareOp Eq ref ref") => `(tactic| refine held ?_)
set_option maxHeartbeats 2000000 in
theorem equal_spec (w : World) {p : Program} {loose : List Str} {mean : ExcName → Option Value} {mg mb : Str → Option Value} {cn : Str} {cs : Scope} {L a : Addr} {ccd : Value} {cl : List (Str × Addr)} {outer : List Env} {A₀ : Around} {base h₀ : Heap} {m : Str → Option Value} {s : Shared} {Q E : Value → Shared → Prop} {dp un : Nat} {x x' : Addr} {led led' : List (Addr × Obj)} {r r' : WsP}
    (B : Below A₀ base outer h₀) (F : Fr h₀ L s.heap m) (X : (K w.params).In h₀) (T : Top p loose mean mg mb h₀) (hke : cs.kind = .function) (hd : dp ≤ 800) (hu : un ≤ 8000)
    (N : News h₀ L s.heap (led ++ led')) (hx : LeadL w x r led) (hx' : LeadL w x' r' led')
    (ret : ∀ h' tk, Kept s.heap h' [] → Q (.bool (decide (r.counts = r'.counts ∧ r.b = r'.b))) { s with heap := h', toks := tk }) :
    wpAny (model PySem.Challenge.rw_tp0056_01.row.prog w) (ktrTop dp un (some []) cn cs L a ccd cl outer) (call (.ref 121) [.ref x, .ref x'] []) Q E s := by
  obtain ⟨d, t1, t2, vs, tb, y, ty, tn, tt, k1, k2, k3, k4, k5, sb, hI, rfl⟩ := hx
  obtain ⟨d', t1', t2', vs', tb', y', ty', tn', tt', k1', k2', k3', k4', k5', sb', hI', rfl⟩ := hx'
  have Nm := N
  refine enterM (args := ⟨[.ref x, .ref x'], []⟩) (binds := [(Str.ofString "self", .ref x), (Str.ofString "other", .ref x')]) 800 8000 B F X T hke hd hu Nm (k121 _) (c121 _) (by decide) (BindsTo.of_eq rfl) (locs rfl) (by decide) rfl rfl rfl ?_
  clear B X T
  intro L' h₁ F' N' B X T
  dsimp only [lb121, ls121, la121]
  generalize hgen : hideAll s.heap _ = g at F' N' B X T
  replace F' : Fr g L' h₁ (fun y_1 => List.lookup y_1 [(Str.ofString "other", Value.ref x'), (Str.ofString "self", Value.ref x)]) := F'
  clear F N
  have hMk := kstMark
  k_steps
  rename Fr g _ _ _ => F1
  rename News g _ _ _ => N1
  unfold Held
  refine eq_dataH_same (reads_norm (N1 _ (.tail _ (.tail _ (.head _)))).1 (N1 _ (.tail _ (.tail _ (.tail _ (.head _))))).1 hI) (reads_norm (N1 _ (.tail _ (.tail _ (.tail _ (.tail _ (.tail _ (.tail _ (.head _)))))))).1 (N1 _ (.tail _ (.tail _ (.tail _ (.tail _ (.tail _ (.tail _ (.tail _ (.head _))))))))).1 hI') (shaped_norm _) (shaped_norm _) (Nat.le_of_ble_eq_true rfl) (noMix_norm _ _) ?_
  rw [same_norm]
  k_steps
  subst hgen
  exact ret _ _ (keptX_all Nm F1 N1)
end Mine
end
section
open PySem PySem.W PyProof.Rows PySem.Calls
namespace Mine
/-- a def with cells is entered, with things that it may change -/
theorem enterCM {prog : Program} {w : World} {A₀ : Around} {base h₀ : Heap} {outer : List Env} {cn : Str} {cs : Scope} {L a : Addr} {ccd : Value} {cl : List (Str × Addr)} {gd : Option (List Code)} {m : Str → Option Value} {s : Shared} {Q E : Value → Shared → Prop} {K : Frag} {p : Program} {loose : List Str} {mean : ExcName → Option Value} {mg mb : Str → Option Value}
    {name qual : Str} {params : Arguments} {body : List Stmt} {scope : Scope} {dV kV doc pm cdv ct oc : Value} {an od : Option Addr} {osl : Array (Option Value)} {f : Addr} {args : Args} {binds : List (Str × Value)} {dp un : Nat} {mu : List (Addr × Obj)} (DP UN : Nat) (clos : Addr → List (Str × Addr)) (M₀ C₀ : Str → Option Value) (hclos : ∀ L', cellsFrom (L' + 1) scope.names [] = clos L')
    (B : Below A₀ base outer h₀) (F : Fr h₀ L s.heap m) (X : K.In h₀) (T : Top p loose mean mg mb h₀) (hke : cs.kind = .function) (hd : dp ≤ DP) (hu : un ≤ UN) (Nm : News h₀ L s.heap mu)
    (ho : K.lookup f = some ⟨oc, od, .func (fnOf name qual params body scope dV kV doc pm an cdv ct), osl⟩) (hcd : codeIn K cdv qual = true) (hroom : DP < recursionLimit)
    (hbind : BindsTo s (fnOf name qual params body scope dV kV doc pm an cdv ct) args binds)
    (hkind : (binds.all fun y => scope.names.lookup y.1 == some .local || scope.names.lookup y.1 == some .cell) = true)
    (hnd : ((cellsFrom 0 scope.names []).map (·.1)).Nodup)
    (hco : scope.isCoroutine = false) (hgen : scope.isGenerator = false) (hk : scope.kind = .function)
    (hM : ∀ L', bindL (envOfC qual scope L' f cdv).kindOf binds (fun _ => none) = M₀) (hC : ∀ L', bindC (envOfC qual scope L' f cdv).kindOf binds (fun _ => none) = C₀)
    (h : ∀ L' h₁ tk cells, Fr (hideAll s.heap (mu.map (·.1))) L' h₁ M₀ → News (hideAll s.heap (mu.map (·.1))) L' h₁ (cells ++ mu) → CellsAre C₀ (clos L') cells → (∀ p ∈ mu, p.1 < L') → (∀ n c, (n, c) ∈ clos L' → L' < c) →
      Below (ktrTop DP UN gd cn cs L a ccd cl outer) base (envX cn cs L a ccd cl :: outer) (hideAll s.heap (mu.map (·.1))) → K.In (hideAll s.heap (mu.map (·.1))) → Top p loose mean mg mb (hideAll s.heap (mu.map (·.1))) → s.heap.objs.size ≤ L' →
      wpAny (model prog w) ((ktrTop DP UN gd cn cs L a ccd cl outer).deeper (envX qual scope L' f cdv (clos L'))) (execs body (envX qual scope L' f cdv (clos L'))) (fun fl s' => Q (match fl with | .ret v => v | _ => .none) s') (fun _ _ => False) { s with heap := h₁, toks := tk }) :
    wpAny (model prog w) (ktrTop dp un gd cn cs L a ccd cl outer) (call (.ref f) args.pos args.kw) Q E s := by
  refine weaken hd hu (wpAny_call ?_)
  obtain ⟨_, BG, st, _⟩ := groundX (A := ktrTop DP UN gd cn cs L a ccd cl outer) (env := envX cn cs L a ccd cl) (R := fun _ _ => True) B F Nm rfl rfl hke
  have hkind := kindsX hkind
  refine codeAny_call_function hroom ((X.keeps F.keep) _ _ ho) rfl hco hgen rfl (codeRec_of (X.keeps F.keep) hcd) (hbind _ _ _ _ ?_)
  refine wpAny_newFunctionEnv_cells hk (hkind _) fun env' he s' x => ?_
  subst he
  refine ⟨(T.nolimit.keeps F.keep).keeps x.toInCall.keep, codeAny_func ?_⟩
  obtain ⟨h₁, tk, rfl, _⟩ := x.done
  have hk₁ := x.toInCall.keep
  obtain ⟨cells, NC, Y⟩ := Cl.news (h₀ := hideAll s.heap (mu.map (·.1))) (Nat.le_of_eq (hideAll_size _ _)) fun n c hm => ⟨x.cell n c (lookup_of_mem_nodup (cellsFrom_names scope.names 0 (s.heap.objs.size + 1) [] [] rfl ▸ hnd) hm), x.above n c hm⟩
  have hh := h s.heap.objs.size h₁ tk cells
  rw [← hclos, ← hM s.heap.objs.size, ← hC s.heap.objs.size] at hh
  refine wpAny_mono (hh ⟨x.toInCall.ns, fun b o e => hk₁ b o (of_hideAll _ e), Nat.le_of_eq (hideAll_size _ _)⟩ (fun p hp => ?_) Y (fun p hp => Heap.lt_size (Nm p hp).1) (fun n c hm => x.above n c hm) BG (X.keeps st) (T.keeps st) (Nat.le_refl _)) (fun fl s' hl => hl) fun _ _ y => y.elim
  rcases List.mem_append.mp hp with hp | hp
  · exact NC p hp
  · exact ⟨hk₁ _ _ (Nm p hp).1, Nat.ne_of_lt (Heap.lt_size (Nm p hp).1), hideAll_none _ (List.mem_map_of_mem hp)⟩
end Mine
end
section
open PySem PySem.W PyProof.Rows PySem.Calls
namespace Mine
theorem fillInner (w : World) (h : Heap) : (K w.params).In h → PySem.Challenge.rw_tp0056_01.foot = 8 := by
  k_fill
  intro _
  rfl
noncomputable def inPar : {b : Arguments // (match fnBody (st 6) with | (.FunctionDef _ p _ _ _ _ _ _ _ _) :: _ => p | _ => default) = b} := by
  refine' ⟨_, _⟩
  rotate_left
  · (conv => lhs; whnf)
noncomputable def inBody : {b : List Stmt // (match fnBody (st 6) with | (.FunctionDef _ _ b _ _ _ _ _ _ _) :: _ => b | _ => default) = b} := by
  refine' ⟨_, _⟩
  rotate_left
  · (conv => lhs; whnf)
noncomputable def inScope : {b : Scope // (match fnBody (st 6) with | (.FunctionDef _ _ _ _ _ _ s _ _ _) :: _ => s | _ => default) = b} := by
  refine' ⟨_, _⟩
  rotate_left
  · (conv => lhs; whnf)
noncomputable abbrev inClos (c1 c2 c3 : Addr) : List (Str × Addr) := [(Str.ofString "n", c2), (Str.ofString "inner", c1), (Str.ofString "digits", c3)]
structure InnerIn (h : Heap) (q : Str) (doc pm ctv : Value) (f c' c1 c2 c3 l : Addr) (vs : List Value) (t1 : Tok) : Prop where
  fn : h.get? f = some (fnMade (Str.ofString "inner") q inPar.1 inBody.1 inScope.1 (inClos c1 c2 c3) doc pm c' ctv)
  code : h.CodeRec (.ref c') q
  ci : ∃ o, h.get? c1 = some o ∧ o.data = .cell (some (.ref f))
  cn : ∃ o, h.get? c2 = some o ∧ o.data = .cell (some (.int 1 t1))
  cd : ∃ o, h.get? c3 = some o ∧ o.data = .cell (some (.ref l))
  ls : h.IsList l vs.toArray
theorem InnerIn.keeps {h h' : Heap} {q : Str} {doc pm ctv : Value} {f c' c1 c2 c3 l : Addr} {vs : List Value} {t1 : Tok} (J : InnerIn h q doc pm ctv f c' c1 c2 c3 l vs t1) (k : ∀ b o, h.get? b = some o → h'.get? b = some o) : InnerIn h' q doc pm ctv f c' c1 c2 c3 l vs t1 := by
  obtain ⟨j1, ⟨a1, a2, a3, a4, a5, a6, a7, a8⟩, ⟨o1, j3, j3'⟩, ⟨o2, j4, j4'⟩, ⟨o3, j5, j5'⟩, ⟨o, j6, j7⟩⟩ := J
  exact ⟨k _ _ j1, ⟨a1, a2, a3, a4, a5, k _ _ a6, a7, a8⟩, ⟨o1, k _ _ j3, j3'⟩, ⟨o2, k _ _ j4, j4'⟩, ⟨o3, k _ _ j5, j5'⟩, ⟨o, k _ _ j6, j7⟩⟩
/-- the digits as a number, the first the lowest -/
noncomputable def numOf : List Int → Int
  | [] => 0
  | d :: r => d + 2 * numOf r
theorem numOf_append : ∀ a b : List Int, numOf (a ++ b) = numOf b * 2 ^ a.length + numOf a
  | [], b => by simp [numOf]
  | d :: r, b => by
    rw [List.cons_append, numOf, numOf_append r b, numOf, List.length_cons, Int.pow_succ, Int.mul_add, ← Int.mul_assoc 2, Int.mul_comm 2 (numOf b), ← Int.mul_assoc (numOf b), Int.mul_right_comm]
    omega
noncomputable def dval (ds : List Int) (lo hi : Int) : Int := numOf ((ds.take hi.toNat).drop lo.toNat)
theorem dval_one {ds : List Int} {lo hi : Int} (h0 : 0 ≤ lo) (h1 : hi = lo + 1) (h2 : hi ≤ ds.length) : dval ds lo hi = ds.getD lo.toNat 0 := by
  subst h1
  unfold dval
  have e1 : (lo + 1).toNat = lo.toNat + 1 := by omega
  have hl : lo.toNat < ds.length := by omega
  rw [e1, List.drop_take]
  have e2 : lo.toNat + 1 - lo.toNat = 1 := by omega
  rw [e2, List.drop_eq_getElem_cons hl]
  rw [← List.drop_eq_getElem_cons hl]
  have : List.take 1 (List.drop lo.toNat ds) = [ds[lo.toNat]] := by rw [List.drop_eq_getElem_cons hl]; rfl
  rw [this, List.getD_eq_getElem?_getD, List.getElem?_eq_getElem hl]
  simp [numOf]
theorem dval_split {ds : List Int} {lo mid hi : Int} (h0 : 0 ≤ lo) (h1 : lo ≤ mid) (h2 : mid ≤ hi) (h3 : hi ≤ ds.length) : dval ds lo hi = dval ds mid hi * 2 ^ (mid - lo).toNat + dval ds lo mid := by
  unfold dval
  have e : (ds.take hi.toNat).drop lo.toNat = (ds.take mid.toNat).drop lo.toNat ++ (ds.take hi.toNat).drop mid.toNat := by
    have e1 : ds.take mid.toNat = (ds.take hi.toNat).take mid.toNat := by rw [List.take_take]; congr 1; omega
    rw [e1]
    conv => lhs; rw [← List.take_append_drop mid.toNat (ds.take hi.toNat)]
    rw [List.drop_append]
    congr 1
    rw [List.length_take, List.length_take]
    have : lo.toNat - min mid.toNat (min hi.toNat ds.length) = 0 := by omega
    rw [this, List.drop_zero]
  rw [e, numOf_append]
  congr 3
  rw [List.length_drop, List.length_take]
  omega
theorem numOf_bound : ∀ l : List Int, (∀ d ∈ l, d = 0 ∨ d = 1) → 0 ≤ numOf l ∧ numOf l < 2 ^ l.length
  | [], _ => by simp [numOf]
  | d :: r, h => by
    have := numOf_bound r fun d hd => h d (.tail _ hd)
    have hd := h d (.head _)
    rw [numOf, List.length_cons, Int.pow_succ]
    omega
theorem dval_bound {ds : List Int} (h : ∀ d ∈ ds, d = 0 ∨ d = 1) (hz : ds.length ≤ 9) (lo hi : Int) : 0 ≤ dval ds lo hi ∧ dval ds lo hi ≤ 512 := by
  have := numOf_bound ((ds.take hi.toNat).drop lo.toNat) fun d hd => h d (List.mem_of_mem_take (List.mem_of_mem_drop hd))
  refine ⟨this.1, Int.le_trans (Int.le_of_lt this.2) ?_⟩
  have l : ((ds.take hi.toNat).drop lo.toNat).length ≤ 9 := by rw [List.length_drop, List.length_take]; omega
  have : (2 : Int) ^ ((ds.take hi.toNat).drop lo.toNat).length ≤ 2 ^ 9 := by
    exact_mod_cast Nat.pow_le_pow_right (by decide : 0 < 2) l
  exact this
theorem mid_of {lo hi : Int} (h0 : 0 ≤ lo) (h1 : lo < hi) (h2 : lo + 1 ≠ hi) : lo < (lo + hi).fdiv (2 ^ Int.toNat 1) ∧ (lo + hi).fdiv (2 ^ Int.toNat 1) < hi := by
  have e : (2 : Int) ^ Int.toNat 1 = 2 := rfl
  rw [e, Int.fdiv_eq_ediv_of_nonneg _ (by decide)]
  omega
theorem nameX_G {M : Model} {A : Around} {E : Value → Shared → Prop} {s : Shared} {h₀ : Heap} {L a : Addr} {m : Str → Option Value} {cn : Str} {cs : Scope} {ccd : Value} {cl : List (Str × Addr)} {x : Str} {pos : Pos} {v : Value} {Q : Value → Shared → Prop} {c : Addr} {o : Obj}
    (F : Fr h₀ L s.heap m) (hc : cl.lookup x = some c) (hv : h₀.get? c = some o) (hd : o.data = .cell (some v)) (h : Q v s)
    (hk : cs.kind = .function := by rfl) (hx : (envX cn cs L a ccd cl).kindOf x = some .free := by rfl) (hb : (x == ("__debug__" : Str)) = false := by decide) (hn : (x == ("__classdict__" : Str)) = false := by decide) :
    wpAny M A (eval (.Name x pos) (envX cn cs L a ccd cl)) Q E s := wpAny_Name (wpAny_loadName_free hk hx hc ⟨o, F.keep _ _ hv, hd⟩ h hn) hb
theorem fnAt_G {h₀ h : Heap} {L q : Addr} {m : Str → Option Value} {oc : Value} {od : Option Addr} {fd : FuncData} {sl : Array (Option Value)} (F : Fr h₀ L h m) (e : h₀.get? q = some ⟨oc, od, .func fd, sl⟩) : FnAt q h := ⟨oc, od, fd, sl, F.keep _ _ e⟩
local macro_rules | `(tactic| walk_at "eval Name") => `(tactic| (k_dflt (refine nameX_G (by assumption) (by rfl) (by assumption) (by assumption) ?_)))
local macro_rules | `(tactic| walk_at "callWith ref") => `(tactic| (k_dflt (refine callWith_F (fnAt_G (by assumption) (by assumption)) ?_)))
local macro_rules | `(tactic| walk_at "FnAt") => `(tactic| (k_dflt (exact fnAt_G (by assumption) (by assumption))))
local macro_rules | `(tactic| walk_at "call ref") => `(tactic| refine held ?_)
set_option maxHeartbeats 2000000 in
theorem inner_spec (w : World) {q : Str} {doc pm ctv : Value} {f c' c1 c2 c3 l : Addr} {vs : List Value} {t1 : Tok} {ds : List Int} (hi : IntsAre vs ds) (hz : ds.length ≤ 9) (hb : ∀ d ∈ ds, d = 0 ∨ d = 1) : ∀ (n : Nat) {p : Program} {loose : List Str} {mean : ExcName → Option Value} {mg mb : Str → Option Value} {cn : Str} {cs : Scope} {L a : Addr} {ccd : Value} {cl : List (Str × Addr)} {outer : List Env} {A₀ : Around} {base h₀ : Heap} {m : Str → Option Value} {s : Shared} {Q E : Value → Shared → Prop} {dp un : Nat} {lo hig : Int} {ta tb : Tok}
    (_B : Below A₀ base outer h₀) (_F : Fr h₀ L s.heap m) (_X : (K w.params).In h₀) (_T : Top p loose mean mg mb h₀) (_hke : cs.kind = .function) (_hd : dp + n ≤ 890) (_hu : un + 8 * n ≤ 8900)
    (_J : InnerIn s.heap q doc pm ctv f c' c1 c2 c3 l vs t1) (_h0 : 0 ≤ lo) (_h1 : lo < hig) (_h2 : hig ≤ ds.length) (_hn : hig - lo = n)
    (_ret : ∀ t h' tk, Kept s.heap h' [] → Q (.int (dval ds lo hig) t) { s with heap := h', toks := tk }),
    wpAny (model PySem.Challenge.rw_tp0056_01.row.prog w) (ktrTop dp un (some []) cn cs L a ccd cl outer) (call (.ref f) [.int lo ta, .int hig tb] []) Q E s := by
  intro n
  induction n using Nat.strongRecOn with
  | _ n ih =>
  intro p loose mean mg mb cn cs L a ccd cl outer A₀ base h₀ m s Q E dp un lo hig ta tb B F X T hke hd hu J h0 h1 h2 hn ret
  refine enterX (args := ⟨[.int lo ta, .int hig tb], []⟩) (binds := [(Str.ofString "L", .int lo ta), (Str.ofString "R", .int hig tb)]) dp un B F X T hke (Nat.le_refl _) (Nat.le_refl _) J.fn J.code (Nat.lt_of_le_of_lt (Nat.le_trans (Nat.le_add_right _ _) hd) (by decide)) (BindsTo.of_eq rfl) (locs rfl) (by decide) rfl rfl rfl ?_
  clear B F X T
  intro L' h₁ F N B X T
  obtain ⟨j1, j2, ⟨o1, j3, j3'⟩, ⟨o2, j4, j4'⟩, ⟨o3, j5, j5'⟩, j6⟩ := J
  replace F : Fr s.heap L' h₁ (fun y => List.lookup y [(Str.ofString "R", Value.int hig tb), (Str.ofString "L", Value.int lo ta)]) := F
  have hMk := kstMark
  dsimp only [inBody, inScope, inPar]
  k_steps
  · have e' := dval_one h0 (Eq.symm (by assumption)) h2
    have := ret (by assumption) h₁ tk (Kept.of F N)
    rw [e'] at this
    exact this
  · rename Fr _ _ _ _ => F1
    rename News _ _ _ _ => N1
    have hm := mid_of h0 h1 (by assumption)
    generalize (lo + hig).fdiv (2 ^ Int.toNat 1) = mid at F1 hm
    obtain ⟨hm1, hm2⟩ := hm
    unfold Held
    have n1 : hig - mid = ((hig - mid).toNat : Int) := by omega
    have n2 : mid - lo = ((mid - lo).toNat : Int) := by omega
    have q1 : dp + 1 + (hig - mid).toNat ≤ 890 := by omega
    have q2 : un + 3 + 8 * (hig - mid).toNat ≤ 8900 := by omega
    have q3 : dp + 1 + (mid - lo).toNat ≤ 890 := by omega
    have q4 : un + 3 + 8 * (mid - lo).toNat ≤ 8900 := by omega
    refine ih (hig - mid).toNat (by omega) B F1 X T rfl q1 q2 (InnerIn.keeps ⟨j1, j2, ⟨o1, j3, j3'⟩, ⟨o2, j4, j4'⟩, ⟨o3, j5, j5'⟩, j6⟩ F1.keep) (by omega) hm2 h2 n1 ?_
    intro t3 h3 tk3 k3
    have F3 := k3.fr F1
    have N3 := k3.news F1 N1
    have hs : 0 ≤ (mid - lo) * 1 := by omega
    have hs2 : (mid - lo) * 1 ≤ 100 := by omega
    have hdb := dval_bound hb hz mid hig
    have hdb1 := hdb.1
    have hdb2 := hdb.2
    k_steps
    unfold Held
    refine ih (mid - lo).toNat (by omega) B F3 X T rfl q3 q4 (InnerIn.keeps ⟨j1, j2, ⟨o1, j3, j3'⟩, ⟨o2, j4, j4'⟩, ⟨o3, j5, j5'⟩, j6⟩ F3.keep) h0 hm1 (by omega) n2 ?_
    intro t4 h4 tk4 k4
    have F4 := k4.fr F3
    have N4 := k4.news F3 N3
    k_steps
    have e' := dval_split (ds := ds) h0 (Int.le_of_lt hm1) (Int.le_of_lt hm2) h2
    have := ret (by assumption) h4 (tk4 + 1) (Kept.of F4 N4)
    rw [e'] at this
    rw [Int.mul_one]
    exact this
end Mine
end
section
open PySem PySem.W PyProof.Rows PySem.Calls
namespace Mine
theorem fillDig (w : World) (h : Heap) : (K w.params).In h → PySem.Challenge.rw_tp0056_01.foot = 8 := by
  k_fill
  intro _
  rfl
noncomputable def inQual : Str := qualnameIn (envX (Str.ofString "_digits2int") ls59.1 0 59 (.ref 58) []) (Str.ofString "inner") (Str.ofString "inner")
theorem inQual_eq (L' : Addr) (cl : List (Str × Addr)) : qualnameIn (envX (Str.ofString "_digits2int") ls59.1 L' 59 (.ref 58) cl) (Str.ofString "inner") (Str.ofString "inner") = inQual := rfl
noncomputable def tabFull (c' : Addr) (oc' : Obj) : List (Addr × Obj) := [(54, tabObj #[rawInt (35 : Nat), rawInt (4 : Nat), .ref c']), (c', oc')]
/-- the table of the codes that the code 58 has made -/
noncomputable def TabL (led : List (Addr × Obj)) : Prop := led = [(54, tabObj #[])] ∨ ∃ c' oc' vs' t', led = tabFull c' oc' ∧ oc'.data = .fields vs' ∧ vs'[1]? = some (.str inQual t')
theorem TabL.fields {led : List (Addr × Obj)} (h : TabL led) : ∀ p ∈ led, ∃ vs, p.2.data = .fields vs := by
  rcases h with rfl | ⟨c', oc', vs', t', rfl, h1, h2⟩
  · intro p hp
    rw [List.mem_singleton.mp hp]; exact ⟨_, rfl⟩
  · intro p hp
    rcases List.mem_cons.mp hp with rfl | hp
    · exact ⟨_, rfl⟩
    · rw [List.mem_singleton.mp hp]; exact ⟨_, h1⟩
theorem hide_stays {h₀ h : Heap} {L : Addr} {m : Str → Option Value} {mu : List (Addr × Obj)} (F : Fr h₀ L h m) (N : News h₀ L h mu) : ∀ b o, h₀.get? b = some o → (hideAll h (mu.map (·.1))).get? b = some o := fun b o e =>
  hideAll_get _ (F.keep b o e) (fun q => by obtain ⟨p, hp, rfl⟩ := List.mem_map.mp q; rw [(N p hp).2.2] at e; cases e)
theorem hide_list {h₀ h : Heap} {L l : Addr} {its : Array Value} {mu : List (Addr × Obj)} (N : News h₀ L h mu) (hm : ∀ p ∈ mu, ∃ vs, p.2.data = .fields vs) (hl : h.IsList l its) : (hideAll h (mu.map (·.1))).IsList l its := by
  obtain ⟨o, ho, hc, n, hd⟩ := hl
  refine ⟨o, hideAll_get _ ho (fun q => ?_), hc, n, hd⟩
  obtain ⟨p, hp, rfl⟩ := List.mem_map.mp q
  rw [(N p hp).1] at ho
  cases ho
  obtain ⟨vs, e⟩ := hm p hp
  rw [e] at hd; cases hd
theorem IsList.keeps {h h' : Heap} {l : Addr} {its : Array Value} (x : h.IsList l its) (k : ∀ b o, h.get? b = some o → h'.get? b = some o) : h'.IsList l its :=
  let ⟨o, ho, r⟩ := x; ⟨o, k _ _ ho, r⟩
/-- a ledger given to a callee comes back changed; the rest stands -/
theorem back {h₀ h h' : Heap} {L L' : Addr} {m m' : Str → Option Value} {mu new rest : List (Addr × Obj)} (F : Fr h₀ L h m) (N : News h₀ L h (mu ++ rest)) (hap : ∀ p ∈ mu, ∀ q ∈ rest, q.1 ≠ p.1)
    (F' : Fr (hideAll h (mu.map (·.1))) L' h' m') (N' : News (hideAll h (mu.map (·.1))) L' h' new) : Fr h₀ L h' m ∧ News h₀ L h' (new ++ rest) := by
  have k := KeptX.of F' N'
  have hm : ∀ b ∈ mu.map (fun z : Addr × Obj => z.1), b ≠ L ∧ h₀.get? b = none := fun b hb => by
    obtain ⟨p, hp, rfl⟩ := List.mem_map.mp hb
    exact (N p (List.mem_append_left _ hp)).2
  refine ⟨k.fr F hm, k.news F hm (fun p hp => N p (List.mem_append_right _ hp)) fun p hp hb => ?_⟩
  obtain ⟨q, hq, e⟩ := List.mem_map.mp hb
  exact hap q hq p hp e.symm
local macro_rules | `(tactic| walk_at "call ref") => `(tactic| refine held ?_)
set_option maxHeartbeats 2000000 in
theorem digits_spec (w : World) {p : Program} {loose : List Str} {mean : ExcName → Option Value} {mg mb : Str → Option Value} {cn : Str} {cs : Scope} {L a : Addr} {ccd : Value} {cl : List (Str × Addr)} {outer : List Env} {A₀ : Around} {base h₀ : Heap} {m : Str → Option Value} {s : Shared} {Q E : Value → Shared → Prop} {dp un : Nat} {l : Addr} {vs : List Value} {ds : List Int} {t1 : Tok} {led rest : List (Addr × Obj)}
    (B : Below A₀ base outer h₀) (F : Fr h₀ L s.heap m) (X : (K w.params).In h₀) (T : Top p loose mean mg mb h₀) (hke : cs.kind = .function) (hd : dp ≤ 800) (hu : un ≤ 8000)
    (N : News h₀ L s.heap (led ++ rest)) (hap : ∀ p ∈ led, ∀ q ∈ rest, q.1 ≠ p.1) (hT : TabL led) (C : CodeHd h₀ 58 54)
    (hl : s.heap.IsList l vs.toArray) (hi : IntsAre vs ds) (hb : ∀ d ∈ ds, d = 0 ∨ d = 1) (hx0 : 1 ≤ ds.length) (hx : ds.length ≤ 9)
    (ret : ∀ t led' h' tk, TabL led' → Fr h₀ L h' m → News h₀ L h' (led' ++ rest) → (∀ p ∈ led', ∀ q ∈ rest, q.1 ≠ p.1) → Q (.int (dval ds 0 ds.length) t) { s with heap := h', toks := tk }) :
    wpAny (model PySem.Challenge.rw_tp0056_01.row.prog w) (ktrTop dp un (some []) cn cs L a ccd cl outer) (call (.ref 59) [.ref l, .int 1 t1] []) Q E s := by
  have Nm : News h₀ L s.heap led := fun p hp => N p (List.mem_append_left _ hp)
  refine enterCM (args := ⟨[.ref l, .int 1 t1], []⟩) (binds := [(Str.ofString "digits", .ref l), (Str.ofString "n", .int 1 t1)]) 800 8000 (fun L' => [(Str.ofString "inner", L' + 1 + 1 + 1), (Str.ofString "n", L' + 1 + 1), (Str.ofString "digits", L' + 1)]) (fun _ => none) (fun y => if y = Str.ofString "n" then some (Value.int 1 t1) else if y = Str.ofString "digits" then some (Value.ref l) else none) (fun _ => rfl) B F X T hke hd hu Nm (k59 _) (c59 _) (by decide) (BindsTo.of_eq rfl) rfl (by decide) rfl rfl rfl (fun L' => rfl) (fun L' => rfl) ?_
  intro L' h₁ tk cells F' N' Y l1 l2 B' X' T' hL'
  have C' := C.keeps (hide_stays F Nm)
  have hl' := hide_list Nm hT.fields hl
  clear B X T C
  dsimp only [lb59, ls59, la59] at *
  generalize hgen : hideAll s.heap _ = g at F' N' B' X' T' C' hl'
  k_cells Y
  dsimp only [List.cons_append, List.nil_append] at N'
  rename_i o1 o2 o3 d1 d2 d3
  replace d1 : o1.data = .cell none := d1
  replace d2 : o2.data = .cell (some (.int 1 t1)) := d2
  replace d3 : o3.data = .cell (some (.ref l)) := d3
  have hMk := kstMark
  have q1 : 801 + ds.length ≤ 890 := by omega
  have q2 : 8003 + 8 * ds.length ≤ 8900 := by omega
  have q3 : (0 : Int) < (ds.length : Int) := by omega
  rcases hT with rfl | ⟨c', oc', vs', t', rfl, e1, e2⟩
  · have N₀ := N
    have F₀ := F
    clear F N Nm
    k_lt l1
    k_steps
    unfold Held
    rename Fr g _ _ _ => F1
    rename News g _ _ _ => N1
    rename_i f' c' oc' vs' t' ctv doc _ _ e1 e2 la lb hh o' d'
    refine inner_spec w hi hx hb ds.length (q := inQual) (c1 := L' + 1 + 1 + 1) (c2 := L' + 1 + 1) (c3 := L' + 1) (l := l) B' F1 X' T' rfl q1 q2 ⟨(N1 _ (.head _)).1, codeRec_news N1 (.tail _ (.head _)) e1 e2, ⟨_, (N1 _ (.tail _ (.tail _ (.head _)))).1, d'⟩, ⟨_, (N1 _ (.tail _ (.tail _ (.tail _ (.head _))))).1, d2⟩, ⟨_, (N1 _ (.tail _ (.tail _ (.tail _ (.tail _ (.head _)))))).1, d3⟩, IsList.keeps hl' F1.keep⟩ (Int.le_refl 0) q3 (Int.le_refl _) (Int.sub_zero _) ?_
    intro t3 h3 tk3 k3
    have F3 := k3.fr F1
    have N3 := k3.news F1 N1
    subst hgen
    have bk := back F₀ N₀ hap F3 (new := tabFull c' oc') (fun p hp => N3 p (by
      rcases List.mem_cons.mp hp with rfl | hp
      · exact .tail _ (.tail _ (.tail _ (.tail _ (.tail _ (.head _)))))
      · rw [List.mem_singleton.mp hp]; exact .tail _ (.head _)))
    refine ret _ _ _ _ (.inr ⟨c', oc', vs', t', rfl, e1, e2⟩) bk.1 bk.2 (fun p hp q hq => ?_)
    rcases List.mem_cons.mp hp with rfl | hp
    · exact hap _ (.head _) q hq
    · rw [List.mem_singleton.mp hp]
      have hc : Nat.le L' c' := Nat.le_of_lt (Nat.lt_of_le_of_lt (Nat.le_add_right L' 3) la.1)
      exact Nat.ne_of_lt (Nat.lt_of_lt_of_le (Heap.lt_size (N₀ q (List.mem_append_right _ hq)).1) (Nat.le_trans hL' hc))
  · have N₀ := N
    have F₀ := F
    clear F N Nm
    unfold tabFull at *
    k_lt l1
    k_steps
    unfold Held
    rename Fr g _ _ _ => F1
    rename News g _ _ _ => N1
    rename_i f' ctv doc _ _ la hh o' d'
    refine inner_spec w hi hx hb ds.length (q := inQual) (c1 := L' + 1 + 1 + 1) (c2 := L' + 1 + 1) (c3 := L' + 1) (l := l) B' F1 X' T' rfl q1 q2 ⟨(N1 _ (.head _)).1, codeRec_news N1 (.tail _ (.tail _ (.tail _ (.tail _ (.tail _ (.head _)))))) e1 e2, ⟨_, (N1 _ (.tail _ (.head _))).1, d'⟩, ⟨_, (N1 _ (.tail _ (.tail _ (.head _)))).1, d2⟩, ⟨_, (N1 _ (.tail _ (.tail _ (.tail _ (.head _))))).1, d3⟩, IsList.keeps hl' F1.keep⟩ (Int.le_refl 0) q3 (Int.le_refl _) (Int.sub_zero _) ?_
    intro t3 h3 tk3 k3
    have F3 := k3.fr F1
    have N3 := k3.news F1 N1
    subst hgen
    have bk := back F₀ N₀ hap F3 (new := tabFull c' oc') (fun p hp => N3 p (List.mem_append_right [_, _, _, _] hp))
    exact ret _ _ _ _ (.inr ⟨c', oc', vs', t', rfl, e1, e2⟩) bk.1 bk.2 hap
end Mine
end
section
open PySem PySem.W PyProof.Rows PySem.Calls
namespace Mine
theorem fillTab (w : World) (h : Heap) : (K w.params).In h → PySem.Challenge.rw_tp0056_01.foot = 8 := by
  k_fill
  intro _
  rfl
noncomputable def heldT : List (Int × Tok) := [(832, 337), (833, 338), (8234, 346), (8235, 347), (8236, 348), (8237, 349), (8206, 339), (8207, 340), (8238, 350), (8298, 356), (8299, 357), (8300, 358), (8301, 359), (8302, 360), (8303, 361)]
noncomputable def heldL : List Int := heldT.map (·.1)
theorem k73 (P : Params) : (K P).lookup 73 = some (o73 P) := by kernel_rfl
theorem int_is {prog : Program} {w : World} (k j : Int) (t : Tok) : (intKind prog w).is k (.int j t) = true ↔ k = j := by
  show Value.isInt k (.int j t) = true ↔ k = j
  simp only [Value.isInt, beq_iff_eq]
  first | exact Iff.rfl | exact ⟨Eq.symm, Eq.symm⟩
theorem c8_set {prog : Program} {w : World} {P : Params} {h : Heap} (X : (K P).In h) : h.SetOf (intKind prog w) 73 (fun k => decide (k ∈ heldL)) 15 := by
  have e0 : ∀ es ep t, (o73 P).data = .set es ep t → es.toList = heldT.map (fun q => (q.1, Value.int q.1 q.2)) := by
    intro es ep t e
    cases e
    rfl
  refine ⟨o73 P, _, _, _, X _ _ (k73 P), ⟨rfl, rfl, rfl⟩, rfl, ?_, ?_, by decide, rfl, rfl⟩
  · rw [e0 _ _ _ rfl]
    intro e he
    obtain ⟨q, hq, rfl⟩ := List.mem_map.mp he
    refine ⟨⟨q.1, (int_is _ _ _).mpr rfl, ?_⟩, rfl⟩
    have : ∀ q ∈ heldT, q.1 = hashInt q.1 := by decide
    exact this q hq
  · intro k
    rw [e0 _ _ _ rfl, decide_eq_true_eq]
    constructor
    · intro h
      obtain ⟨q, hq, rfl⟩ := List.mem_map.mp h
      exact ⟨_, List.mem_map_of_mem hq, (int_is _ _ _).mpr rfl⟩
    · rintro ⟨e, he, h⟩
      obtain ⟨q, hq, rfl⟩ := List.mem_map.mp he
      rw [(int_is _ _ _).mp h]
      exact List.mem_map_of_mem hq
local macro_rules | `(tactic| walk_at "compareOp In int ref") => `(tactic| refine held ?_)
set_option maxHeartbeats 2000000 in
theorem tab_spec (w : World) {p : Program} {loose : List Str} {mean : ExcName → Option Value} {mg mb : Str → Option Value} {cn : Str} {cs : Scope} {L a : Addr} {ccd : Value} {cl : List (Str × Addr)} {outer : List Env} {A₀ : Around} {base h₀ : Heap} {m : Str → Option Value} {s : Shared} {Q E : Value → Shared → Prop} {dp un : Nat} {n : Nat} {t1 : Tok}
    (B : Below A₀ base outer h₀) (F : Fr h₀ L s.heap m) (X : (K w.params).In h₀) (T : Top p loose mean mg mb h₀) (hke : cs.kind = .function) (hd : dp ≤ 900) (hu : un ≤ 9000)
    (ret : ∀ h' tk, Kept s.heap h' [] → Q (.bool (decide ((n : Int) ∈ heldL))) { s with heap := h', toks := tk }) :
    wpAny (model PySem.Challenge.rw_tp0056_01.row.prog w) (ktrTop dp un (some []) cn cs L a ccd cl outer) (call (.ref 83) [.str ⟨#[n]⟩ t1] []) Q E s := by
  refine enter (args := ⟨[.str ⟨#[n]⟩ t1], []⟩) (binds := [(Str.ofString "code", .str ⟨#[n]⟩ t1)]) 900 9000 B F X T hke hd hu (k83 _) (c83 _) (by decide) (BindsTo.of_eq rfl) (locs rfl) (by decide) rfl rfl rfl ?_
  clear B F X T
  intro L' h₁ F N B X T
  dsimp only [lb83, ls83, la83]
  replace F : Fr s.heap L' h₁ (fun y => List.lookup y [(Str.ofString "code", Value.str ⟨#[n]⟩ t1)]) := F
  have hMk := kstMark
  k_steps
  unfold Held
  refine wpAny_inSet_of (intKind_is _ _ _ _) rfl (c8_set (X.keeps F.keep)) ?_
  k_steps
  exact ret _ _ (Kept.of F N)
end Mine
end
section
open PySem PySem.W PyProof.Rows PySem.Calls
namespace Mine
theorem re_plain : PlainAttrs "re.Pattern" :=
  ⟨⟨"object.__getattribute__", by rw [typeLookup_type, builtinLookup_eq_fast]; kernel_rfl, by decide +kernel⟩, by rw [typeLookup_type, builtinLookup_eq_fast]; kernel_rfl⟩
theorem re_slot : Slot "re.Pattern" "search" "re.Pattern.search" :=
  .of (owner := "re.Pattern") (n := "search") (by rw [typeLookup_type, builtinLookup_eq_fast]; kernel_rfl) (by decide +kernel) (by decide +kernel) (by decide +kernel)
    (by first | exact .inl (by decide +kernel) | exact .inr (by decide +kernel)) (by rw [isSubtype_type]; kernel_rfl)
theorem re_type : typeOf (.builtin "re.Pattern.search") = pure (.type "method_descriptor") := by show builtinType _ = _; rw [builtinType_eq_fast]; kernel_rfl
theorem re_entry : entryFor table "re.Pattern.search" = some Builtin.«re.Pattern.search» := entryFor_of_tree (by kernel_rfl)
theorem re_owner : Manifest.owners.lookup (String.ofList ['n', 'r', 'e', 't', 't', 'a', 'P', '.', 'e', 'r'].reverse) = some Manifest.sig_re_Pattern := by kernel_rfl
theorem re_args (a b : Value) : argsOk "re.Pattern.search" ⟨[a, b], []⟩ := by
  unfold argsOk; rw [signature?_of (id := "re.Pattern.search") (n := ['h', 'c', 'r', 'a', 'e', 's']) (o := ['n', 'r', 'e', 't', 't', 'a', 'P', '.', 'e', 'r']) (by kernel_rfl) re_owner]; kernel_rfl
theorem admitted_none {m : Sre.M} (h : ∀ p, p < m.lim → ∀ seen, ∃ seen', Sre.inSet m.code (m.text.getD p 0) m.code.size 5 true seen = .ok (false, seen')) :
    ∀ (fuel s : Nat) (seen : Sre.Seen), ∃ seen', Sre.M.admitted m fuel s seen = .ok (none, seen') := by
  intro fuel
  induction fuel with
  | zero => intro s seen; exact ⟨_, rfl⟩
  | succ n ih =>
    intro s seen
    unfold Sre.M.admitted
    by_cases hs : s ≥ m.lim
    · rw [if_pos hs]; exact ⟨_, rfl⟩
    · rw [if_neg hs]
      obtain ⟨s2, e⟩ := h s (by omega) seen
      rw [e]
      exact ih (s + 1) s2
noncomputable def firstSet (code : Array Nat) : Bool := (match Sre.ops[code.getD 0 0]? with | some .INFO => true | _ => false) && code.getD 2 0 == 4
theorem attempt_ok {m : Sre.M} {s : Nat} {first : Bool} (hfr : m.frames = []) (ho : m.outcome = none) (hf : m.hasFirstSet = true) (h : ∀ p, p < m.lim → ∀ seen, ∃ seen', Sre.inSet m.code (m.text.getD p 0) m.code.size 5 true seen = .ok (false, seen')) :
    ∃ m' : Sre.M, m.attemptFrom s first = m'.say false ∧ m'.frames = [] ∧ m'.outcome = none := by
  unfold Sre.M.attemptFrom
  rw [hf, if_neg (by decide)]
  obtain ⟨s2, e⟩ := admitted_none h (m.lim + 1 - s) s m.seen
  rw [e]
  exact ⟨_, rfl, hfr, ho⟩
theorem search_false {code text : Array Nat} {g pos lim : Nat} (hf : firstSet code = true) (h : ∀ p, p < lim → ∀ seen, ∃ seen', Sre.inSet code (text.getD p 0) code.size 5 true seen = .ok (false, seen')) :
    ∃ m : Sre.M, Sre.forSearch code text g pos lim false = m.say false ∧ m.frames = [] ∧ m.outcome = none := by
  unfold Sre.forSearch
  dsimp only
  split
  · exact ⟨_, rfl, rfl, rfl⟩
  · exact attempt_ok rfl rfl hf h
theorem run4 {m : Sre.M} (hfr : m.frames = []) (ho : m.outcome = none) : (m.say false).runFor 4 = { m.say false with outcome := some .failed } := by
  have e1 : (m.say false).step = { m.say false with outcome := some .failed } := by
    unfold Sre.M.step
    have : (m.say false).outcome.isSome = false := by show m.outcome.isSome = false; rw [ho]; rfl
    rw [this, if_neg (by decide)]
    show (match some false, m.frames with | some yes, [] => _ | some yes, f :: rest => _ | none, _ => _) = _
    rw [hfr]
    rfl
  show (if (m.say false).outcome.isSome then _ else Sre.M.runFor 3 (m.say false).step) = _
  have : (m.say false).outcome.isSome = false := by show m.outcome.isSome = false; rw [ho]; rfl
  rw [this, if_neg (by decide), e1]
  rfl
section
variable {prog : Program} {w : World} {A : Around} {E : Value → Shared → Prop} {s : Shared}
theorem runToEnd {m : Sre.M} {Q : Option Sre.M → Shared → Prop} (hfr : m.frames = []) (ho : m.outcome = none) (h : Q none s) : wpAny (model prog w) A (Builtin.Re.reRunToEnd (m.say false)) Q E s := by
  unfold Builtin.Re.reRunToEnd
  have e : (2 : Nat) ^ 64 = (2 ^ 64 - 1) + 1 := by decide +kernel
  rw [e]
  unfold Builtin.Re.reDrive
  dsimp only [Builtin.Re.reTurnSteps]
  rw [run4 hfr ho]
  dsimp only [Option.isSome_some]
  rw [if_pos rfl]
  refine wpAny_bind (wpAny_pure ?_)
  refine wpAny_bind (wpAny_forIn_list _ (fun _ _ s' => s' = s) _ ?_ ?_ _ _ rfl)
  · rintro x rest b s' rfl
    split
    · refine wpAny_bind (wpAny_rule ?_)
      exact wpAny_pure rfl
    · exact wpAny_pure rfl
  · rintro b s' rfl
    exact wpAny_pure h
theorem named_one (id f : String) (x : Str) (t : Tok) : Builtin.Re.reNamed id f ["string", "pos", "endpos"] 1 [.str x t] [] = pure [some (.str x t), none, none] := by
  rfl
theorem re_search {a tu : Addr} {fs ws : Array Value} {ot : Obj} {n : Nat} {x : Str} {t : Tok} {Q : Value → Shared → Prop} (ho : s.heap.get? a = some ⟨.type "re.Pattern", none, .fields fs, #[]⟩) (h5 : fs.getD 5 .none = .ref tu) (h6 : Builtin.Re.reRawNat (fs.getD 6 .none) = 0)
    (ht : s.heap.get? tu = some ot) (hd : ot.data = .seq ws n) (hf : firstSet ((ws.map Builtin.Re.reRawOf).map (·.toNat)) = true)
    (hc : ∀ c ∈ x.cps.toList, ∀ seen, ∃ seen', Sre.inSet ((ws.map Builtin.Re.reRawOf).map (·.toNat)) c ((ws.map Builtin.Re.reRawOf).map (·.toNat)).size 5 true seen = .ok (false, seen')) (h : Q .none s) :
    wpAny (model prog w) A (call (.builtin "re.Pattern.search") [.ref a, .str x t]) Q E s := by
  refine wpAny_call_entry re_slot ⟨_, ho, rfl⟩ re_entry ?_ (re_args _ _)
  unfold Builtin.«re.Pattern.search» Builtin.Re.reTarget
  dsimp only
  refine wpAny_bind (wpAny_bind ?_)
  rw [named_one]
  refine wpAny_pure ?_
  dsimp only
  refine wpAny_bind (wpAny_pure ?_)
  refine wpAny_bind (wpAny_pure ?_)
  refine wpAny_bind (wpAny_fieldsOf ho rfl ?_)
  unfold Builtin.Re.reTextOf asStr?
  dsimp only
  refine wpAny_bind (wpAny_bind (wpAny_pure ?_))
  dsimp only
  refine wpAny_pure ?_
  dsimp only
  rw [h6, if_neg (by decide), if_neg (by decide)]
  refine wpAny_bind ?_
  unfold Builtin.Re.reNoCollectionInside
  rw [if_neg (by decide)]
  refine wpAny_pure ?_
  refine wpAny_bind ?_
  rw [h5]
  unfold Builtin.Re.reRawItems
  refine wpAny_bind (wpAny_seqItems ht hd ?_)
  refine wpAny_pure ?_
  refine wpAny_pure ?_
  dsimp only [Option.getD_some]
  obtain ⟨m, e1, e2, e3⟩ := search_false (text := x.cps) (g := Builtin.Re.reRawNat (fs.getD 2 Value.none)) (pos := min (Int.toNat 0) x.cps.size) (lim := min (2 ^ 63 - 1 : Int).toNat x.cps.size) hf (fun p hp seen => by
    have hp' : p < x.cps.size := Nat.lt_of_lt_of_le hp (Nat.min_le_right _ _)
    refine hc _ ?_ seen
    rw [Array.getD_eq_getD_getElem?, Array.getElem?_eq_getElem hp']
    exact Array.getElem_mem_toList hp')
  rw [e1]
  unfold Builtin.Re.reAnswer
  refine wpAny_bind (runToEnd e2 e3 ?_)
  exact wpAny_pure ⟨_, rfl, h⟩
end
/-- the signs of the words and of the steps -/
noncomputable def fineL : List Nat := [48, 49, 50, 51, 52, 53, 54, 55, 56, 57, 65, 66, 97, 98]
noncomputable def nameCode (P : Params) : Array Nat := match (o153 P).data with | .seq ws _ => (ws.map Builtin.Re.reRawOf).map (·.toNat) | _ => #[]
noncomputable def valCode (P : Params) : Array Nat := match (o158 P).data with | .seq ws _ => (ws.map Builtin.Re.reRawOf).map (·.toNat) | _ => #[]
theorem name_in (P : Params) : ∀ c ∈ fineL, ∀ seen, ∃ seen', Sre.inSet (nameCode P) c (nameCode P).size 5 true seen = .ok (false, seen') := by
  intro c hc seen
  simp only [fineL, List.mem_cons, List.not_mem_nil, or_false] at hc
  rcases hc with rfl | rfl | rfl | rfl | rfl | rfl | rfl | rfl | rfl | rfl | rfl | rfl | rfl | rfl
  all_goals exact ⟨((seen.add 22).add 16).add 0, by kernel_rfl⟩
theorem val_in (P : Params) : ∀ c ∈ fineL, ∀ seen, ∃ seen', Sre.inSet (valCode P) c (valCode P).size 5 true seen = .ok (false, seen') := by
  intro c hc seen
  simp only [fineL, List.mem_cons, List.not_mem_nil, or_false] at hc
  rcases hc with rfl | rfl | rfl | rfl | rfl | rfl | rfl | rfl | rfl | rfl | rfl | rfl | rfl | rfl
  all_goals exact ⟨(seen.add 9).add 0, by kernel_rfl⟩
theorem k153 (P : Params) : (K P).lookup 153 = some (o153 P) := by kernel_rfl
theorem k154 (P : Params) : (K P).lookup 154 = some (o154 P) := by kernel_rfl
theorem k158 (P : Params) : (K P).lookup 158 = some (o158 P) := by kernel_rfl
theorem k159 (P : Params) : (K P).lookup 159 = some (o159 P) := by kernel_rfl
section
variable {prog : Program} {w : World} {A : Around} {E : Value → Shared → Prop} {s : Shared}
theorem name_search {P : Params} {x : Str} {t : Tok} {Q : Value → Shared → Prop} (X : (K P).In s.heap) (hc : ∀ c ∈ x.cps.toList, c ∈ fineL) (h : Q .none s) : wpAny (model prog w) A (call (.builtin "re.Pattern.search") [.ref 154, .str x t]) Q E s :=
  re_search (X _ _ (k154 P)) rfl rfl (X _ _ (k153 P)) rfl (by kernel_rfl) (fun c h seen => name_in P c (hc c h) seen) h
theorem val_search {P : Params} {x : Str} {t : Tok} {Q : Value → Shared → Prop} (X : (K P).In s.heap) (hc : ∀ c ∈ x.cps.toList, c ∈ fineL) (h : Q .none s) : wpAny (model prog w) A (call (.builtin "re.Pattern.search") [.ref 159, .str x t]) Q E s :=
  re_search (X _ _ (k159 P)) rfl rfl (X _ _ (k158 P)) rfl (by kernel_rfl) (fun c h seen => val_in P c (hc c h) seen) h
theorem re_method {a : Addr} {fs : Array Value} {pl : Sem Bool} {Q : Value × List Value → Shared → Prop} (ho : s.heap.get? a = some ⟨.type "re.Pattern", none, .fields fs, #[]⟩) (h : Q (.builtin "re.Pattern.search", [.ref a]) s) : wpAny (model prog w) A (getMethod (.ref a) "search" pl) Q E s :=
  getMethod_builtin ⟨_, ho, rfl⟩ re_plain re_slot re_type (fun b e => by cases e; exact ⟨_, ho, rfl⟩) h
end
end Mine
end
section
open PySem PySem.W PyProof.Rows PySem.Calls
namespace Mine
theorem fillConv (w : World) (h : Heap) : (K w.params).In h → PySem.Challenge.rw_tp0056_01.foot = 8 := by
  k_fill
  intro _
  rfl
local macro_rules | `(tactic| walk_at "getMethod ref") => `(tactic| (k_dflt (first | refine re_method (Frag.In.keeps (by assumption) (Fr.keep (by assumption)) _ _ (k154 _)) ?_ | refine re_method (Frag.In.keeps (by assumption) (Fr.keep (by assumption)) _ _ (k159 _)) ?_)))
local macro_rules | `(tactic| walk_at "call builtin:re.Pattern.search") => `(tactic| (k_dflt (first | refine name_search (Frag.In.keeps (by assumption) (Fr.keep (by assumption))) (by assumption) ?_ | refine val_search (Frag.In.keeps (by assumption) (Fr.keep (by assumption))) (by assumption) ?_)))
set_option maxHeartbeats 2000000 in
theorem conv_spec (w : World) {p : Program} {loose : List Str} {mean : ExcName → Option Value} {mg mb : Str → Option Value} {cn : Str} {cs : Scope} {L a : Addr} {ccd : Value} {cl : List (Str × Addr)} {outer : List Env} {A₀ : Around} {base h₀ : Heap} {m : Str → Option Value} {s : Shared} {Q E : Value → Shared → Prop} {dp un : Nat} {o : Addr} {x : Str} {t1 : Tok} {b : Bool}
    (B : Below A₀ base outer h₀) (F : Fr h₀ L s.heap m) (X : (K w.params).In h₀) (T : Top p loose mean mg mb h₀) (hke : cs.kind = .function) (hd : dp ≤ 900) (hu : un ≤ 9000)
    (hx : ∀ c ∈ x.cps.toList, c ∈ fineL)
    (ret : ∀ h' tk, Kept s.heap h' [] → Q (.str x t1) { s with heap := h', toks := tk }) :
    wpAny (model PySem.Challenge.rw_tp0056_01.row.prog w) (ktrTop dp un (some []) cn cs L a ccd cl outer) (call (.ref 181) [.ref o, .str x t1] [(Str.ofString "name", .bool b)]) Q E s := by
  refine enter (args := ⟨[.ref o, .str x t1], [(Str.ofString "name", .bool b)]⟩) (binds := [(Str.ofString "self", .ref o), (Str.ofString "value", .str x t1), (Str.ofString "name", .bool b)]) 900 9000 B F X T hke hd hu (k181 _) (c181 _) (by decide) (BindsTo.of_eq rfl) (locs rfl) (by decide) rfl rfl rfl ?_
  clear B F X T
  intro L' h₁ F N B X T
  dsimp only [lb181, ls181, la181]
  replace F : Fr s.heap L' h₁ (fun y => List.lookup y [(Str.ofString "name", Value.bool b), (Str.ofString "value", Value.str x t1), (Str.ofString "self", Value.ref o)]) := F
  have hMk := kstMark
  cases b
  all_goals k_steps
  all_goals rename Fr _ _ _ _ => F1
  all_goals rename News _ _ _ _ => N1
  all_goals exact ret _ _ (Kept.of F1 N1)
end Mine
end
section
open PySem PySem.W PyProof.Rows PySem.Calls
namespace Mine
theorem fillGet (w : World) (h : Heap) : (K w.params).In h → PySem.Challenge.rw_tp0056_01.foot = 8 := by
  k_fill
  intro _
  rfl
/-- tuples of two texts -/
inductive PairsAre (h : Heap) : List Value → List (Str × Str) → Prop
  | nil : PairsAre h [] []
  | cons {t : Addr} {x y : Str} {tx ty : Tok} {vs : List Value} {ps : List (Str × Str)} : h.get? t = some (tupOf #[.str x tx, .str y ty]) → PairsAre h vs ps → PairsAre h (.ref t :: vs) ((x, y) :: ps)
/-- a table's three objects -/
noncomputable abbrev tabLed (w : World) (tb d hl : Addr) (kt : Tok) (vs : List Value) (e : Nat) : List (Addr × Obj) :=
  [(tb, instObj 282 d), (d, dictOf [⟨PyData.keyHash w.params (Str.ofString "_headers"), .str (Str.ofString "_headers") kt, .ref hl⟩] 1), (hl, listOf vs.toArray e)]
theorem PairsAre.keeps {h h' : Heap} (k : ∀ b o, h.get? b = some o → h'.get? b = some o) : ∀ {vs : List Value} {ps : List (Str × Str)}, PairsAre h vs ps → PairsAre h' vs ps
  | _, _, .nil => .nil
  | _, _, .cons e r => .cons (k _ _ e) (r.keeps k)
theorem PairsAre.hide {w : World} {h₀ h : Heap} {L tb d hl : Addr} {kt : Tok} {us : List Value} {e : Nat} (N : News h₀ L h (tabLed w tb d hl kt us e)) : ∀ {vs : List Value} {ps : List (Str × Str)}, PairsAre h vs ps → PairsAre (hideAll h ((tabLed w tb d hl kt us e).map (·.1))) vs ps
  | _, _, .nil => .nil
  | _, _, .cons (t := t) q r => .cons (hideAll_get _ q (fun m => by
      have n1 := (N _ (.head _)).1
      have n2 := (N _ (.tail _ (.head _))).1
      have n3 := (N _ (.tail _ (.tail _ (.head _)))).1
      simp only [List.map_cons, List.map_nil, List.mem_cons, List.not_mem_nil, or_false] at m
      rcases m with rfl | rfl | rfl
      · exact absurd (congrArg (Option.map Obj.cls) (q.symm.trans n1)) (by simp [instObj, tupOf])
      · exact absurd (congrArg (Option.map Obj.cls) (q.symm.trans n2)) (by simp [dictOf, tupOf])
      · exact absurd (congrArg (Option.map Obj.cls) (q.symm.trans n3)) (by simp [W.listOf, tupOf]))) (r.hide N)
/-- a loop over a list of pairs that changes no object -/
theorem rest_pairs {prog : Program} {w : World} {A : Around} {E : Value → Shared → Prop} {s : Shared} {env : Env} {h₀ : Heap} {target : Expr} {body : List Stmt} {Q : Flow → Shared → Prop} {I : Addr} {keep news : List (Addr × Obj)}
    (J : List (Str × Str) → (Str → Option Value) → Prop) (hk : SubL keep news) (ap : ∀ p ∈ news, p.1 ≠ I)
    (turn : ∀ (x y : Str) (tx ty : Tok) (r : List (Str × Str)) (m : Str → Option Value) (T : Addr) (o : Obj) h tk, J ((x, y) :: r) m → IsTup h T #[.str x tx, .str y ty] → Fr h₀ env.locals h m → News h₀ env.locals h ((I, o) :: news) →
      wpAny (model prog w) A (assign target env (.ref T)) (fun _ s₂ => wpAny (model prog w) A (execs body env) (PostG h₀ env.locals I o (fun m' n' => n' = news ∧ J r m') { s with heap := h, toks := tk } Q) E s₂) E { s with heap := h, toks := tk })
    (done : ∀ m h tk, J [] m → Fr h₀ env.locals h m → News h₀ env.locals h news → Q .next { s with heap := h, toks := tk }) :
    ∀ {vs : List Value} {ps : List (Str × Str)} {m : Str → Option Value}, PairsAre h₀ vs ps → J ps m → ItemsRest prog w A E h₀ env target body Q s [(I, "list_iterator")] keep (vs.map .val) m news
  | _, _, _, .nil, hj => fun h tk F N => done _ h tk hj F N
  | _, _, m, .cons (t := T) (x := x) (y := y) (tx := tx) (ty := ty) (vs := us) (ps := r) q rs, hj => by
    intro v h tk hv F
    cases hv
    intro o hc N
    refine wpAny_mono (turn x y tx ty r m T o h tk hj ⟨_, F.keep _ _ q, rfl, _, rfl⟩ F N) (fun _ s₂ h₂ => wpAny_mono h₂ (fun f s₃ p => ?_) fun _ _ e => e) fun _ _ e => e
    have fin : EndG h₀ env.locals I o (fun m' n' => n' = news ∧ J r m') { s with heap := h, toks := tk } s₃ → UnrEndW h₀ env.locals { s with heap := h, toks := tk } [(I, o)] (fun m' n' => SubL keep n' ∧ ItemsRest prog w A E h₀ env target body Q s [(I, "list_iterator")] keep (us.map .val) m' n') s₃ := by
      rintro ⟨h', tk', m', nx, e, F', N', ha, rfl, hj'⟩
      exact ⟨h', tk', m', _, e, F', N', fun p hp q hq => by rw [List.mem_singleton.mp hq]; exact ha p hp, hk, rest_pairs J hk ap turn done rs hj'⟩
    cases f with
    | ret v => exact p
    | brk => exact p
    | next => exact fin p
    | cont => exact fin p
theorem two_names {m : Str → Option Value} {a b : Str} {v u : Value} (h1 : m a = some v) (h2 : m b = some u) : m = fun y => if y = a then some v else if y = b then some u else m y := by
  funext y
  by_cases e : y = a
  · rw [if_pos e, e, h1]
  · rw [if_neg e]
    by_cases e' : y = b
    · rw [if_pos e', e', h2]
    · rw [if_neg e']
noncomputable def lookL (ps : List (Str × Str)) (nm : Str) : Option Str := (ps.find? fun p => Txt.lower p.1 == nm).map (·.2)
noncomputable def GetIs : Option Str → Value → Prop
  | none, v => v = .none
  | some y, v => ∃ t, v = .str y t
theorem lookL_yes {x y nm : Str} {r : List (Str × Str)} (h : Txt.lower x = nm) : lookL ((x, y) :: r) nm = some y := by
  unfold lookL
  rw [List.find?_cons_of_pos (by simpa using h)]
  rfl
theorem lookL_no {x y nm : Str} {r : List (Str × Str)} (h : ¬ Txt.lower x = nm) : lookL ((x, y) :: r) nm = lookL r nm := by
  unfold lookL
  rw [List.find?_cons_of_neg (by simpa using h)]
local macro_rules | `(tactic| walk_at "call ref") => `(tactic| refine held ?_)
local macro_rules | `(tactic| walk_at "call builtin:str.lower") => `(tactic| (k_dflt (refine SCL.lower (by assumption) ?_); intro _))
local macro_rules | `(tactic| walk_at "exec For Tuple Attribute cons nil") => `(tactic| (k_dflt (refine For_turns (by assumption) ?_)))
local macro_rules | `(tactic| walk_at "pyIter ref") => `(tactic| refine held ?_)
set_option maxHeartbeats 2000000 in
theorem get_spec (w : World) {p : Program} {loose : List Str} {mean : ExcName → Option Value} {mg mb : Str → Option Value} {cn : Str} {cs : Scope} {L a : Addr} {ccd : Value} {cl : List (Str × Addr)} {outer : List Env} {A₀ : Around} {base h₀ : Heap} {m : Str → Option Value} {s : Shared} {Q E : Value → Shared → Prop} {dp un : Nat} {tb d hl : Addr} {kt : Tok} {vs : List Value} {e : Nat} {ps : List (Str × Str)} {x : Str} {t1 : Tok}
    (B : Below A₀ base outer h₀) (F : Fr h₀ L s.heap m) (X : (K w.params).In h₀) (T : Top p loose mean mg mb h₀) (hke : cs.kind = .function) (hd : dp ≤ 800) (hu : un ≤ 8000)
    (N : News h₀ L s.heap (tabLed w tb d hl kt vs e)) (hp : PairsAre s.heap vs ps)
    (hx : ∀ c ∈ (Txt.lower x).cps.toList, c ∈ fineL) (hz : x.length ≤ 5592405)
    (hzp : ∀ p ∈ ps, p.1.length ≤ 5592405)
    (ret : ∀ v h' tk, GetIs (lookL ps (Txt.lower x)) v → Kept s.heap h' [] → Q v { s with heap := h', toks := tk }) :
    wpAny (model PySem.Challenge.rw_tp0056_01.row.prog w) (ktrTop dp un (some []) cn cs L a ccd cl outer) (call (.ref 229) [.ref tb, .str x t1] []) Q E s := by
  have Nm := N
  refine enterM (args := ⟨[.ref tb, .str x t1], []⟩) (binds := [(Str.ofString "self", .ref tb), (Str.ofString "name", .str x t1), (Str.ofString "default", .none)]) 800 8000 B F X T hke hd hu Nm (k229 _) (c229 _) (by decide) (binds_K (by k_in) rfl (by k_is) rfl rfl rfl) (locs rfl) (by decide) rfl rfl rfl ?_
  clear B X T
  intro L' h₁ F' N' B X T
  dsimp only [lb229, ls229, la229]
  replace hp := hp.hide N
  generalize hgen : hideAll s.heap _ = g at F' N' B X T hp
  clear F N
  replace F' : Fr g L' h₁ (fun y => List.lookup y [(Str.ofString "default", Value.none), (Str.ofString "name", Value.str x t1), (Str.ofString "self", Value.ref tb)]) := F'
  have hMk := kstMark
  k_steps
  rename Fr g _ _ _ => F1
  rename News g _ _ _ => N1
  unfold Held
  refine conv_spec w B F1 X T rfl (Nat.le_of_ble_eq_true rfl) (Nat.le_of_ble_eq_true rfl) hx ?_
  intro h2 tk2 k2
  have F2 := k2.fr F1
  have N2 := k2.news F1 N1
  clear F1 N1
  dsimp only [List.nil_append] at N2
  k_steps
  rename Fr g _ _ _ => F3
  rename News g _ _ _ => N3
  unfold Held
  refine iter_listTurns rfl F3 N3 (.tail _ (.tail _ (.head _))) rfl rfl ?_
  intro I hI
  refine rest_pairs (news := tabLed w tb d hl kt vs e) (keep := [(hl, listOf vs.toArray e)]) (fun r m => (∃ t, m (Str.ofString "name") = some (.str (Txt.lower x) t)) ∧ m (Str.ofString "default") = some .none ∧ (∀ p ∈ r, p.1.length ≤ 5592405) ∧ lookL ps (Txt.lower x) = lookL r (Txt.lower x)) ⟨.tail _ (.tail _ (.head _)), trivial⟩ (fun p hp => Nat.ne_of_lt (hI p hp)) ?_ ?_ hp ⟨⟨_, rfl⟩, rfl, hzp, rfl⟩
  · clear F3 N3
    rintro kx vx tx ty r m T o h tk ⟨⟨tn, hj1⟩, hj2, hj3, hj4⟩ hT F4 N4
    have hk := hj3 _ (.head _)
    dsimp only at hk
    rw [two_names (a := Str.ofString "name") (b := Str.ofString "default") hj1 hj2] at F4
    k_steps
    · rename Fr g _ _ _ => F5
      rename News g _ _ _ => N5
      rename (Txt.lower kx == Txt.lower x) = true => he
      have he' := beq_iff_eq.mp he
      subst hgen
      exact ret _ _ _ (by rw [hj4, lookL_yes he']; exact ⟨_, rfl⟩) (keptX_all Nm F5 (fun p hp => N5 p (.tail _ hp)))
    · rename Fr g _ _ _ => F5
      rename News g _ _ _ => N5
      rename (Txt.lower kx == Txt.lower x) = false => he
      exact ⟨_, _, _, _, rfl, F5, N5, fun p hp => Nat.ne_of_lt (hI p hp), rfl, ⟨_, rfl⟩, rfl, fun p hp => hj3 p (.tail _ hp), by rw [hj4, lookL_no (beq_eq_false_iff_ne.mp he)]⟩
  · rintro m h tk ⟨⟨tn, hj1⟩, hj2, _, hj4⟩ F4 N4
    rw [two_names (a := Str.ofString "name") (b := Str.ofString "default") hj1 hj2] at F4
    k_steps
    subst hgen
    exact ret _ _ _ (by rw [hj4]; rfl) (keptX_all Nm F4 N4)
end Mine
end
section
open PySem PySem.W PyProof.Rows PySem.Calls
namespace Mine
theorem fillSet (w : World) (h : Heap) : (K w.params).In h → PySem.Challenge.rw_tp0056_01.foot = 8 := by
  k_fill
  intro _
  rfl
theorem PairsAre.snoc {h : Heap} {t : Addr} {x y : Str} {tx ty : Tok} (e : h.get? t = some (tupOf #[.str x tx, .str y ty])) : ∀ {vs : List Value} {ps : List (Str × Str)}, PairsAre h vs ps → PairsAre h (vs ++ [.ref t]) (ps ++ [(x, y)])
  | _, _, .nil => .cons e .nil
  | _, _, .cons q r => .cons q (r.snoc e)
local macro_rules | `(tactic| walk_at "call ref") => `(tactic| refine held ?_)
set_option maxHeartbeats 2000000 in
theorem set_spec (w : World) {p : Program} {loose : List Str} {mean : ExcName → Option Value} {mg mb : Str → Option Value} {cn : Str} {cs : Scope} {L a : Addr} {ccd : Value} {cl : List (Str × Addr)} {outer : List Env} {A₀ : Around} {base h₀ : Heap} {m : Str → Option Value} {s : Shared} {Q E : Value → Shared → Prop} {dp un : Nat} {tb d hl : Addr} {kt : Tok} {vs : List Value} {e : Nat} {ps : List (Str × Str)} {x y : Str} {t1 t2 : Tok} {rest : List (Addr × Obj)}
    (B : Below A₀ base outer h₀) (F : Fr h₀ L s.heap m) (X : (K w.params).In h₀) (T : Top p loose mean mg mb h₀) (hke : cs.kind = .function) (hd : dp ≤ 700) (hu : un ≤ 7000)
    (N : News h₀ L s.heap (tabLed w tb d hl kt vs e ++ rest)) (hap : ∀ p ∈ tabLed w tb d hl kt vs e, ∀ q ∈ rest, q.1 ≠ p.1) (hap2 : d ≠ tb ∧ hl ≠ tb ∧ hl ≠ d) (hp : PairsAre s.heap vs ps)
    (hx : ∀ c ∈ (Txt.lower x).cps.toList, c ∈ fineL) (hx' : ∀ c ∈ x.cps.toList, c ∈ fineL) (hy : ∀ c ∈ y.cps.toList, c ∈ fineL) (hz : x.length ≤ 5592405)
    (hzp : ∀ p ∈ ps, p.1.length ≤ 5592405) (hvs : vs.toArray.size ≤ sizeLine)
    (old : ∀ z t h' tk, lookL ps (Txt.lower x) = some z → Fr h₀ L h' m → News h₀ L h' (tabLed w tb d hl kt vs e ++ rest) → PairsAre h' vs ps → Q (.str z t) { s with heap := h', toks := tk })
    (new : ∀ D h' tk, lookL ps (Txt.lower x) = none → Fr h₀ L h' m → News h₀ L h' ((tabLed w tb d hl kt (vs ++ [.ref D]) (e + 1) ++ [(D, tupOf #[.str x t1, .str y t2])]) ++ rest) → PairsAre h' (vs ++ [.ref D]) (ps ++ [(x, y)]) → (∀ q ∈ tabLed w tb d hl kt vs e ++ rest, q.1 ≠ D) → Q (.str y t2) { s with heap := h', toks := tk }) :
    wpAny (model PySem.Challenge.rw_tp0056_01.row.prog w) (ktrTop dp un (some []) cn cs L a ccd cl outer) (call (.ref 272) [.ref tb, .str x t1, .str y t2] []) Q E s := by
  have Nm : News h₀ L s.heap (tabLed w tb d hl kt vs e) := fun p hp => N p (List.mem_append_left _ hp)
  refine enterM (args := ⟨[.ref tb, .str x t1, .str y t2], []⟩) (binds := [(Str.ofString "self", .ref tb), (Str.ofString "name", .str x t1), (Str.ofString "value", .str y t2)]) 700 7000 B F X T hke hd hu Nm (k272 _) (c272 _) (by decide) (BindsTo.of_eq rfl) (locs rfl) (by decide) rfl rfl rfl ?_
  clear B X T
  intro L' h₁ F' N' B X T
  dsimp only [lb272, ls272, la272]
  replace hp := hp.hide Nm
  have F₀ := F
  have N₀ := N
  generalize hgen : hideAll s.heap _ = g at F' N' B X T hp
  clear F N
  replace F' : Fr g L' h₁ (fun z => List.lookup z [(Str.ofString "value", Value.str y t2), (Str.ofString "name", Value.str x t1), (Str.ofString "self", Value.ref tb)]) := F'
  have hMk := kstMark
  k_steps
  rename Fr g _ _ _ => F1
  rename News g _ _ _ => N1
  unfold Held
  refine get_spec w B F1 X T rfl (Nat.le_of_ble_eq_true rfl) (Nat.le_of_ble_eq_true rfl) N1 (hp.keeps F1.keep) hx hz hzp ?_
  intro v h2 tk2 hv k2
  have F2 := k2.fr F1
  have N2 := k2.news F1 N1
  clear F1 N1
  dsimp only [List.nil_append] at N2
  cases hlk : lookL ps (Txt.lower x) with
  | some z =>
    rw [hlk] at hv
    obtain ⟨tz, rfl⟩ := hv
    k_steps
    rename Fr g _ _ _ => F3
    rename News g _ _ _ => N3
    subst hgen
    have bk := back F₀ N₀ hap F3 N3
    exact old _ _ _ _ hlk bk.1 bk.2 (hp.keeps F3.keep)
  | none =>
    rw [hlk] at hv
    cases hv
    k_steps
    rename Fr g _ _ _ => F3
    rename News g _ _ _ => N3
    unfold Held
    refine conv_spec w B F3 X T rfl (Nat.le_of_ble_eq_true rfl) (Nat.le_of_ble_eq_true rfl) hx' ?_
    intro h4 tk4 k4
    have F4 := k4.fr F3
    have N4 := k4.news F3 N3
    clear F3 N3
    dsimp only [List.nil_append] at N4
    k_steps
    unfold Held
    refine conv_spec w B F4 X T rfl (Nat.le_of_ble_eq_true rfl) (Nat.le_of_ble_eq_true rfl) hy ?_
    intro h5 tk5 k5
    have F5 := k5.fr F4
    have N5 := k5.news F4 N4
    clear F4 N4
    dsimp only [List.nil_append] at N5
    k_steps
    rename Fr g _ _ _ => F6
    rename News g _ _ _ => N6
    rename_i D _ l1
    refine append_H (its := vs.toArray) (n := e) F6 (rest := [(D, tupOf #[.str x t1, .str y t2]), (tb, instObj 282 d), (d, dictOf [⟨PyData.keyHash w.params (Str.ofString "_headers"), .str (Str.ofString "_headers") kt, .ref hl⟩] 1)]) (fun p hp => N6 p ?_) ?_ hvs ?_
    · simp only [List.mem_cons, List.not_mem_nil, or_false] at hp ⊢
      rcases hp with rfl | rfl | rfl | rfl
      · exact .inr (.inr (.inr rfl))
      · exact .inl rfl
      · exact .inr (.inl rfl)
      · exact .inr (.inr (.inl rfl))
    · intro p hp
      simp only [List.mem_cons, List.not_mem_nil, or_false] at hp
      rcases hp with rfl | rfl | rfl
      · exact Nat.ne_of_gt l1.2.2
      · exact Ne.symm hap2.2.1
      · exact Ne.symm hap2.2.2
    intro h7 F7 N7
    clear F6 N6
    rw [List.push_toArray] at N7
    k_steps
    subst hgen
    have hD := (N7 _ (.tail _ (.head _))).2.2
    have bk := back F₀ N₀ hap F7 (new := tabLed w tb d hl kt (vs ++ [.ref D]) (e + 1) ++ [(D, tupOf #[.str x t1, .str y t2])]) (fun p hp => N7 p (by
      simp only [List.cons_append, List.nil_append, List.mem_cons, List.not_mem_nil, or_false] at hp ⊢
      rcases hp with rfl | rfl | rfl | rfl
      · exact .inr (.inr (.inl rfl))
      · exact .inr (.inr (.inr rfl))
      · exact .inl rfl
      · exact .inr (.inl rfl)))
    refine new D _ _ hlk bk.1 bk.2 ((hp.keeps F7.keep).snoc (N7 _ (.tail _ (.head _))).1) ?_
    intro q hq e
    rcases List.mem_append.mp hq with hq | hq
    · simp only [List.mem_cons, List.not_mem_nil, or_false] at hq
      rcases hq with rfl | rfl | rfl
      · exact Nat.ne_of_lt l1.1 e
      · exact Nat.ne_of_lt l1.2.1 e
      · exact Nat.ne_of_lt l1.2.2 e
    · have := hideAll_get ((tabLed w tb d hl kt vs _).map (·.1)) (N₀ q (List.mem_append_right _ hq)).1 (fun m => by
        obtain ⟨p, hp, ep⟩ := List.mem_map.mp m
        exact hap p hp q hq ep.symm)
      rw [e, hD] at this
      cases this
end Mine
end
section
open PySem PySem.W PyProof.Rows PySem.Calls
namespace Mine
theorem fillHdr (w : World) (h : Heap) : (K w.params).In h → PySem.Challenge.rw_tp0056_01.foot = 8 := by
  k_fill
  intro _
  rfl
local macro_rules | `(tactic| walk_at "call ref") => `(tactic| refine held ?_)
local macro_rules | `(tactic| walk_at "exec For Tuple Name cons nil") => `(tactic| (k_dflt (refine For_turns (by assumption) ?_)))
local macro_rules | `(tactic| walk_at "pyIter ref") => `(tactic| refine held ?_)
set_option maxHeartbeats 2000000 in
theorem hdr_spec (w : World) {p : Program} {loose : List Str} {mean : ExcName → Option Value} {mg mb : Str → Option Value} {cn : Str} {cs : Scope} {L a : Addr} {ccd : Value} {cl : List (Str × Addr)} {outer : List Env} {A₀ : Around} {base h₀ : Heap} {m : Str → Option Value} {s : Shared} {Q E : Value → Shared → Prop} {dp un : Nat} {news : List (Addr × Obj)}
    (B : Below A₀ base outer h₀) (F : Fr h₀ L s.heap m) (X : (K w.params).In h₀) (T : Top p loose mean mg mb h₀) (hke : cs.kind = .function) (hd : dp ≤ 900) (hu : un ≤ 9000) (N : News h₀ L s.heap news)
    (ret : ∀ tb d hl kt e h' tk, Fr h₀ L h' m → News h₀ L h' (tabLed w tb d hl kt [] e ++ news) → (∀ p ∈ tabLed w tb d hl kt [] e, ∀ q ∈ news, q.1 ≠ p.1) → (d ≠ tb ∧ hl ≠ tb ∧ hl ≠ d) → Q (.ref tb) { s with heap := h', toks := tk }) :
    wpAny (model PySem.Challenge.rw_tp0056_01.row.prog w) (ktrTop dp un (some []) cn cs L a ccd cl outer) (call (.ref 282) [] []) Q E s := by
  refine weaken hd hu ?_
  k_dflt (refine' call_cls F X N ?k4 ?k5 ?k6 ?_; (case k4 => k_is); (case k5 => k_is); (case k6 => k_is))
  intro x d h1 F1 N1 l1 l2
  replace l2 := ltN l2
  have Nm : News h₀ L h1 [(x, instObj 282 d), (d, dictOf [] 0)] := fun p hp => N1 p (by rcases List.mem_cons.mp hp with rfl | hp; exact .head _; exact .tail _ (by rw [List.mem_singleton.mp hp]; exact .head _))
  refine enterR (binds := [(Str.ofString "self", .ref x), (Str.ofString "headers", .none)]) B F1 X T rfl rfl hke Nm (k174 _) (c174 _) (by k_room) (binds_K (X.keeps F1.keep) rfl (by k_is) rfl rfl rfl) (locs rfl) (by decide) rfl rfl rfl ?_
  clear B X T
  intro L' h₁ F' N' B X T
  dsimp only [lb174, ls174, la174]
  generalize hgen : hideAll h1 _ = g at F' N' B X T
  replace F' : Fr g L' h₁ (fun y_1 => List.lookup y_1 [(Str.ofString "headers", Value.none), (Str.ofString "self", Value.ref x)]) := F'
  have hMk := kstMark
  have F₀ := F1
  have N₀ := N1
  clear F F1 N N1 Nm
  k_steps
  unfold Held
  rename Fr g _ _ _ => F3
  rename News g _ _ _ => N3
  rename_i l _ la _ _ _
  refine iter_listTurns (vs := []) rfl F3 N3 (.head _) rfl rfl ?_
  intro I hI h3 tk3 F4 N4
  clear F3 N3
  k_steps
  subst hgen
  have ap : ∀ p ∈ [(x, instObj 282 d), (d, dictOf [] 0)], ∀ q ∈ news, q.1 ≠ p.1 := by
    intro p hp q hq e
    have := l1 q hq
    simp only [List.mem_cons, List.not_mem_nil, or_false] at hp
    rcases hp with rfl | rfl
    · rw [e] at this; exact Nat.lt_irrefl _ (Nat.lt_trans l2 this)
    · rw [e] at this; exact Nat.lt_irrefl _ this
  have bk := back F₀ (mu := [(x, instObj 282 d), (d, dictOf [] 0)]) (rest := news) (fun p hp => N₀ p (by
    rcases List.mem_append.mp hp with hp | hp
    · simp only [List.mem_cons, List.not_mem_nil, or_false] at hp
      rcases hp with rfl | rfl
      · exact .head _
      · exact .tail _ (.head _)
    · exact .tail _ (.tail _ hp))) ap F4 (new := tabLed w x d l _ [] 0) (fun p hp => N4 p (by
      simp only [List.mem_cons, List.not_mem_nil, or_false] at hp
      rcases hp with rfl | rfl | rfl
      · exact .tail _ (.head _)
      · exact .tail _ (.tail _ (.head _))
      · exact .head _))
  refine ⟨rfl, ret x d l _ 0 _ _ bk.1 bk.2 ?_ ⟨Nat.ne_of_lt l2, Nat.ne_of_gt la.1, Nat.ne_of_gt la.2⟩⟩
  intro p hp q hq
  simp only [List.mem_cons, List.not_mem_nil, or_false] at hp
  rcases hp with rfl | rfl | rfl
  · exact ap _ (.head _) q hq
  · exact ap _ (.tail _ (.head _)) q hq
  · exact Nat.ne_of_lt (Nat.lt_trans (l1 q hq) la.2)
end Mine
end
section
open PySem PySem.W PyProof.Rows PySem.Calls
namespace Mine
theorem fillKeys (w : World) (h : Heap) : (K w.params).In h → PySem.Challenge.rw_tp0056_01.foot = 8 := by
  k_fill
  intro _
  rfl
/-- a ledger of pairs of texts -/
inductive PairsL : List (Addr × Obj) → List Value → List (Str × Str) → Prop
  | nil : PairsL [] [] []
  | cons {t : Addr} {x y : Str} {tx ty : Tok} {led : List (Addr × Obj)} {vs : List Value} {ps : List (Str × Str)} : PairsL led vs ps → PairsL ((t, tupOf #[.str x tx, .str y ty]) :: led) (.ref t :: vs) ((x, y) :: ps)
theorem PairsL.are {h₀ h : Heap} {L : Addr} : ∀ {led : List (Addr × Obj)} {vs : List Value} {ps : List (Str × Str)}, PairsL led vs ps → News h₀ L h led → PairsAre h vs ps
  | _, _, _, .nil, _ => .nil
  | _, _, _, .cons r, N => .cons (N _ (.head _)).1 (r.are fun p hp => N p (.tail _ hp))
theorem PairsL.snoc {t : Addr} {x y : Str} {tx ty : Tok} : ∀ {led : List (Addr × Obj)} {vs : List Value} {ps : List (Str × Str)}, PairsL led vs ps → PairsL (led ++ [(t, tupOf #[.str x tx, .str y ty])]) (vs ++ [.ref t]) (ps ++ [(x, y)])
  | _, _, _, .nil => .cons .nil
  | _, _, _, .cons r => .cons r.snoc
theorem PairsL.length : ∀ {led : List (Addr × Obj)} {vs : List Value} {ps : List (Str × Str)}, PairsL led vs ps → vs.length = ps.length
  | _, _, _, .nil => rfl
  | _, _, _, .cons r => by rw [List.length_cons, List.length_cons, r.length]
theorem PairsL.at : ∀ {led : List (Addr × Obj)} {vs : List Value} {ps : List (Str × Str)}, PairsL led vs ps → ∀ (i : Nat) (v : Value), vs[i]? = some v → ∃ t x y tx ty, v = .ref t ∧ (t, tupOf #[.str x tx, .str y ty]) ∈ led ∧ ps[i]? = some (x, y)
  | _, _, _, .nil, i, v, h => by simp at h
  | _, _, _, .cons r, 0, v, h => by
    simp at h
    exact ⟨_, _, _, _, _, h.symm, .head _, rfl⟩
  | _, _, _, .cons r, i + 1, v, h => by
    obtain ⟨t, x, y, tx, ty, e, hm, hp⟩ := r.at i v (by simpa using h)
    exact ⟨t, x, y, tx, ty, e, .tail _ hm, by simpa using hp⟩
theorem strs_snoc {vs : List Value} {ss : List Str} {x : Str} {t : Tok} (h : StrsAre vs ss) : StrsAre (vs ++ [.str x t]) (ss ++ [x]) := by
  induction h with
  | nil => exact .cons _ _ .nil
  | cons a b _ ih => exact .cons _ _ ih
theorem keys_rest {prog : Program} {w : World} {A : Around} {s : Shared} {h₀ : Heap} {L : Addr} {m : Str → Option Value} {env : Env} {elt : Expr} {x x₂ : Str} {scope : Scope} {cl : List (Str × Addr)} {S : List (Addr × Obj) → Prop} {Fin : List Value → List (Addr × Obj) → Prop} {tups news : List (Addr × Obj)} {vs : List Value} {ps : List (Str × Str)}
    (g : Str → Str) (hL : PairsL tups vs ps) (hsub : ∀ p ∈ tups, p ∈ news) (hS : S news)
    (turn : ∀ (a b : Str) ta tb I oI C oC D m₂ ys h tk (E' : Value → Shared → Prop), (a, b) ∈ ps → LCg.NsObj oC m₂ → m₂ x = some (.str a ta) → m₂ x₂ = some (.str b tb) → Fr h₀ L h m → News h₀ L h ((I, oI) :: (C, oC) :: (D, LCg.lst ys) :: news) → LCg.Off3 I C D news → ((@Ne Nat I C) ∧ (@Ne Nat I D) ∧ (@Ne Nat C D)) →
      wpAny (model prog w) A (eval elt (compEnvC scope cl C env)) (LCg.CompEnd h₀ L m { s with heap := h, toks := tk } I oI C oC D (LCg.lst ys) S (fun y news' => news' = news ∧ ∃ t, y = .str (g a) t)) E' { s with heap := h, toks := tk })
    (fin : ∀ ys, StrsAre ys (ps.map fun p => g p.1) → Fin ys news) :
    ∀ (k i : Nat) (ys : List Value), i + k = vs.length → StrsAre ys ((ps.take i).map fun p => g p.1) → LCp.CompRestP prog w A h₀ L m env elt x x₂ scope cl s S (fun i v => vs.toArray[i]? = some v) Fin k i ys news
  | 0, i, ys, hk, hy => by
    refine fin ys ?_
    rwa [List.take_of_length_le (by rw [← hL.length]; omega)] at hy
  | k + 1, i, ys, hk, hy => by
    intro v hv
    obtain ⟨t, a, b, ta, tb, rfl, hm, hp⟩ := hL.at i v (by simpa using hv)
    refine ⟨t, _, _, _, _, rfl, hsub _ hm, rfl, rfl, ?_⟩
    intro I oI C oC D m₂ h tk E' c1 c2 c3 F N off ne
    refine wpAny_mono (turn a b ta tb I oI C oC D m₂ ys h tk E' (List.mem_of_getElem? hp) c1 c2 c3 F N off ne) (fun y s' e => ?_) fun _ _ e => e
    obtain ⟨h', tk', news', e, F', N', off', hS', rfl, t', rfl⟩ := e
    refine ⟨h', tk', _, e, F', N', off', hS', keys_rest g hL hsub hS turn fin k (i + 1) _ (by omega) ?_⟩
    rw [List.take_add_one, hp]
    simpa using strs_snoc hy
theorem keptX_new {mu new : List (Addr × Obj)} {h h' : Heap} {L : Addr} {m : Str → Option Value} {h₀ : Heap} {L₀ : Addr} (N : News h₀ L₀ h mu) (F : Fr (hideAll h (mu.map (·.1))) L h' m) (N' : News (hideAll h (mu.map (·.1))) L h' (new ++ mu)) (hn : ∀ p ∈ new, ∀ q ∈ mu, q.1 ≠ p.1) : Kept h h' new := by
  refine ⟨(keptX_all N F (fun p hp => N' p (List.mem_append_right _ hp))).1, fun p hp => ⟨(N' p (List.mem_append_left _ hp)).1, ?_⟩⟩
  cases e : h.get? p.1 with
  | none => rfl
  | some o =>
    have := hideAll_get (mu.map (·.1)) e (fun q => by
      obtain ⟨r, hr, er⟩ := List.mem_map.mp q
      exact hn p hp r hr er)
    rw [(N' p (List.mem_append_left _ hp)).2.2] at this
    cases this
theorem off1_ne {D : Addr} : ∀ {news : List (Addr × Obj)}, LCg.Off1 D news → ∀ q ∈ news, q.1 ≠ D
  | [], _, _, h => nomatch h
  | _ :: _, x, q, h => by
    rcases List.mem_cons.mp h with rfl | h
    · exact x.1
    · exact off1_ne x.2 q h
local macro_rules | `(tactic| walk_at "eval ListComp") => `(tactic| (k_dflt (refine LCp.ListComp_P (F₀ := by k_asm) (by with_unfolding_all rfl) (by decide) (by rfl) (by decide) (by rfl) (by rfl) (by decide) ?_)))
local macro_rules | `(tactic| walk_at "SrcLP") => `(tactic| refine held ?_)
set_option maxHeartbeats 2000000 in
theorem keys_spec (w : World) {p : Program} {loose : List Str} {mean : ExcName → Option Value} {mg mb : Str → Option Value} {cn : Str} {cs : Scope} {L a : Addr} {ccd : Value} {cl : List (Str × Addr)} {outer : List Env} {A₀ : Around} {base h₀ : Heap} {m : Str → Option Value} {s : Shared} {Q E : Value → Shared → Prop} {dp un : Nat} {tb d hl' : Addr} {kt : Tok} {vs : List Value} {e : Nat} {ps : List (Str × Str)} {tups : List (Addr × Obj)}
    (B : Below A₀ base outer h₀) (F : Fr h₀ L s.heap m) (X : (K w.params).In h₀) (T : Top p loose mean mg mb h₀) (hke : cs.kind = .function) (hd : dp ≤ 800) (hu : un ≤ 8000)
    (N : News h₀ L s.heap (tabLed w tb d hl' kt vs e ++ tups)) (hp : PairsL tups vs ps) (hz : ps.length ≤ 1000)
    (ret : ∀ D us n h' tk, StrsAre us (ps.map (·.1)) → Kept s.heap h' [(D, listOf (us : List Value).toArray n)] → Q (.ref D) { s with heap := h', toks := tk }) :
    wpAny (model PySem.Challenge.rw_tp0056_01.row.prog w) (ktrTop dp un (some []) cn cs L a ccd cl outer) (call (.ref 234) [.ref tb] []) Q E s := by
  have Nm := N
  refine enterM (args := ⟨[.ref tb], []⟩) (binds := [(Str.ofString "self", .ref tb)]) 800 8000 B F X T hke hd hu Nm (k234 _) (c234 _) (by decide) (BindsTo.of_eq rfl) (locs rfl) (by decide) rfl rfl rfl ?_
  clear B X T
  intro L' h₁ F' N' B X T
  dsimp only [lb234, ls234, la234]
  generalize hgen : hideAll s.heap _ = g at F' N' B X T
  clear F N
  replace F' : Fr g L' h₁ (fun y => List.lookup y [(Str.ofString "self", Value.ref tb)]) := F'
  have hMk := kstMark
  k_steps
  unfold Held
  have hl := hp.length
  refine LCp.SrcLP.ledger rfl F' N' (.tail _ (.tail _ (.head _))) (by rw [List.size_toArray, hl]; exact Nat.le_trans hz (by decide)) ?_
  intro g'
  have hS : LCg.SrcAt g hl' vs.toArray (tabLed w tb d hl' kt vs e ++ tups) := .inr ⟨_, .tail _ (.tail _ (.head _)), rfl, _, rfl⟩
  refine keys_rest (news := tabLed w tb d hl' kt vs e ++ tups) (fun x => x) hp (fun p hp => List.mem_append_right _ hp) hS ?_ ?_ _ 0 [] (by rw [List.size_toArray, Nat.zero_add]) .nil
  · intro a b ta tb' I oI C oC D m₂ ys h tk E' hab hC hx hx2 F2 N2 off ne
    k_steps
    exact LCg.CompEnd.intro F2 N2 _ (fun p hp => hp) off hS ⟨rfl, _, rfl⟩
  · intro ys hys D h tk F2 N2 off
    k_steps
    subst hgen
    refine ret D ys _ h _ hys (keptX_new (new := [(D, LCg.lst ys)]) Nm F2 N2 (fun p hp q hq e => ?_))
    rw [List.mem_singleton.mp hp] at e
    exact off1_ne off q hq e
end Mine
end
section
open PySem PySem.W PyProof.Rows PySem.Calls
namespace Mine
/-- a comprehension over a list, whatever its items -/
theorem comp_any {prog : Program} {w : World} {A : Around} {s : Shared} {h₀ : Heap} {L : Addr} {m : Str → Option Value} {env : Env} {elt : Expr} {x : Str} {scope : Scope} {cl : List (Str × Addr)} {S : List (Addr × Obj) → Prop} {Fin : List Value → List (Addr × Obj) → Prop} {news : List (Addr × Obj)} {vs : List Value}
    (Good : Nat → Value → Prop) (hS : S news)
    (turn : ∀ i v I oI C oC D m₂ ys h tk (E' : Value → Shared → Prop), vs[i]? = some v → LCg.NsObj oC m₂ → m₂ x = some v → Fr h₀ L h m → News h₀ L h ((I, oI) :: (C, oC) :: (D, LCg.lst ys) :: news) → LCg.Off3 I C D news → ((@Ne Nat I C) ∧ (@Ne Nat I D) ∧ (@Ne Nat C D)) →
      wpAny (model prog w) A (eval elt (compEnvC scope cl C env)) (LCg.CompEnd h₀ L m { s with heap := h, toks := tk } I oI C oC D (LCg.lst ys) S (fun y news' => news' = news ∧ Good i y)) E' { s with heap := h, toks := tk })
    (fin : ∀ ys : List Value, ys.length = vs.length → (∀ (i : Nat) y, ys[i]? = some y → Good i y) → Fin ys news) :
    ∀ (k i : Nat) (ys : List Value), i + k = vs.length → ys.length = i → (∀ (j : Nat) y, ys[j]? = some y → Good j y) → LCg.CompRest prog w A h₀ L m env elt x scope cl s S (fun i v => vs.toArray[i]? = some v) Fin k i ys news
  | 0, i, ys, hk, hl, hy => fin ys (by omega) hy
  | k + 1, i, ys, hk, hl, hy => by
    intro v I oI C oC D m₂ h tk E' hv c1 c2 F N off ne
    refine wpAny_mono (turn i v I oI C oC D m₂ ys h tk E' (by simpa using hv) c1 c2 F N off ne) (fun y s' e => ?_) fun _ _ e => e
    obtain ⟨h', tk', news', e, F', N', off', hS', rfl, hg⟩ := e
    refine ⟨h', tk', _, e, F', N', off', hS', comp_any Good hS turn fin k (i + 1) _ (by omega) (by rw [List.length_append, hl]; rfl) ?_⟩
    intro j y' hj
    by_cases q : j < ys.length
    · rw [List.getElem?_append_left q] at hj
      exact hy j y' hj
    · rw [List.getElem?_append_right (by omega)] at hj
      have : j - ys.length = 0 := by
        by_cases z : j - ys.length = 0
        · exact z
        · rw [List.getElem?_eq_none (by simp; omega)] at hj; cases hj
      rw [this] at hj
      simp at hj
      have hji : j = i := by omega
      subst hji hj
      exact hg
theorem ints_get : ∀ {vs : List Value} {ns : List Int}, IntsAre vs ns → ∀ {i : Nat} {v : Value}, vs[i]? = some v → ∃ k t, ns[i]? = some k ∧ v = .int k t
  | _, _, .nil, i, v, h => by simp at h
  | _, _, .cons k t r, 0, v, h => by
    simp at h
    exact ⟨k, t, rfl, h.symm⟩
  | _, _, .cons k t r, i + 1, v, h => by
    obtain ⟨a, b, c, d⟩ := ints_get r (i := i) (by simpa using h)
    exact ⟨a, b, by simpa using c, d⟩
theorem ints_map {f : Int → Int} : ∀ {ys : List Value} {ns : List Int}, ys.length = ns.length → (∀ (i : Nat) y, ys[i]? = some y → ∃ k t, ns[i]? = some k ∧ y = .int (f k) t) → IntsAre ys (ns.map f)
  | [], [], _, _ => .nil
  | [], _ :: _, h, _ => by simp at h
  | _ :: _, [], h, _ => by simp at h
  | y :: ys, n :: ns, h, g => by
    obtain ⟨k, t, hk, rfl⟩ := g 0 y rfl
    simp at hk
    subst hk
    exact .cons _ _ (ints_map (by simpa using h) fun i y hy => by
      obtain ⟨k, t, a, b⟩ := g (i + 1) y (by simpa using hy)
      exact ⟨k, t, by simpa using a, b⟩)
end Mine
end
section
open PySem PySem.W PyProof.Rows PySem.Calls
namespace Mine
theorem fillCells (w : World) (h : Heap) : (K w.params).In h → PySem.Challenge.rw_tp0056_01.foot = 8 := by
  k_fill
  intro _
  rfl
noncomputable def cellsOf (ns : List Int) : List Int := (ns.take 8).map (fun k => k % 10 ^ 6) ++ [1, 11, 4, 29, 14, 6, 3, 10].drop (min 8 ns.length)
theorem fmod_eq (k : Int) : k.fmod (10 ^ Int.toNat 6) = k % 10 ^ 6 := by
  rw [Int.fmod_eq_emod_of_nonneg _ (by decide)]
  rfl
theorem cells_eq {us : List Value} {ns : List Int} (h : IntsAre us (List.map (fun k => k.fmod (10 ^ Int.toNat 6)) (List.take (Int.toNat 8) ns) ++ List.drop (((List.map (fun k : Int => k.fmod (10 ^ Int.toNat 6)) (List.take 8 ns)).length : Nat) : Int).toNat [1, 11, 4, 29, 14, 6, 3, 10])) : IntsAre us (cellsOf ns) := by
  unfold cellsOf
  rw [Int.toNat_natCast, List.length_map, List.length_take] at h
  have e : (fun k : Int => k.fmod (10 ^ Int.toNat 6)) = fun k => k % 10 ^ 6 := funext fmod_eq
  rw [e] at h
  exact h
local macro_rules | `(tactic| walk_at "eval ListComp") => `(tactic| (k_dflt (refine LCg.ListComp_U (F₀ := by k_asm) (by with_unfolding_all rfl) (by decide) (by rfl) (by decide) (by rfl) ?_)))
local macro_rules | `(tactic| walk_at "exec Assign cons ListComp") => `(tactic| (k_dflt (refine LCg.Assign_ListComp_U (F₀ := by k_asm) (by rfl) (by with_unfolding_all rfl) (by with_unfolding_all rfl) (by decide) (by rfl) (by decide) (by rfl) (by rfl) (by rfl) ?_)))
local macro_rules | `(tactic| walk_at "subscriptTail Name Slice ref ref") => `(tactic| (k_dflt (refine' kmk_slice_ints ?F ?N ?l ?p ?q ?i ?m ?c ?_ ?s ?t ?z; (case F => k_asm); (case N => k_asm); (case l => kmk_list); (case p => kmk_part); (case q => kmk_part); (case i => l_ints); (case m => first | exact kmk_from (by l_ints) (by omega) | exact kmk_upto (by l_ints) (by omega)); (case c => kmk_len); (case s => with_unfolding_all rfl); (case t => kmk_pure); (case z => first | assumption | kmk_size)); intro D' ws' h' F' N' l1 hI' hC' hL'; k_lt l1))
local macro_rules | `(tactic| walk_at "CompSrc") => `(tactic| refine held ?_)
set_option maxHeartbeats 2000000 in
theorem cells_spec (w : World) {p : Program} {loose : List Str} {mean : ExcName → Option Value} {mg mb : Str → Option Value} {cn : Str} {cs : Scope} {L a : Addr} {ccd : Value} {cl : List (Str × Addr)} {outer : List Env} {A₀ : Around} {base h₀ : Heap} {m : Str → Option Value} {s : Shared} {Q E : Value → Shared → Prop} {dp un : Nat} {l : Addr} {vs : List Value} {ns : List Int}
    (B : Below A₀ base outer h₀) (F : Fr h₀ L s.heap m) (X : (K w.params).In h₀) (T : Top p loose mean mg mb h₀) (hke : cs.kind = .function) (hd : dp ≤ 800) (hu : un ≤ 8000) (hl : s.heap.IsList l vs.toArray) (hI : IntsAre vs ns)
    (hn : ns.length ≤ 63)
    (ret : ∀ D us n h' tk, IntsAre us (cellsOf ns) → Kept s.heap h' [(D, listOf (us : List Value).toArray n)] → Q (.ref D) { s with heap := h', toks := tk }) :
    wpAny (model PySem.Challenge.rw_tp0056_01.row.prog w) (ktrTop dp un (some []) cn cs L a ccd cl outer) (call (.ref 291) [.ref l] []) Q E s := by
  refine enter (args := ⟨[.ref l], []⟩) (binds := [(Str.ofString "script", .ref l)]) 800 8000 B F X T hke hd hu (k291 _) (c291 _) (by decide) (BindsTo.of_eq rfl) (locs rfl) (by decide) rfl rfl rfl ?_
  clear B F X T
  intro L' h₁ F N B X T
  dsimp only [lb291, ls291, la291]
  replace F : Fr s.heap L' h₁ (fun y => List.lookup y [(Str.ofString "script", Value.ref l)]) := F
  have hMk := kstMark
  have hvz : vs.toArray.size ≤ sizeLine := by rw [List.size_toArray, hI.length]; exact Nat.le_trans hn (by decide)
  k_steps
  rename Fr _ _ _ _ => F1
  rename News _ _ _ _ => N1
  rename IntsAre _ (List.take _ _) => hI6
  unfold Held
  rename_i D1 ws1 _ _ _ _
  have hl6 := hI6.length
  have hsz : ws1.toArray.size ≤ sizeLine := by
    rw [List.size_toArray, hl6, List.length_take]
    exact Nat.le_trans (Nat.min_le_left _ _) (by decide)
  refine LCg.CompSrc.ledger rfl F1 N1 (.head _) hsz ?_
  intro g'
  have hS : LCg.SrcAt s.heap D1 ws1.toArray [(D1, listOf ws1.toArray 0)] := .inr ⟨_, .head _, rfl, _, rfl⟩
  refine comp_any (fun i y => ∃ k t, (ns.take (Int.toNat 8))[i]? = some k ∧ y = .int (k.fmod (10 ^ Int.toNat 6)) t) hS ?_ ?_ _ 0 [] (by rw [List.size_toArray, Nat.zero_add]) rfl (fun j y h => by simp at h)
  · intro i v I oI C oC D m₂ ys h tk E' hv hC hx F2 N2 off ne
    obtain ⟨k, t, hk, rfl⟩ := ints_get hI6 hv
    k_steps
    exact LCg.CompEnd.intro F2 N2 _ (fun p hp => hp) off hS ⟨rfl, k, _, hk, rfl⟩
  · intro ys hyl hyg
    have hI7 := ints_map (f := fun k => k.fmod (10 ^ Int.toNat 6)) (hyl.trans hl6) hyg
    intro D h tk F2 N2 off
    k_steps
    rename Fr _ _ _ _ => F3
    rename News _ _ _ _ => N3
    rename IntsAre _ (_ ++ _) => hI8
    exact ret _ _ 0 _ _ (cells_eq hI8) (Kept.of F3 (fun p hp => N3 p (by rw [List.mem_singleton.mp hp]; exact .head _)))
end Mine
end
section
open PySem PySem.W PyProof.Rows PySem.Calls PyProof.V PySem.Spec
namespace Mine
theorem comp_gen {prog : Program} {w : World} {A : Around} {s : Shared} {h₀ : Heap} {L : Addr} {m : Str → Option Value} {env : Env} {elt : Expr} {x : Str} {scope : Scope} {cl : List (Str × Addr)} {S : List (Addr × Obj) → Prop} {P : Nat → Value → Prop} {Fin : List Value → List (Addr × Obj) → Prop} {news : List (Addr × Obj)} (n : Nat)
    (Good : Nat → Value → Prop) (hS : S news)
    (turn : ∀ i v I oI C oC D m₂ ys h tk (E' : Value → Shared → Prop), i < n → P i v → LCg.NsObj oC m₂ → m₂ x = some v → Fr h₀ L h m → News h₀ L h ((I, oI) :: (C, oC) :: (D, LCg.lst ys) :: news) → LCg.Off3 I C D news → ((@Ne Nat I C) ∧ (@Ne Nat I D) ∧ (@Ne Nat C D)) →
      wpAny (model prog w) A (eval elt (compEnvC scope cl C env)) (LCg.CompEnd h₀ L m { s with heap := h, toks := tk } I oI C oC D (LCg.lst ys) S (fun y news' => news' = news ∧ Good i y)) E' { s with heap := h, toks := tk })
    (fin : ∀ ys : List Value, ys.length = n → (∀ (i : Nat) y, ys[i]? = some y → Good i y) → Fin ys news) :
    ∀ (k i : Nat) (ys : List Value), i + k = n → ys.length = i → (∀ (j : Nat) y, ys[j]? = some y → Good j y) → LCg.CompRest prog w A h₀ L m env elt x scope cl s S P Fin k i ys news
  | 0, i, ys, hk, hl, hy => fin ys (by omega) hy
  | k + 1, i, ys, hk, hl, hy => by
    intro v I oI C oC D m₂ h tk E' hv c1 c2 F N off ne
    refine wpAny_mono (turn i v I oI C oC D m₂ ys h tk E' (by omega) hv c1 c2 F N off ne) (fun y s' e => ?_) fun _ _ e => e
    obtain ⟨h', tk', news', e, F', N', off', hS', rfl, hg⟩ := e
    refine ⟨h', tk', _, e, F', N', off', hS', comp_gen n Good hS turn fin k (i + 1) _ (by omega) (by rw [List.length_append, hl]; rfl) ?_⟩
    intro j y' hj
    by_cases q : j < ys.length
    · rw [List.getElem?_append_left q] at hj
      exact hy j y' hj
    · rw [List.getElem?_append_right (by omega)] at hj
      have : j - ys.length = 0 := by
        by_cases z : j - ys.length = 0
        · exact z
        · rw [List.getElem?_eq_none (by simp; omega)] at hj; cases hj
      rw [this] at hj
      simp at hj
      have hji : j = i := by omega
      subst hji hj
      exact hg
noncomputable def TextSrc (prog : Program) (w : World) (A : Around) (h₀ : Heap) (L : Addr) (m : Str → Option Value) (env : Env) (elt : Expr) (x : Str) (scope : Scope) (cl : List (Str × Addr)) (Q : Value → Shared → Prop) (xv : Value) (s₁ : Shared) : Prop :=
  ∃ xt tx news, xv = .str xt tx ∧ A.handled = none ∧ Fr h₀ L s₁.heap m ∧ News h₀ L s₁.heap news ∧ xt.cps.size ≤ sizeLine ∧
    ∀ g tk, LCg.CompRest prog w A h₀ L m env elt x scope cl { s₁ with heap := g, toks := tk } (fun _ => True) (SignAt xt) (LCg.FinE h₀ L m { s₁ with heap := g, toks := tk } Q) xt.cps.size 0 [] news
section
variable {prog : Program} {w : World} {A : Around} {E : Value → Shared → Prop} {s : Shared} {h₀ : Heap} {L : Addr} {m : Str → Option Value} {env : Env}
theorem ListComp_S {elt iter : Expr} {x : Str} {px : Pos} {scope : Scope} {cl : List (Str × Addr)} {pos : Pos} {Q : Value → Shared → Prop} (F₀ : Fr h₀ L s.heap m)
    (hclos : closureFor scope env = pure cl) (hcell : ∀ y ∈ scope.names, y.2 ≠ .cell) (hkind : scope.kind = .function)
    (hnames : ∀ y ∈ scope.names, y.2 = .local → scope.names.lookup y.1 = some .local) (hx : scope.names.lookup x = some .local)
    (h : wpAny (model prog w) A (eval iter env) (TextSrc prog w A h₀ L m env elt x scope cl Q) E s)
    (hs : ∀ x, foldedSetIterable iter env x = pure x := by intro _; rfl) :
    wpAny (model prog w) A (eval (.ListComp elt [⟨.Name x px, iter, [], 0⟩] scope pos) env) Q E s := by
  rw [eval_ListComp]
  refine wpAny_comprehension_free (use := none) rfl hs hclos hkind hnames (wpAny_mono h (fun xv s₁ h₁ => ?_) fun _ _ e => e)
  obtain ⟨xt, tx, news, rfl, hh, F, N, hsz, R⟩ := h₁
  refine wpAny_pyIter_strU ?_
  have ex : ∃ St : Nat → Heap → Prop, Walks prog w A s₁.heap.objs.size [s₁.heap.objs.size] [s₁.heap.objs.size] xt.cps.size (SignAt xt) St ∧ (∀ i h, St i h → ∃ o, h.get? s₁.heap.objs.size = some o) ∧ St 0 (s₁.heap.push { cls := .type (strIterType xt), data := .fields #[.str xt tx, .int 0 0] }) := by
    cases ha : xt.cps.all (· < 128)
    · refine ⟨_, Walks.strWide hh _ xt tx, fun i h st => let ⟨o, ho, _⟩ := st; ⟨o, ho⟩, ⟨_, Heap.get?_push_size _ rfl, ?_, rfl⟩⟩
      simp [strIterType, ha]
    · refine ⟨_, Walks.strAscii hh _ xt tx, fun i h st => let ⟨o, ho, _⟩ := st; ⟨o, ho⟩, ⟨_, Heap.get?_push_size _ rfl, ?_, rfl⟩⟩
      simp [strIterType, ha]
  obtain ⟨St, W, hI, hst⟩ := ex
  refine LCg.block_U (S := fun _ => True) W hsz hI (fun i h h' o nw st e1 e2 _ _ _ => W.frame i h h' st fun b hb o' e' => ?_) hcell hkind hx hst (fun b hb => ?_)
    (F.keeps fun _ _ e => Heap.get?_push_of_some _ e) (N.grown fun _ _ e => Heap.get?_push_of_some _ e) (Nat.ne_of_lt F.ns.lt) (next_is_new F) (fun p hp => Nat.ne_of_lt (Heap.lt_size (N p hp).1)) trivial (R _ _) ?_
  · rw [List.mem_singleton.mp hb] at e' ⊢
    rw [e1] at e'
    rw [e2, e']
  · rw [List.mem_singleton.mp hb]
    show s₁.heap.objs.size < (s₁.heap.push _).objs.size
    rw [Heap.size_push]; exact Nat.lt_succ_self _
  · intro D C h tk m' ys news' F' N' o1 hn hC₀ hD₀ hCL hDL hCD offC fin
    refine ⟨m', hn, fun h'' hs'' => fin D h'' tk (F'.change hs'' hCL hC₀) (fun p hp => ?_) o1⟩
    refine ⟨hs''.extBut _ _ ?_ (N' p hp).1, (N' p hp).2⟩
    rcases List.mem_cons.mp hp with rfl | hp
    · exact Ne.symm hCD
    · exact offC p hp
end
end Mine
end
section
open PySem PySem.W PyProof.Rows PySem.Calls
namespace Mine
theorem fillRow (w : World) (h : Heap) : (K w.params).In h → PySem.Challenge.rw_tp0056_01.foot = 8 := by
  k_fill
  intro _
  rfl
local macro_rules | `(tactic| walk_at "eval ListComp") => `(tactic| refine held ?_)
local macro_rules | `(tactic| walk_at "TextSrc") => `(tactic| refine held ?_)
noncomputable def heldR : List Int := 832 :: 833 :: 8206 :: 8207 :: (rangeKs 8234 (8239 - 8234 : Int).toNat ++ rangeKs 8298 (8304 - 8298 : Int).toNat)
noncomputable def besideR : List Int := [831, 834, 8205, 8208, 8233, 8239, 8297, 8304]
noncomputable def signOf (k : Int) : Nat := if k % 2 ≠ 0 then (heldR.getD (k / 2 % 15).toNat 0).toNat else (besideR.getD (k / 2 % 8).toNat 0).toNat
noncomputable def lampOf (k : Int) : Int := if (signOf k : Int) ∈ heldL then 1 else 0
noncomputable def rowOf (ns : List Int) (z : Int) : List Int := (ns.take (z - 1).toNat).map lampOf ++ [0]
theorem text_codes (l : List Int) : (Txt.join (Str.ofString "") (l.map fun a => (⟨#[signOf a]⟩ : Str))).cps.toList = l.map signOf := by
  rw [join_cps]
  induction l with
  | nil => rfl
  | cons k l ih => rw [List.map_cons, List.flatMap_cons, ih, List.map_cons]; rfl
theorem getD_bound : ∀ (l : List Int) (_ : ∀ k ∈ l, 0 ≤ k ∧ k ≤ 1114111) (j : Nat), 0 ≤ l.getD j 0 ∧ l.getD j 0 ≤ 1114111
  | [], _, _ => ⟨Int.le_refl 0, (by decide : (0 : Int) ≤ 1114111)⟩
  | k :: l, h, 0 => h k (.head _)
  | k :: l, h, j + 1 => getD_bound l (fun k hk => h k (.tail _ hk)) j
theorem heldR_bound (j : Nat) : 0 ≤ heldR.getD j 0 ∧ heldR.getD j 0 ≤ 1114111 := getD_bound _ (by decide) j
theorem besideR_bound (j : Nat) : 0 ≤ besideR.getD j 0 ∧ besideR.getD j 0 ≤ 1114111 := getD_bound _ (by decide) j
theorem sign_odd {k : Int} (h0 : 0 ≤ k) (h : k.fmod 2 ≠ 0) : (⟨#[(heldR.getD ((k.fdiv 2).fmod 15).toNat 0).toNat]⟩ : Str) = ⟨#[signOf k]⟩ := by
  rw [Int.fmod_eq_emod_of_nonneg _ (by decide)] at h ⊢
  rw [Int.fdiv_eq_ediv_of_nonneg _ (by decide)]
  unfold signOf
  rw [if_pos h]
theorem sign_even {k : Int} (h0 : 0 ≤ k) (h : k.fmod 2 = 0) : (⟨#[(besideR.getD ((k.fdiv 2).fmod 8).toNat 0).toNat]⟩ : Str) = ⟨#[signOf k]⟩ := by
  rw [Int.fmod_eq_emod_of_nonneg _ (by decide)] at h ⊢
  rw [Int.fdiv_eq_ediv_of_nonneg _ (by decide)]
  unfold signOf
  rw [if_neg (fun q => q h)]
local macro_rules | `(tactic| walk_at "subscriptTail Name Slice ref ref") => `(tactic| (k_dflt (refine' kmk_slice_ints ?F ?N ?l ?p ?q ?i ?m ?c ?_ ?s ?t ?z; (case F => k_asm); (case N => k_asm); (case l => kmk_list); (case p => kmk_part); (case q => kmk_part); (case i => l_ints); (case m => first | exact kmk_from (by l_ints) (by omega) | exact kmk_upto (by l_ints) (by omega)); (case c => kmk_len); (case s => with_unfolding_all rfl); (case t => kmk_pure); (case z => assumption)); intro D' ws' h' F' N' l1 hI' hC' hL'; k_lt l1))
local macro_rules | `(tactic| walk_at "call type:list") => `(tactic| ((rename IsRange _ _ _ _ _ _ _ _ => rgX); (with_unfolding_all refine' kll_range ?k0 ?k1 ?k2 ?k3 ?k4 ?k5 ?k6 ?_; (case k0 => rfl); (case k1 => k_asm); (case k2 => k_asm); (case k3 => exact rgX); (case k4 => exact small_one (by decide) (by decide) (by decide) (by decide)); (case k5 => exact rangeSize_nat _ _); (case k6 => decide)); intro D' vs' c' h' tk' F' N' l1 hI'; (try k_lt l1); clear rgX))
local macro_rules | `(tactic| walk_at "CompSrc") => `(tactic| refine held ?_)
local macro_rules | `(tactic| walk_at "call ref") => `(tactic| refine held ?_)
local macro_rules | `(tactic| walk_at "call builtin:str.join") => `(tactic| refine held ?_)
set_option maxHeartbeats 2000000 in
theorem row_spec (w : World) {p : Program} {loose : List Str} {mean : ExcName → Option Value} {mg mb : Str → Option Value} {cn : Str} {cs : Scope} {L a : Addr} {ccd : Value} {cl : List (Str × Addr)} {outer : List Env} {A₀ : Around} {base h₀ : Heap} {m : Str → Option Value} {s : Shared} {Q E : Value → Shared → Prop} {dp un : Nat} {l : Addr} {vs : List Value} {ns : List Int} {z : Int} {tz : Tok}
    (B : Below A₀ base outer h₀) (F : Fr h₀ L s.heap m) (X : (K w.params).In h₀) (T : Top p loose mean mg mb h₀) (hke : cs.kind = .function) (hd : dp ≤ 800) (hu : un ≤ 8000) (hl : s.heap.IsList l vs.toArray) (hI : IntsAre vs ns)
    (hn : ns.length = 8) (hp : ∀ k ∈ ns, 0 ≤ k) (hz0 : 7 ≤ z) (hz1 : z ≤ 9)
    (ret : ∀ D us n h' tk, IntsAre us (rowOf ns z) → Kept s.heap h' [(D, listOf (us : List Value).toArray n)] → Q (.ref D) { s with heap := h', toks := tk }) :
    wpAny (model PySem.Challenge.rw_tp0056_01.row.prog w) (ktrTop dp un (some []) cn cs L a ccd cl outer) (call (.ref 296) [.ref l, .int z tz] []) Q E s := by
  refine enterCM (mu := []) (args := ⟨[.ref l, .int z tz], []⟩) (binds := [(Str.ofString "cells", .ref l), (Str.ofString "size", .int z tz)]) 800 8000 (fun L' => [(Str.ofString "beside", L' + 1 + 1), (Str.ofString "held", L' + 1)]) (fun y => if y = Str.ofString "size" then some (Value.int z tz) else if y = Str.ofString "cells" then some (Value.ref l) else none) (fun _ => none) (fun _ => rfl) B F X T hke hd hu (fun _ h => nomatch h) (k296 _) (c296 _) (by decide) (BindsTo.of_eq rfl) rfl (by decide) rfl rfl rfl (fun L' => rfl) (fun L' => rfl) ?_
  clear B F X T
  intro L' h₁ tk cells F N Y _ l2 B X T hL'
  dsimp only [lb296, ls296, la296] at *
  change Fr s.heap L' h₁ _ at F
  change News s.heap L' h₁ _ at N
  change Below _ _ _ s.heap at B
  change (K w.params).In s.heap at X
  change Top p loose mean mg mb s.heap at T
  k_cells Y
  dsimp only [List.cons_append, List.nil_append] at N
  rename_i o1 o2 d1 d2
  replace d1 : o1.data = .cell none := d1
  replace d2 : o2.data = .cell none := d2
  have hMk := kstMark
  have hvz : vs.toArray.size ≤ sizeLine := by rw [List.size_toArray, hI.length, hn]; decide
  k_steps
  unfold Held
  refine LCg.ListComp_U (F₀ := by k_asm) (by with_unfolding_all rfl) (by decide) (by rfl) (by decide) (by rfl) ?_
  k_steps
  rename Fr _ _ _ _ => F1
  rename News _ _ _ _ => N1
  rename IntsAre _ (List.take _ _) => hI6
  unfold Held
  have hsz : (ns.take (z - 1).toNat).length ≤ 8 := by rw [List.length_take, hn]; exact Nat.min_le_right _ _
  refine LCg.CompSrc.ledger rfl F1 N1 (.head _) (by rw [List.size_toArray, hI6.length]; exact Nat.le_trans hsz (by decide)) ?_
  intro g'
  refine kct_list (fun k => ⟨#[signOf k]⟩) hI6 ?_ ?_
  · intro k t I oI C oC D m₂ ys h tk E' hk hC hx F2 N2 off ne _
    have hk0 : 0 ≤ k := hp k (List.mem_of_mem_take hk)
    k_steps
    · rename Fr _ _ _ _ => F3
      rename News _ _ _ _ => N3
      rename (k.fmod 2 ≠ 0) => e
      have hb := heldR_bound ((k.fdiv 2).fmod 15).toNat
      unfold heldR at hb
      refine chr_of_range hb.1 hb.2 ?_
      exact LCg.CompEnd.intro F3 N3 _ (fun p hp => hp) off (Or.inr ⟨_, .head _, rfl, _, rfl⟩) (kct_el (sign_odd hk0 e).symm rfl rfl)
    · rename Fr _ _ _ _ => F3
      rename News _ _ _ _ => N3
      rename (k.fmod 2 = 0) => e
      have hb := besideR_bound ((k.fdiv 2).fmod 8).toNat
      unfold besideR at hb
      refine chr_of_range hb.1 hb.2 ?_
      exact LCg.CompEnd.intro F3 N3 _ (fun p hp => hp) off (Or.inr ⟨_, .head _, rfl, _, rfl⟩) (kct_el (sign_even hk0 e).symm rfl rfl)
  · unfold KPfDone
    intro ys hc hlen D h tk F2 N2 off
    k_steps
    unfold Held
    refine KT.join_1 (News.isList N2 (.head _)) hc (fun _ _ => rfl) (Nat.le_trans hsz (by decide)) ?_
    intro t' k' hlj
    k_steps
    unfold Held
    refine ListComp_S (F₀ := by k_asm) (by with_unfolding_all rfl) (by decide) (by rfl) (by decide) (by rfl) ?_
    k_steps
    unfold Held
    rename Fr _ _ _ _ => F5
    rename News _ _ _ _ => N5
    have hcp := text_codes (ns.take (z - 1).toNat)
    generalize Txt.join (Str.ofString "") (List.map (fun a => ({ cps := #[signOf a] } : Str)) (List.take (z - 1).toNat ns)) = xt at F5 N5 hcp hlj
    have hxs : xt.cps.size = (ns.take (z - 1).toNat).length := by rw [← Array.length_toList, hcp, List.length_map]
    refine ⟨xt, t', _, rfl, rfl, F5, N5, by rw [hxs]; exact Nat.le_trans hsz (by decide), fun g2 tk2 => ?_⟩
    refine comp_gen xt.cps.size (fun i y => ∃ n t, xt.cps[i]? = some n ∧ (y = .int 1 t ∧ (n : Int) ∈ heldL ∨ y = .int 0 t ∧ ¬ (n : Int) ∈ heldL)) trivial ?_ ?_ _ 0 [] (Nat.zero_add _) rfl (fun j y h => by simp at h)
    · intro i v I oI C oC D2 m₂ ys2 h tk E' hi hv hC hx F6 N6 off6 ne6
      obtain ⟨n, u, hn2, rfl⟩ := hv
      k_steps
      unfold Held
      refine tab_spec w B F6 X T rfl (Nat.le_of_ble_eq_true rfl) (Nat.le_of_ble_eq_true rfl) ?_
      intro h7 tk7 k7
      have F7 := k7.fr F6
      have N7 := k7.news F6 N6
      dsimp only [List.nil_append] at N7
      by_cases hm : (n : Int) ∈ heldL
      · rw [decide_eq_true hm]
        k_steps
        exact LCg.CompEnd.intro F7 N7 _ (fun p hp => hp) off6 trivial ⟨rfl, n, _, hn2, .inl ⟨rfl, hm⟩⟩
      · rw [decide_eq_false hm]
        k_steps
        exact LCg.CompEnd.intro F7 N7 _ (fun p hp => hp) off6 trivial ⟨rfl, n, _, hn2, .inr ⟨rfl, hm⟩⟩
    · intro ys2 hyl hyg
      have hI9 : IntsAre ys2 ((ns.take (z - 1).toNat).map lampOf) := by
        have := ints_map (f := fun n => if n ∈ heldL then 1 else 0) (ns := (ns.take (z - 1).toNat).map fun k => (signOf k : Int)) (by rw [hyl, hxs, List.length_map]) (fun i y hy => by
          obtain ⟨n, t, h1, h2⟩ := hyg i y hy
          refine ⟨n, t, ?_, by rcases h2 with ⟨rfl, h2⟩ | ⟨rfl, h2⟩ <;> simp [h2]⟩
          rw [← Array.getElem?_toList, hcp, List.getElem?_map] at h1
          rw [List.getElem?_map]
          cases q : (ns.take (z - 1).toNat)[i]? with
          | none => rw [q] at h1; cases h1
          | some k => rw [q] at h1; simp at h1 ⊢; omega)
        rw [List.map_map] at this
        exact this
      intro D2 h tk F6 N6 off6
      k_steps
      rename Fr _ _ _ _ => F8
      rename News _ _ _ _ => N8
      rename IntsAre _ (_ ++ _) => hI10
      exact ret _ _ 0 _ _ hI10 (Kept.of F8 (fun p hp => N8 p (by rw [List.mem_singleton.mp hp]; exact .head _)))
end Mine
end
section
open PySem PySem.W PyProof.Rows PySem.Calls PyProof.V PySem.Spec
namespace Mine
theorem fillRt (w : World) (h : Heap) : (K w.params).In h → PySem.Challenge.rw_tp0056_01.foot = 8 := by
  k_fill
  intro _
  rfl
local macro_rules | `(tactic| walk_at "KswEnd") => `(tactic| refine held ?_)
local macro_rules | `(tactic| walk_at "EndG") => `(tactic| refine held ?_)
local macro_rules | `(tactic| walk_at "PostG") => `(tactic| dsimp only [PostG])
theorem stop_le {N k₀ : Int} {B : Int → Bool} : StopUp (fun k => if k ≤ N then B k else false) k₀ (max k₀ (N + 1)) :=
  ⟨Int.le_max_left _ _, by
    have : ¬ (max k₀ (N + 1) ≤ N) := by omega
    simp only [if_neg this]⟩
local macro_rules | `(tactic| walk_at "StopUp") => `(tactic| exact stop_le)
local macro_rules | `(tactic| walk_at "call builtin:list.append") => `(tactic| refine held ?_)
local macro_rules | `(tactic| walk_at "call ref") => `(tactic| refine held ?_)
local macro_rules | `(tactic| walk_at "s1") => `(tactic| first | (k_unfold; (try dsimp only)) | walk1 | (dsimp only; walk1))
local macro_rules | `(tactic| walk_at "pyIter ref") => `(tactic| refine held ?_)
structure RdS where
  ea : Nat
  va : List Value
  ef : Nat
  vf : List Value
  num : Int
  tn : Tok
/-- a turn's number, and its front -/
noncomputable def stepN (z x : Int) : Int := (2 * x) % (2 ^ z.toNat - 1)
noncomputable def frontN (z x : Int) : Int := (2 * x) / (2 ^ z.toNat - 1)
noncomputable def numAt (z x : Int) : Nat → Int
  | 0 => x
  | i + 1 => stepN z (numAt z x i)
noncomputable def noK (z x k : Int) : Bool := x.fdiv (2 ^ (z - k).toNat) != Builtin.bitAnd x (2 ^ k.toNat - 1)
noncomputable def bitAt (z x : Int) : Int := if (List.range (z.fdiv 2).toNat).all (fun j => noK z x ((j : Int) + 1)) then 1 else 0
theorem bit_1 {z x k : Int} (h1 : ∀ j : Int, 1 ≤ j → j < k → (if j ≤ z.fdiv 2 then if (x.fdiv (2 ^ (z - j).toNat) != Builtin.bitAnd x (2 ^ j.toNat - 1)) = true then true else false else false) = true) (h2 : z.fdiv 2 < k) : bitAt z x = 1 := by
  unfold bitAt
  rw [if_pos]
  refine List.all_eq_true.mpr fun j hj => ?_
  have hj' := List.mem_range.mp hj
  have := h1 ((j : Int) + 1) (by omega) (by omega)
  rw [if_pos (by omega)] at this
  unfold noK
  split at this
  · assumption
  · cases this
theorem bit_0 {z x k : Int} (h0 : 1 ≤ k) (h1 : (if k ≤ z.fdiv 2 then if (x.fdiv (2 ^ (z - k).toNat) != Builtin.bitAnd x (2 ^ k.toNat - 1)) = true then true else false else false) = false) (h2 : ¬ z.fdiv 2 < k) : bitAt z x = 0 := by
  unfold bitAt
  rw [if_neg]
  intro ha
  have := List.all_eq_true.mp ha (k.toNat - 1) (List.mem_range.mpr (by omega))
  have e : ((k.toNat - 1 : Nat) : Int) + 1 = k := by omega
  rw [e] at this
  unfold noK at this
  rw [if_pos (by omega), if_pos this] at h1
  cases h1
noncomputable def RdP (z x0 : Int) (n : Nat) (c : RdS) : Prop := c.num = numAt z x0 n ∧ IntsAre c.va ((List.range n).map fun i => bitAt z (numAt z x0 i)) ∧ IntsAre c.vf ((List.range n).map fun i => frontN z (numAt z x0 i)) ∧ 0 ≤ c.num ∧ c.num ≤ 512
theorem pow_bound {n : Nat} (h0 : 1 ≤ n) (h : n ≤ 9) : (0 : Int) < 2 ^ ((n : Int)).toNat - 1 ∧ (2 : Int) ^ ((n : Int)).toNat - 1 < 4096 := by
  rw [Int.toNat_natCast]
  have : n = 1 ∨ n = 2 ∨ n = 3 ∨ n = 4 ∨ n = 5 ∨ n = 6 ∨ n = 7 ∨ n = 8 ∨ n = 9 := by omega
  rcases this with rfl | rfl | rfl | rfl | rfl | rfl | rfl | rfl | rfl <;> decide
theorem pow_bound2 {n : Nat} (h0 : 1 ≤ n) (h : n ≤ 9) : (2 : Int) ^ n - 1 ≤ 512 := by
  have : n = 1 ∨ n = 2 ∨ n = 3 ∨ n = 4 ∨ n = 5 ∨ n = 6 ∨ n = 7 ∨ n = 8 ∨ n = 9 := by omega
  rcases this with rfl | rfl | rfl | rfl | rfl | rfl | rfl | rfl | rfl <;> decide
theorem round_step {z x0 b : Int} {ea ef ea' ef' : Nat} {va vf : List Value} {num : Int} {tn tb tf tn' : Tok} {pre : List Int} {k : Int} {n9 : Nat} (hb : bitAt z num = b) (hz : z = n9) (h1 : 1 ≤ n9) (h9 : n9 ≤ 9) (hP : RdP z x0 pre.length ⟨ea, va, ef, vf, num, tn⟩) :
    RdP z x0 (pre ++ [k]).length ⟨ea', va ++ [.int b tb], ef', vf ++ [.int ((2 * num) / (2 ^ z.toNat - 1)) tf], (2 * num) % (2 ^ z.toNat - 1), tn'⟩ := by
  obtain ⟨e1, e2, e3, e4⟩ := hP
  dsimp only at e1 e2 e3 e4
  have hp := pow_bound h1 h9
  have hp2 := pow_bound2 h1 h9
  rw [List.length_append]
  refine ⟨?_, ?_, ?_, ?_⟩
  · dsimp only
    show _ = stepN z (numAt z x0 pre.length)
    rw [← e1]; rfl
  · dsimp only
    show IntsAre _ ((List.range (pre.length + 1)).map _)
    rw [List.range_succ, List.map_append]
    have : [b] = [pre.length].map fun i => bitAt z (numAt z x0 i) := by rw [List.map_singleton, ← e1, hb]
    rw [← this]
    exact ints_snoc e2
  · dsimp only
    show IntsAre _ ((List.range (pre.length + 1)).map _)
    rw [List.range_succ, List.map_append]
    have : [(2 * num) / (2 ^ z.toNat - 1)] = [pre.length].map fun i => frontN z (numAt z x0 i) := by rw [List.map_singleton, ← e1]; rfl
    rw [← this]
    exact ints_snoc e3
  · dsimp only
    subst hz
    refine ⟨Int.emod_nonneg _ (by omega), ?_⟩
    have := Int.emod_lt_of_pos (2 * num) hp.1
    rw [Int.toNat_natCast] at this ⊢
    omega
noncomputable def rdBody : {b : List Stmt // forBody (lb303.1.getD 5 (.Pass default)) = b} := by
  refine' ⟨_, _⟩
  rotate_left
  · (conv => lhs; whnf)
theorem names4 {m : Str → Option Value} {a b c d : Str} {v1 v2 v3 v4 : Value} (h1 : m a = some v1) (h2 : m b = some v2) (h3 : m c = some v3) (h4 : m d = some v4) : m = fun y => if y = a then some v1 else if y = b then some v2 else if y = c then some v3 else if y = d then some v4 else m y := by
  funext y
  by_cases e : y = a
  · rw [if_pos e, e, h1]
  · rw [if_neg e]
    by_cases e : y = b
    · rw [if_pos e, e, h2]
    · rw [if_neg e]
      by_cases e : y = c
      · rw [if_pos e, e, h3]
      · rw [if_neg e]
        by_cases e : y = d
        · rw [if_pos e, e, h4]
        · rw [if_neg e]
theorem news_4 {h₀ h : Heap} {L : Addr} {a b c d : Addr × Obj} {R : List (Addr × Obj)} (N : News h₀ L h (a :: b :: c :: d :: R)) : News h₀ L h (c :: b :: d :: R) := fun p hp => N p (by
  rcases List.mem_cons.mp hp with rfl | hp
  · exact .tail _ (.tail _ (.head _))
  · rcases List.mem_cons.mp hp with rfl | hp
    · exact .tail _ (.head _)
    · exact .tail _ (.tail _ (.tail _ hp)))
theorem append_4 {prog : Program} {w : World} {A : Around} {E : Value → Shared → Prop} {s : Shared} {h₀ : Heap} {L l : Addr} {m : Str → Option Value} {R : List (Addr × Obj)} {a b c : Addr × Obj} {its : Array Value} {n : Nat} {v : Value} {Q : Value → Shared → Prop}
    (F : Fr h₀ L s.heap m) (N : News h₀ L s.heap (a :: b :: c :: (l, listOf its n) :: R)) (ha : a.1 ≠ l) (hb : b.1 ≠ l) (hc : c.1 ≠ l) (hR : ∀ p ∈ R, p.1 ≠ l) (hsz : its.size ≤ sizeLine)
    (h : ∀ h', Fr h₀ L h' m → News h₀ L h' (a :: b :: c :: (l, listOf (its.push v) (n + 1)) :: R) → Q .none { s with heap := h' }) : wpAny (model prog w) A (call (.builtin "list.append") [.ref l, v]) Q E s := by
  refine append_H (its := its) (n := n) F (rest := a :: b :: c :: R) (fun p hp => N p ?_) ?_ hsz fun h' F' N' => h h' F' fun p hp => N' p ?_
  · rcases List.mem_cons.mp hp with rfl | hp
    · exact .tail _ (.tail _ (.tail _ (.head _)))
    · rcases List.mem_cons.mp hp with rfl | hp
      · exact .head _
      · rcases List.mem_cons.mp hp with rfl | hp
        · exact .tail _ (.head _)
        · rcases List.mem_cons.mp hp with rfl | hp
          · exact .tail _ (.tail _ (.head _))
          · exact .tail _ (.tail _ (.tail _ (.tail _ hp)))
  · intro p hp
    rcases List.mem_cons.mp hp with rfl | hp
    · exact ha
    · rcases List.mem_cons.mp hp with rfl | hp
      · exact hb
      · rcases List.mem_cons.mp hp with rfl | hp
        · exact hc
        · exact hR p hp
  · rcases List.mem_cons.mp hp with rfl | hp
    · exact .tail _ (.head _)
    · rcases List.mem_cons.mp hp with rfl | hp
      · exact .tail _ (.tail _ (.head _))
      · rcases List.mem_cons.mp hp with rfl | hp
        · exact .tail _ (.tail _ (.tail _ (.head _)))
        · rcases List.mem_cons.mp hp with rfl | hp
          · exact .head _
          · exact .tail _ (.tail _ (.tail _ (.tail _ hp)))
set_option maxHeartbeats 4000000 in
theorem round_turn (w : World) {p : Program} {loose : List Str} {mean : ExcName → Option Value} {mg mb : Str → Option Value} {A₀ : Around} {base g : Heap} {outer : List Env} {L I al fl : Addr} {oI : Obj} {s : Shared} {va vf : List Value} {ea ef n : Nat} {num : Int} {tn ts : Tok} {R0 : List (Addr × Obj)} {m₁ : Str → Option Value} {J : (Str → Option Value) → List (Addr × Obj) → Prop} {Q : Flow → Shared → Prop}
    (B : Below A₀ base outer g) (X : (K w.params).In g) (T : Top p loose mean mg mb g) (F : Fr g L s.heap m₁) (N : News g L s.heap ((I, oI) :: (al, listOf va.toArray ea) :: (fl, listOf vf.toArray ef) :: R0))
    (f1 : m₁ (Str.ofString "number") = some (.int num tn)) (f2 : m₁ (Str.ofString "alone") = some (.ref al)) (f3 : m₁ (Str.ofString "fronts") = some (.ref fl)) (f4 : m₁ (Str.ofString "size") = some (.int n ts))
    (b1 : 0 ≤ num) (b2 : num ≤ 512) (hn0 : 1 ≤ n) (hn : n ≤ 9) (hza : va.toArray.size ≤ sizeLine) (hzf : vf.toArray.size ≤ sizeLine)
    (aAl : ∀ p ∈ R0, p.1 ≠ al) (aFl : ∀ p ∈ R0, p.1 ≠ fl) (afa : fl ≠ al) (a1 : al ≠ I) (a2 : fl ≠ I) (a3 : ∀ p ∈ R0, p.1 ≠ I)
    (hJ : ∀ (m' : Str → Option Value) (tb tf tt : Tok), m' (Str.ofString "number") = some (.int ((2 * num) % (2 ^ (n : Int).toNat - 1)) tt) → (∀ z, z ≠ Str.ofString "number" → z ≠ Str.ofString "k" → z ≠ Str.ofString "front" → m' z = m₁ z) →
      J m' ((al, listOf (va ++ [Value.int (bitAt n num) tb]).toArray (ea + 1)) :: (fl, listOf (vf ++ [Value.int ((2 * num) / (2 ^ (n : Int).toNat - 1)) tf]).toArray (ef + 1)) :: R0)) :
    wpAny (model PySem.Challenge.rw_tp0056_01.row.prog w) (ktrTop 701 7003 (some []) (Str.ofString "_law_round") ls303.1 L 303 (.ref 302) [] outer) (execs rdBody.1 (envOf (Str.ofString "_law_round") ls303.1 L 303 (.ref 302))) (PostG g L I oI J s Q) (fun _ _ => False) s := by
  have hMk := kstMark
  have hzb := pow_bound hn0 hn
  have em := names4 f1 f2 f3 f4
  rw [em] at F
  dsimp only [rdBody, ls303]
  k_steps
  · unfold Held
    rename Fr g _ _ _ => F5
    rename News g _ _ _ => N5
    refine append_H (its := va.toArray) (n := ea) F5 (rest := (I, oI) :: (fl, listOf vf.toArray ef) :: R0) (fun p hp => N5 p ?_) ?_ hza ?_
    · rcases List.mem_cons.mp hp with rfl | hp
      · exact .tail _ (.head _)
      · rcases List.mem_cons.mp hp with rfl | hp
        · exact .head _
        · exact .tail _ (.tail _ hp)
    · intro p hp
      rcases List.mem_cons.mp hp with rfl | hp
      · exact a1.symm
      · rcases List.mem_cons.mp hp with rfl | hp
        · exact afa
        · exact aAl p hp
    intro h6 F6 N6
    clear F5 N5
    rw [List.push_toArray] at N6
    have e1 : bitAt (n : Int) num = 1 := bit_1 (by assumption) (by assumption)
    k_steps
    unfold Held
    refine div_spec w B F6 X T rfl (Nat.le_of_ble_eq_true rfl) (Nat.le_of_ble_eq_true rfl) (by omega) (by omega) hzb.1 hzb.2 (by omega) (by omega) ?_
    intro lt ta tb h7 tk7 k7
    have F7 := k7.fr F6
    have N7 := k7.news F6 N6
    have hlt0 := (k7.2 _ (.head _)).2
    have hlf : lt ≠ fl := fun e => by
      have := (N6 _ (.tail _ (.tail _ (.head _)))).1
      rw [e] at hlt0
      exact absurd (hlt0.symm.trans this) (by simp)
    clear F6 N6
    dsimp only [List.cons_append, List.nil_append] at N7
    k_steps
    unfold Held
    rename Fr g _ _ _ => F8
    rename News g _ _ _ => N8
    refine append_4 F8 N8 hlf afa.symm a2.symm aFl hzf ?_
    intro h9 F9 N9
    clear F8 N8
    rw [List.push_toArray] at N9
    simp only [e1] at hJ
    k_steps
    unfold Held
    have N10 := news_4 N9
    refine ⟨_, _, _, _, rfl, F9, N10, fun p hp => ?_, hJ _ _ ta tb rfl ?_⟩
    · rcases List.mem_cons.mp hp with rfl | hp
      · exact a1
      · rcases List.mem_cons.mp hp with rfl | hp
        · exact a2
        · exact a3 p hp
    · intro z zn zk zf
      show (if z = Str.ofString "number" then _ else if z = Str.ofString "front" then _ else bindM _ _ _ z) = _
      rw [if_neg zn, if_neg zf]
      show (if z = Str.ofString "k" then _ else if z = Str.ofString "k" then _ else if z = Str.ofString "number" then _ else if z = Str.ofString "alone" then some (Value.ref al) else if z = Str.ofString "fronts" then some (Value.ref fl) else if z = Str.ofString "size" then some (Value.int n ts) else m₁ z) = _
      rw [if_neg zk, if_neg zk, if_neg zn]
      by_cases e : z = Str.ofString "alone"
      · rw [if_pos e, e, f2]
      · rw [if_neg e]
        by_cases e : z = Str.ofString "fronts"
        · rw [if_pos e, e, f3]
        · rw [if_neg e]
          by_cases e : z = Str.ofString "size"
          · rw [if_pos e, e, f4]
          · rw [if_neg e]
  · unfold Held
    rename Fr g _ _ _ => F5
    rename News g _ _ _ => N5
    refine append_H (its := va.toArray) (n := ea) F5 (rest := (I, oI) :: (fl, listOf vf.toArray ef) :: R0) (fun p hp => N5 p ?_) ?_ hza ?_
    · rcases List.mem_cons.mp hp with rfl | hp
      · exact .tail _ (.head _)
      · rcases List.mem_cons.mp hp with rfl | hp
        · exact .head _
        · exact .tail _ (.tail _ hp)
    · intro p hp
      rcases List.mem_cons.mp hp with rfl | hp
      · exact a1.symm
      · rcases List.mem_cons.mp hp with rfl | hp
        · exact afa
        · exact aAl p hp
    intro h6 F6 N6
    clear F5 N5
    rw [List.push_toArray] at N6
    have e1 : bitAt (n : Int) num = 0 := bit_0 (by assumption) (by assumption) (by assumption)
    k_steps
    unfold Held
    refine div_spec w B F6 X T rfl (Nat.le_of_ble_eq_true rfl) (Nat.le_of_ble_eq_true rfl) (by omega) (by omega) hzb.1 hzb.2 (by omega) (by omega) ?_
    intro lt ta tb h7 tk7 k7
    have F7 := k7.fr F6
    have N7 := k7.news F6 N6
    have hlt0 := (k7.2 _ (.head _)).2
    have hlf : lt ≠ fl := fun e => by
      have := (N6 _ (.tail _ (.tail _ (.head _)))).1
      rw [e] at hlt0
      exact absurd (hlt0.symm.trans this) (by simp)
    clear F6 N6
    dsimp only [List.cons_append, List.nil_append] at N7
    k_steps
    unfold Held
    rename Fr g _ _ _ => F8
    rename News g _ _ _ => N8
    refine append_4 F8 N8 hlf afa.symm a2.symm aFl hzf ?_
    intro h9 F9 N9
    clear F8 N8
    rw [List.push_toArray] at N9
    simp only [e1] at hJ
    k_steps
    unfold Held
    have N10 := news_4 N9
    refine ⟨_, _, _, _, rfl, F9, N10, fun p hp => ?_, hJ _ _ ta tb rfl ?_⟩
    · rcases List.mem_cons.mp hp with rfl | hp
      · exact a1
      · rcases List.mem_cons.mp hp with rfl | hp
        · exact a2
        · exact a3 p hp
    · intro z zn zk zf
      show (if z = Str.ofString "number" then _ else if z = Str.ofString "front" then _ else bindM _ _ _ z) = _
      rw [if_neg zn, if_neg zf]
      show (if z = Str.ofString "k" then _ else if z = Str.ofString "k" then _ else if z = Str.ofString "number" then _ else if z = Str.ofString "alone" then some (Value.ref al) else if z = Str.ofString "fronts" then some (Value.ref fl) else if z = Str.ofString "size" then some (Value.int n ts) else m₁ z) = _
      rw [if_neg zk, if_neg zk, if_neg zn]
      by_cases e : z = Str.ofString "alone"
      · rw [if_pos e, e, f2]
      · rw [if_neg e]
        by_cases e : z = Str.ofString "fronts"
        · rw [if_pos e, e, f3]
        · rw [if_neg e]
          by_cases e : z = Str.ofString "size"
          · rw [if_pos e, e, f4]
          · rw [if_neg e]
end Mine
end
section
open PySem PySem.W PyProof.Rows PySem.Calls PyProof.V PySem.Spec
namespace Mine
theorem fillRound (w : World) (h : Heap) : (K w.params).In h → PySem.Challenge.rw_tp0056_01.foot = 8 := by
  k_fill
  intro _
  rfl
local macro_rules | `(tactic| walk_at "call ref") => `(tactic| refine held ?_)
local macro_rules | `(tactic| walk_at "compareOp NotEq ref ref") => `(tactic| refine held ?_)
local macro_rules | `(tactic| walk_at "pyIter ref") => `(tactic| refine held ?_)
theorem dval_full (ds : List Int) : dval ds 0 (ds.length : Int) = numOf ds := by
  unfold dval
  rw [Int.toNat_natCast, List.take_length]
  rfl
theorem apart_new {h₀ h h' : Heap} {L L' : Addr} {mu rest new : List (Addr × Obj)} (N₀ : News h₀ L h (mu ++ rest)) (hap : ∀ p ∈ mu, ∀ q ∈ rest, q.1 ≠ p.1) (N' : News (hideAll h (mu.map (·.1))) L' h' new) : ∀ p ∈ new, ∀ q ∈ rest, q.1 ≠ p.1 := by
  intro p hp q hq e
  have := hideAll_get (mu.map (·.1)) (N₀ q (List.mem_append_right _ hq)).1 (fun m => by
    obtain ⟨r, hr, er⟩ := List.mem_map.mp m
    exact hap r hr q hq er.symm)
  rw [e, (N' p hp).2.2] at this
  cases this
/-- the next row: the places of the turns without a border -/
noncomputable def roundOf (ns : List Int) : List Int :=
  if ((List.range ns.length).map fun i => frontN (ns.length : Int) (numAt (ns.length : Int) (numOf ns.reverse) i)) = ns ∧ numAt (ns.length : Int) (numOf ns.reverse) ns.length = numOf ns.reverse then (List.range ns.length).map fun i => bitAt (ns.length : Int) (numAt (ns.length : Int) (numOf ns.reverse) i) else []
theorem round_yes {ns : List Int} (h1 : ((List.range ns.length).map fun i => frontN (ns.length : Int) (numAt (ns.length : Int) (numOf ns.reverse) i)) = ns) (h2 : numAt (ns.length : Int) (numOf ns.reverse) ns.length = numOf ns.reverse) : roundOf ns = (List.range ns.length).map fun i => bitAt (ns.length : Int) (numAt (ns.length : Int) (numOf ns.reverse) i) := by
  unfold roundOf
  exact if_pos ⟨h1, h2⟩
theorem round_no1 {ns : List Int} (h : ¬ ((List.range ns.length).map fun i => frontN (ns.length : Int) (numAt (ns.length : Int) (numOf ns.reverse) i)) = ns) : roundOf ns = [] := by
  unfold roundOf
  exact if_neg fun q => h q.1
theorem round_no2 {ns : List Int} (h : ¬ numAt (ns.length : Int) (numOf ns.reverse) ns.length = numOf ns.reverse) : roundOf ns = [] := by
  unfold roundOf
  exact if_neg fun q => h q.2
set_option maxHeartbeats 8000000 in
theorem round_spec (w : World) {p : Program} {loose : List Str} {mean : ExcName → Option Value} {mg mb : Str → Option Value} {cn : Str} {cs : Scope} {L a : Addr} {ccd : Value} {cl : List (Str × Addr)} {outer : List Env} {A₀ : Around} {base h₀ : Heap} {m : Str → Option Value} {s : Shared} {Q E : Value → Shared → Prop} {dp un : Nat} {l : Addr} {vs : List Value} {ns : List Int} {led rest : List (Addr × Obj)}
    (B : Below A₀ base outer h₀) (F : Fr h₀ L s.heap m) (X : (K w.params).In h₀) (T : Top p loose mean mg mb h₀) (hke : cs.kind = .function) (hd : dp ≤ 700) (hu : un ≤ 7000)
    (N : News h₀ L s.heap (led ++ rest)) (hap : ∀ p ∈ led, ∀ q ∈ rest, q.1 ≠ p.1) (hT : TabL led) (C : CodeHd h₀ 58 54)
    (hl : s.heap.IsList l vs.toArray) (hI : IntsAre vs ns) (hb : ∀ d ∈ ns, d = 0 ∨ d = 1) (hn0 : 1 ≤ ns.length) (hn : ns.length ≤ 9)
    (ret : ∀ D us n led' h' tk, IntsAre us (roundOf ns) → TabL led' → Fr h₀ L h' m → News h₀ L h' ((led' ++ [(D, listOf (us : List Value).toArray n)]) ++ rest) → (∀ p ∈ led' ++ [(D, listOf us.toArray n)], ∀ q ∈ rest, q.1 ≠ p.1) → Q (.ref D) { s with heap := h', toks := tk }) :
    wpAny (model PySem.Challenge.rw_tp0056_01.row.prog w) (ktrTop dp un (some []) cn cs L a ccd cl outer) (call (.ref 303) [.ref l] []) Q E s := by
  have Nm : News h₀ L s.heap led := fun p hp => N p (List.mem_append_left _ hp)
  refine enterM (args := ⟨[.ref l], []⟩) (binds := [(Str.ofString "row", .ref l)]) 700 7000 B F X T hke hd hu Nm (k303 _) (c303 _) (by decide) (BindsTo.of_eq rfl) (locs rfl) (by decide) rfl rfl rfl ?_
  intro L' h₁ F' N' B' X' T'
  have C' := C.keeps (hide_stays F Nm)
  have hl' := hide_list Nm hT.fields hl
  clear B X T C hl
  dsimp only [lb303, ls303, la303]
  have F₀ := F
  have N₀ := N
  generalize hgen : hideAll s.heap _ = g at F' N' B' X' T' C' hl'
  clear F N Nm
  replace F' : Fr g L' h₁ (fun y => List.lookup y [(Str.ofString "row", Value.ref l)]) := F'
  have hMk := kstMark
  have hvz : vs.toArray.size ≤ sizeLine := by rw [List.size_toArray, hI.length]; exact Nat.le_trans hn (by decide)
  k_steps
  unfold Held
  rename Fr g _ _ _ => F1
  rename News g _ _ _ => N1
  rename IntsAre _ (List.reverse _) => hI1
  rename_i D1 ws1 _ l1 _
  refine digits_spec w (led := led) (rest := [(D1, listOf ws1.toArray 0)]) B' F1 X' T' rfl (Nat.le_of_ble_eq_true rfl) (Nat.le_of_ble_eq_true rfl) (fun p hp => N1 p (by
      rcases List.mem_append.mp hp with hp | hp
      · exact .tail _ hp
      · rw [List.mem_singleton.mp hp]; exact .head _)) (fun p hp q hq => by rw [List.mem_singleton.mp hq]; exact Nat.ne_of_gt (l1 p hp)) hT C' (News.isList N1 (.head _)) hI1 (fun d hd => hb d (List.mem_reverse.mp hd)) (by rw [List.length_reverse]; exact hn0) (by rw [List.length_reverse]; exact hn) ?_
  intro t2 led2 h2 tk2 hT2 F2 N2 hap2
  have hdb := dval_bound (ds := ns.reverse) (fun d hd => hb d (List.mem_reverse.mp hd)) (by rw [List.length_reverse]; exact hn) 0 (ns.reverse.length : Int)
  have hde := dval_full ns.reverse
  generalize dval ns.reverse 0 (ns.reverse.length : Int) = x0 at hdb hde ⊢
  clear F1 N1
  k_steps
  unfold Held
  rename IsRange _ _ _ _ _ _ _ _ => hR
  rename Fr g _ _ _ => F3
  rename News g _ _ _ => N3
  rename_i fl _ l2 _ _ al _ lal _ _ _ _ _ _ _ _ _
  have aAl : ∀ p ∈ led2 ++ [(D1, listOf ws1.toArray 0)], p.1 ≠ al := fun p hp => Nat.ne_of_lt (Nat.lt_trans (l2 p hp) lal.1)
  have aFl : ∀ p ∈ led2 ++ [(D1, listOf ws1.toArray 0)], p.1 ≠ fl := fun p hp => Nat.ne_of_lt (l2 p hp)
  have afa : fl ≠ al := Nat.ne_of_lt lal.1
  have hR0 : ∀ p ∈ led2, p ∈ led2 ++ [(D1, listOf ws1.toArray 0)] := fun p hp => List.mem_append_left _ hp
  generalize led2 ++ [(D1, listOf ws1.toArray 0)] = R0 at aAl aFl hR0 N3 ⊢
  have hzb := pow_bound hn0 hn
  refine rangeG (σ := RdS) (n := ns.length) (x := Str.ofString "place") (fun c => (al, listOf c.va.toArray c.ea) :: (fl, listOf c.vf.toArray c.ef) :: R0) (fun c => [(Str.ofString "number", .int c.num c.tn)]) (fun _ => True) [Str.ofString "k", Str.ofString "front"] (fun pre c => RdP (ns.length : Int) x0 pre.length c) ⟨0, [], 0, [], x0, t2⟩ rfl hR ?_ ?_ F3 N3 trivial (List.forall_mem_singleton.mpr rfl) ⟨rfl, .nil, .nil, hdb⟩ ?_ ?_
  · exact small_one (by omega) (by omega) (by omega) (by omega)
  · rw [rangeSize_one]; split <;> omega
  · intro I c pre k t u h tk oI hk hlt hoff _ hP F4 N4
    clear F3 N3 hR
    obtain ⟨b1, b2⟩ := hP.2.2.2
    have hza : c.va.toArray.size ≤ sizeLine := by
      rw [List.size_toArray, hP.2.1.length, List.length_map, List.length_range]
      exact Nat.le_trans (Nat.le_of_lt hlt) (Nat.le_trans hn (by decide))
    have hzf : c.vf.toArray.size ≤ sizeLine := by
      rw [List.size_toArray, hP.2.2.1.length, List.length_map, List.length_range]
      exact Nat.le_trans (Nat.le_of_lt hlt) (Nat.le_trans hn (by decide))
    refine round_turn w B' X' T' F4 N4 rfl rfl rfl rfl b1 b2 hn0 hn hza hzf aAl aFl afa (hoff _ (.head _)) (hoff _ (.tail _ (.head _))) (fun p hp => hoff p (.tail _ (.tail _ hp))) ?_
    intro m' tb tf tt g1 g2
    refine ⟨⟨c.ea + 1, c.va ++ [Value.int _ tb], c.ef + 1, c.vf ++ [Value.int _ tf], _, tt⟩, rfl, trivial, List.forall_mem_singleton.mpr g1, ?_, round_step rfl rfl hn0 hn hP⟩
    intro z z0 z2 z3
    have zn : z ≠ Str.ofString "number" := z2 _ (.head _)
    simp only [List.contains_cons, List.contains_nil, Bool.or_false, Bool.or_eq_false_iff, beq_eq_false_iff_ne, ne_eq] at z3
    rw [g2 z zn z3.1 z3.2]
    simp only [kstB, if_neg z0, if_neg zn, if_neg z3.1, if_neg z3.2, List.contains_cons, List.contains_nil, Bool.or_false, Bool.false_eq_true, if_false, beq_eq_false_iff_ne.mpr z3.1, beq_eq_false_iff_ne.mpr z3.2]
  · intro c u h tk _ hP F4 N4
    clear F3 N3 hR
    rw [rangeKs_length] at hP
    obtain ⟨p1, p2, p3, p4⟩ := hP
    k_steps
    unfold Held
    refine ke_ne_ints (News.isList N4 (.tail _ (.head _))) (IsList.keeps hl' F4.keep) p3 hI (Nat.le_of_ble_eq_true rfl) ?_
    have fin : ∀ (D : Addr) (us : List Value) (n : Nat) (h' : Heap) (tk : Nat) (m' : Str → Option Value), IntsAre us (roundOf ns) → Fr g L' h' m' → News g L' h' (led2 ++ [(D, listOf us.toArray n)]) → Q (.ref D) { s with heap := h', toks := tk } := by
      intro D us n h' tk m' i1 i2 i3
      subst hgen
      have bk := back F₀ N₀ hap i2 i3
      exact ret D us n led2 h' tk i1 hT2 bk.1 bk.2 (apart_new N₀ hap i3)
    by_cases hfr : ((List.range ns.length).map fun i => frontN (ns.length : Int) (numAt (ns.length : Int) x0 i)) = ns
    · rw [decide_eq_true hfr]
      k_steps
      · rename Fr g _ _ _ => F5
        rename News g _ _ _ => N5
        rename (c.num ≠ x0) => hnu
        subst hde
        refine fin _ [] 0 _ _ _ (by rw [round_no2 (fun q => hnu (p1.trans q))]; exact .nil) F5 (fun p hp => N5 p ?_)
        rcases List.mem_append.mp hp with hp | hp
        · exact .tail _ (.tail _ (.tail _ (hR0 p hp)))
        · rw [List.mem_singleton.mp hp]; exact .head _
      · rename (c.num = x0) => hnu
        subst hde
        refine fin al c.va c.ea _ _ _ (by rw [round_yes hfr (p1.symm.trans hnu)]; exact p2) F4 (fun p hp => N4 p ?_)
        rcases List.mem_append.mp hp with hp | hp
        · exact .tail _ (.tail _ (hR0 p hp))
        · rw [List.mem_singleton.mp hp]; exact .head _
    · rw [decide_eq_false hfr]
      k_steps
      rename Fr g _ _ _ => F5
      rename News g _ _ _ => N5
      subst hde
      refine fin _ [] 0 _ _ _ (by rw [round_no1 hfr]; exact .nil) F5 (fun p hp => N5 p ?_)
      rcases List.mem_append.mp hp with hp | hp
      · exact .tail _ (.tail _ (.tail _ (hR0 p hp)))
      · rw [List.mem_singleton.mp hp]; exact .head _
end Mine
end
section
open PySem PySem.W PyProof.Rows PySem.Calls PyProof.V PySem.Spec
namespace Mine
theorem placed_map {x : Str} {f : Nat → Nat → List Nat} {g : Nat → Nat} (h : ∀ i c, x.cps[i]? = some c → f i c = [g c]) : (placed x f).toList = x.cps.toList.map g := by
  unfold placed
  rw [Array.toList_flatten, Array.toList_mapIdx]
  have e : ∀ (l : List Nat) (off : Nat), (∀ i c, l[i]? = some c → f (off + i) c = [g c]) → (List.map Array.toList (l.mapIdx fun i c => (f (off + i) c).toArray)).flatten = l.map g := by
    intro l
    induction l with
    | nil => intro off _; rfl
    | cons a l ih =>
      intro off hl
      rw [List.mapIdx_cons, List.map_cons, List.flatten_cons, List.map_cons]
      have h0 := hl 0 a rfl
      rw [h0]
      have := ih (off + 1) (fun i c hc => by
        have := hl (i + 1) c (by simpa using hc)
        rw [← this]; congr 1; omega)
      have e2 : (fun i c => (f (off + (i + 1)) c).toArray) = fun i c => (f (off + 1 + i) c).toArray := by
        funext i c; congr 2; omega
      show [g a] ++ (List.map Array.toList (l.mapIdx fun i c => (f (off + (i + 1)) c).toArray)).flatten = _
      rw [e2, this]; rfl
  have := e x.cps.toList 0 (fun i c hc => by rw [Nat.zero_add]; exact h i c (by rw [← Array.getElem?_toList]; exact hc))
  simp only [Nat.zero_add] at this
  exact this
noncomputable def lowC (c : Nat) : Nat := if c = 65 then 97 else if c = 66 then 98 else c
noncomputable def upC (c : Nat) : Nat := if c = 97 then 65 else if c = 98 then 66 else c
noncomputable def abL : List Nat := [65, 66, 97, 98]
theorem low_of : ∀ c ∈ abL, Unicode.lowerOf c = [lowC c] := by decide +kernel
theorem up_of : ∀ c ∈ abL, Unicode.upperOf c = [upC c] := by decide +kernel
theorem lower_codes {x : Str} (h : ∀ c ∈ x.cps.toList, c ∈ abL) : (Txt.lower x).cps.toList = x.cps.toList.map lowC := by
  refine placed_map fun i c hc => ?_
  have hm : c ∈ abL := h c (by rw [← Array.getElem?_toList] at hc; exact List.mem_of_getElem? hc)
  unfold Unicode.lowerAt
  rw [hc]
  have hn : (c == 0x3A3) = false := by
    simp only [abL, List.mem_cons, List.not_mem_nil, or_false] at hm
    rcases hm with rfl | rfl | rfl | rfl <;> rfl
  dsimp only
  rw [hn, Bool.false_and, if_neg (by decide)]
  exact low_of c hm
theorem upper_codes {x : Str} (h : ∀ c ∈ x.cps.toList, c ∈ abL) : (Txt.upper x).cps.toList = x.cps.toList.map upC :=
  placed_map fun i c hc => up_of c (h c (by rw [← Array.getElem?_toList] at hc; exact List.mem_of_getElem? hc))
theorem str_ext {x y : Str} (h : x.cps.toList = y.cps.toList) : x = y := PySem.Str.ext' (Array.toList_inj.mp h)
/-- a row's word -/
noncomputable def wordT (row : List Int) : Str := Txt.join (Str.ofString "") (row.map (Txt.item (Str.ofString "ab")))
noncomputable abbrev Bin (row : List Int) : Prop := ∀ k ∈ row, k = 0 ∨ k = 1
theorem word_codes : ∀ {row : List Int}, Bin row → (wordT row).cps.toList = row.map fun k => if k = 0 then 97 else 98 := by
  intro row
  unfold wordT
  rw [join_cps]
  induction row with
  | nil => intro _; rfl
  | cons k l ih =>
    intro h
    rw [List.map_cons, List.flatMap_cons, ih (fun k hk => h k (.tail _ hk)), List.map_cons]
    rcases h k (.head _) with rfl | rfl <;> rfl
theorem word_ab {row : List Int} (h : Bin row) : ∀ c ∈ (wordT row).cps.toList, c ∈ abL := by
  intro c hc
  rw [word_codes h] at hc
  obtain ⟨k, _, rfl⟩ := List.mem_map.mp hc
  by_cases e : k = 0
  · rw [if_pos e]; decide
  · rw [if_neg e]; decide
theorem word_low {row : List Int} (h : Bin row) : Txt.lower (wordT row) = wordT row := by
  refine str_ext ?_
  rw [lower_codes (word_ab h), word_codes h, List.map_map]
  refine List.map_congr_left fun k _ => ?_
  show lowC (if k = 0 then 97 else 98) = _
  by_cases e : k = 0
  · rw [if_pos e]; rfl
  · rw [if_neg e]; rfl
theorem up_codes {row : List Int} (h : Bin row) : (Txt.upper (wordT row)).cps.toList = row.map fun k => if k = 0 then 65 else 66 := by
  rw [upper_codes (word_ab h), word_codes h, List.map_map]
  refine List.map_congr_left fun k _ => ?_
  show upC (if k = 0 then 97 else 98) = _
  by_cases e : k = 0
  · rw [if_pos e, if_pos e]; rfl
  · rw [if_neg e, if_neg e]; rfl
theorem up_ab {row : List Int} (h : Bin row) : ∀ c ∈ (Txt.upper (wordT row)).cps.toList, c ∈ abL := by
  intro c hc
  rw [up_codes h] at hc
  obtain ⟨k, _, rfl⟩ := List.mem_map.mp hc
  by_cases e : k = 0
  · rw [if_pos e]; decide
  · rw [if_neg e]; decide
theorem up_low {row : List Int} (h : Bin row) : Txt.lower (Txt.upper (wordT row)) = wordT row := by
  refine str_ext ?_
  rw [lower_codes (up_ab h), up_codes h, word_codes h, List.map_map]
  refine List.map_congr_left fun k _ => ?_
  show lowC (if k = 0 then 65 else 66) = _
  by_cases e : k = 0
  · rw [if_pos e, if_pos e]; rfl
  · rw [if_neg e, if_neg e]; rfl
theorem word_inj : ∀ {a b : List Int}, Bin a → Bin b → wordT a = wordT b → a = b := by
  intro a b ha hb e
  have e' : (wordT a).cps.toList = (wordT b).cps.toList := by rw [e]
  rw [word_codes ha, word_codes hb] at e'
  have g : ∀ (a b : List Int), Bin a → Bin b → (a.map fun k => if k = 0 then 97 else 98) = (b.map fun k => if k = 0 then (97 : Nat) else 98) → a = b := by
    intro a
    induction a with
    | nil => intro b _ _ h; cases b with | nil => rfl | cons _ _ => simp at h
    | cons x l ih =>
      intro b ha hb h
      cases b with
      | nil => simp at h
      | cons y r =>
        rw [List.map_cons, List.map_cons] at h
        have h1 := (List.cons.inj h).1
        have h2 := ih r (fun k hk => ha k (.tail _ hk)) (fun k hk => hb k (.tail _ hk)) (List.cons.inj h).2
        rw [h2]
        congr 1
        rcases ha x (.head _) with rfl | rfl <;> rcases hb y (.head _) with rfl | rfl <;> first | rfl | (simp at h1)
  exact g a b ha hb e'
theorem ab_fine : ∀ c ∈ abL, c ∈ fineL := by decide
theorem word_len {row : List Int} (h : Bin row) : (wordT row).length = row.length := by
  show (wordT row).cps.size = _
  rw [← Array.length_toList, word_codes h, List.length_map]
theorem up_len {row : List Int} (h : Bin row) : (Txt.upper (wordT row)).length = row.length := by
  show (Txt.upper (wordT row)).cps.size = _
  rw [← Array.length_toList, up_codes h, List.length_map]
noncomputable def stepT (n : Nat) : Str := Str.ofString (toString (n : Int))
theorem step_fine : ∀ n, n < 64 → ∀ c ∈ (stepT n).cps.toList, c ∈ fineL := by decide +kernel
theorem step_inj {i j : Nat} (hi : i < 64) (hj : j < 64) (h : stepT i = stepT j) : i = j := by
  have a := KIN.num_reads (n := (i : Int)) (by omega) (by omega)
  have b := KIN.num_reads (n := (j : Int)) (by omega) (by omega)
  unfold stepT at h
  rw [h, b] at a
  have := Option.some.inj a
  omega
theorem step_ne {i : Nat} (hi : i < 64) : stepT i ≠ Str.ofString "" := by
  intro e
  have a := KIN.num_reads (n := (i : Int)) (by omega) (by omega)
  unfold stepT at e
  rw [e] at a
  have b : PySem.intText? (Str.ofString "") = none := by decide +kernel
  rw [b] at a
  cases a
noncomputable def keyT (i : Nat) (row : List Int) : Str := if (i : Int) % 2 ≠ 0 then Txt.upper (wordT row) else wordT row
theorem key_low {i : Nat} {row : List Int} (h : Bin row) : Txt.lower (keyT i row) = wordT row := by
  unfold keyT
  split
  · exact up_low h
  · exact word_low h
theorem key_fine {i : Nat} {row : List Int} (h : Bin row) : ∀ c ∈ (keyT i row).cps.toList, c ∈ fineL := by
  unfold keyT
  split
  · exact fun c hc => ab_fine c (up_ab h c hc)
  · exact fun c hc => ab_fine c (word_ab h c hc)
theorem key_len {i : Nat} {row : List Int} (h : Bin row) : (keyT i row).length = row.length := by
  unfold keyT
  split
  · exact up_len h
  · exact word_len h
noncomputable def tabOf : Nat → List (List Int) → List (Str × Str)
  | _, [] => []
  | i, row :: ws => (keyT i row, stepT i) :: tabOf (i + 1) ws
theorem tab_snoc : ∀ (i : Nat) (ws : List (List Int)) (row : List Int), tabOf i (ws ++ [row]) = tabOf i ws ++ [(keyT (i + ws.length) row, stepT (i + ws.length))]
  | _, [], _ => rfl
  | i, r :: ws, row => by
    have := tab_snoc (i + 1) ws row
    rw [List.cons_append, tabOf, this, tabOf, List.length_cons, List.cons_append]
    have e : i + 1 + ws.length = i + (ws.length + 1) := by omega
    rw [e]
noncomputable def findRow (ws : List (List Int)) (row : List Int) : Option Nat := ws.findIdx? (· == row)
theorem look_tab : ∀ (i : Nat) (ws : List (List Int)) (row : List Int), (∀ r ∈ ws, Bin r) → Bin row → lookL (tabOf i ws) (wordT row) = (findRow ws row).map fun j => stepT (i + j)
  | _, [], _, _, _ => rfl
  | i, r :: ws, row, h, hb => by
    have ih := look_tab (i + 1) ws row (fun r hr => h r (.tail _ hr)) hb
    unfold findRow
    rw [tabOf, List.findIdx?_cons]
    by_cases e : r = row
    · rw [lookL_yes (by rw [key_low (h r (.head _)), e])]
      have : (r == row) = true := by simpa using e
      rw [this, if_pos rfl]; rfl
    · rw [lookL_no (by rw [key_low (h r (.head _))]; exact fun q => e (word_inj (h r (.head _)) hb q)), ih]
      have : (r == row) = false := by simpa using e
      rw [this, if_neg (by decide)]
      unfold findRow
      rw [Option.map_map]
      congr 1
      funext j
      show stepT (i + 1 + j) = stepT (i + (j + 1))
      congr 1; omega
theorem tab_len : ∀ (i : Nat) (ws : List (List Int)), (tabOf i ws).length = ws.length
  | _, [] => rfl
  | i, _ :: ws => by rw [tabOf, List.length_cons, List.length_cons, tab_len]
theorem tab_keys : ∀ (i : Nat) (ws : List (List Int)), (∀ r ∈ ws, Bin r ∧ r.length ≤ 9) → ∀ p ∈ tabOf i ws, p.1.length ≤ 5592405
  | _, [], _, p, hp => nomatch hp
  | i, r :: ws, h, p, hp => by
    rcases List.mem_cons.mp hp with rfl | hp
    · have := h r (.head _)
      dsimp only
      rw [key_len this.1]; omega
    · exact tab_keys (i + 1) ws (fun r hr => h r (.tail _ hr)) p hp
theorem tab_low : ∀ (i : Nat) (ws : List (List Int)), (∀ r ∈ ws, Bin r) → (tabOf i ws).map (fun p => Txt.lower p.1) = ws.map wordT
  | _, [], _ => rfl
  | i, r :: ws, h => by rw [tabOf, List.map_cons, List.map_cons, tab_low (i + 1) ws fun r hr => h r (.tail _ hr), key_low (h r (.head _))]
end Mine
end
section
open PySem PySem.W PyProof.Rows PySem.Calls PyProof.V PySem.Spec
namespace Mine
theorem fillRn (w : World) (h : Heap) : (K w.params).In h → PySem.Challenge.rw_tp0056_01.foot = 8 := by
  k_fill
  intro _
  rfl
noncomputable def whileBody : Stmt → List Stmt | .While _ b .. => b | _ => []
noncomputable def rnBody : {b : List Stmt // whileBody (lb320.1.getD 3 (.Pass default)) = b} := by
  refine' ⟨_, _⟩
  rotate_left
  · (conv => lhs; whnf)
/-- the leads of some rows -/
inductive LeadsL (w : World) : List Value → List (Addr × Obj) → List (List Int) → Prop
  | nil : LeadsL w [] [] []
  | cons {x : Addr} {led ldl : List (Addr × Obj)} {vs : List Value} {row : List Int} {rows : List (List Int)} : LeadL w x (leadOf row) led → LeadsL w vs ldl rows → LeadsL w (.ref x :: vs) (led ++ ldl) (row :: rows)
theorem LeadsL.snoc {w : World} {x : Addr} {led : List (Addr × Obj)} {row : List Int} (h : LeadL w x (leadOf row) led) : ∀ {vs : List Value} {ldl : List (Addr × Obj)} {rows : List (List Int)}, LeadsL w vs ldl rows → LeadsL w (vs ++ [.ref x]) (ldl ++ led) (rows ++ [row])
  | _, _, _, .nil => by simpa using LeadsL.cons h .nil
  | _, _, _, .cons a r => by
    rw [List.append_assoc]
    exact .cons a (r.snoc h)
theorem LeadsL.length {w : World} : ∀ {vs : List Value} {ldl : List (Addr × Obj)} {rows : List (List Int)}, LeadsL w vs ldl rows → vs.length = rows.length
  | _, _, _, .nil => rfl
  | _, _, _, .cons _ r => by rw [List.length_cons, List.length_cons, r.length]
noncomputable def aloneT (row : List Int) : List Int := (rangeKs 0 (wordT row).length).map (aloneAt (wordT row))
theorem append_X {prog : Program} {w : World} {A : Around} {E : Value → Shared → Prop} {s : Shared} {h₀ : Heap} {L l : Addr} {m : Str → Option Value} {X rest : List (Addr × Obj)} {its : Array Value} {n : Nat} {v : Value} {Q : Value → Shared → Prop}
    (F : Fr h₀ L s.heap m) (N : News h₀ L s.heap X) (hl : (l, listOf its n) ∈ X) (hs : ∀ p ∈ rest, p ∈ X) (hr : ∀ p ∈ rest, p.1 ≠ l) (hsz : its.size ≤ sizeLine)
    (h : ∀ h', Fr h₀ L h' m → News h₀ L h' ((l, listOf (its.push v) (n + 1)) :: rest) → Q .none { s with heap := h' }) : wpAny (model prog w) A (call (.builtin "list.append") [.ref l, v]) Q E s :=
  append_H (its := its) (n := n) F (fun p hp => N p (by rcases List.mem_cons.mp hp with rfl | hp; exact hl; exact hs p hp)) hr hsz h
theorem lenW {prog : Program} {w : World} {A : Around} {E : Value → Shared → Prop} {s : Shared} {h₀ : Heap} {L D : Addr} {news : List (Addr × Obj)} {its : Array Value} {c n : Nat} {Q : Value → Shared → Prop} (N : News h₀ L s.heap news) (hm : (D, listOf its c) ∈ news) (hs : its.size = n) (hf : n ≤ 20) (h : Q (.int (n : Nat) (s.toks + 1)) { s with toks := s.toks + 1 + 1 }) :
    wpAny (model prog w) A (call (.builtin "len") [.ref D]) Q E s := by
  refine Calls.call_len_list (News.isList N hm) (by omega) ?_
  rw [hs]
  exact h
local macro_rules | `(tactic| walk_at "call ref") => `(tactic| refine held ?_)
local macro_rules | `(tactic| walk_at "call builtin:list.append") => `(tactic| refine held ?_)
local macro_rules | `(tactic| walk_at "compareOp NotEq ref ref") => `(tactic| refine held ?_)
local macro_rules | `(tactic| walk_at "compareOp NotEq str str") => `(tactic| refine held ?_)
noncomputable def rnRest : {b : List Stmt // rnBody.1.drop 3 = b} := by
  refine' ⟨_, _⟩
  rotate_left
  · (conv => lhs; whnf)
theorem kept_apart {h₀ h h' : Heap} {L : Addr} {new X : List (Addr × Obj)} (k : Kept h h' new) (N : News h₀ L h X) : ∀ p ∈ new, ∀ q ∈ X, q.1 ≠ p.1 := by
  intro p hp q hq e
  have a := (k.2 p hp).2
  have b := (N q hq).1
  rw [e, a] at b
  cases b
theorem ne_strs {prog : Program} {w : World} {A : Around} {E : Value → Shared → Prop} {s : Shared} {a b : Str} {ta tb : Tok} {Q : Value → Shared → Prop} (h : Q (.bool (!decide (a = b))) s) : wpAny (model prog w) A (compareOp .NotEq (.str a ta) (.str b tb)) Q E s := by
  refine P.ne_str ?_
  have e : (a.cps.toList != b.cps.toList) = !decide (a = b) := by
    by_cases q : a = b
    · rw [decide_eq_true q, q]; simp
    · rw [decide_eq_false q]
      have : a.cps.toList ≠ b.cps.toList := fun h => q (str_ext h)
      simpa using this
  rw [e]
  exact h
set_option maxHeartbeats 4000000 in
theorem run_old (w : World) {p : Program} {loose : List Str} {mean : ExcName → Option Value} {mg mb : Str → Option Value} {A₀ : Around} {base g : Heap} {outer : List Env} {L ll rl : Addr} {s : Shared} {lv rv : List Value} {le re : Nat} {ns : List Int} {R : List (Addr × Obj)} {m₁ : Str → Option Value} {Post : Flow → Shared → Prop} {z st : Str} {tz ts : Tok}
    (B : Below A₀ base outer g) (X : (K w.params).In g) (T : Top p loose mean mg mb g) (F : Fr g L s.heap m₁) (N : News g L s.heap ((rl, listOf rv.toArray re) :: (ll, listOf lv.toArray le) :: R))
    (f1 : m₁ (Str.ofString "leads") = some (.ref ll)) (f2 : m₁ (Str.ofString "row") = some (.ref rl)) (f3 : m₁ (Str.ofString "told") = some (.str z tz)) (f4 : m₁ (Str.ofString "step") = some (.str st ts))
    (hI : IntsAre rv ns) (hb : Bin ns) (hn0 : 1 ≤ ns.length) (hn : ns.length ≤ 9) (hlz : lv.toArray.size ≤ sizeLine) (a1 : rl ≠ ll) (a2 : ∀ q ∈ R, q.1 ≠ ll) (hne : z ≠ st)
    (hJ : ∀ x led m' h' tk, LeadL w x (leadOf ns) led → Fr g L h' m' → News g L h' ((ll, listOf (lv ++ [Value.ref x]).toArray (le + 1)) :: (led ++ ((rl, listOf rv.toArray re) :: R))) → (∀ p ∈ led, ∀ q ∈ ((rl, listOf rv.toArray re) :: (ll, listOf lv.toArray le) :: R), q.1 ≠ p.1) →
      m' (Str.ofString "kept") = some (.str z tz) → (∀ y, y ≠ Str.ofString "kept" → m' y = m₁ y) → Post .next { s with heap := h', toks := tk }) :
    wpAny (model PySem.Challenge.rw_tp0056_01.row.prog w) (ktrTop 501 5003 (some []) (Str.ofString "_law_run") ls320.1 L 320 (.ref 319) [] outer) (execs rnRest.1 (envOf (Str.ofString "_law_run") ls320.1 L 320 (.ref 319))) Post (fun _ _ => False) s := by
  have hMk := kstMark
  have em := names4 f1 f2 f3 f4
  rw [em] at F
  dsimp only [rnRest, ls320]
  k_steps
  unfold Held
  rename Fr g _ _ _ => F1
  refine lead_spec w B F1 X T rfl (Nat.le_of_ble_eq_true rfl) (Nat.le_of_ble_eq_true rfl) (News.isList N (.head _)) hI hb hn0 hn ?_
  intro x led h2 tk2 hx k2
  have F2 := k2.fr F1
  have N2 := k2.news F1 N
  have ap := kept_apart k2 N
  k_steps
  unfold Held
  refine append_X (rest := led ++ ((rl, listOf rv.toArray re) :: R)) F2 N2 (List.mem_append_right _ (.tail _ (.head _))) (fun p hp => by simp only [List.mem_append, List.mem_cons] at hp ⊢; grind) (fun p hp => ?_) hlz ?_
  · rcases List.mem_append.mp hp with hp | hp
    · exact (ap p hp _ (.tail _ (.head _))).symm
    · rcases List.mem_cons.mp hp with rfl | hp
      · exact a1
      · exact a2 p hp
  intro h3 F3 N3
  rw [List.push_toArray] at N3
  k_steps
  unfold Held
  refine ne_strs ?_
  rw [decide_eq_false hne]
  k_steps
  rename Fr g _ _ _ => F4
  rename News g _ _ _ => N4
  refine hJ x led _ _ _ hx F4 N4 ap rfl fun y hy => ?_
  rw [if_neg hy]
  exact (congrFun em y).symm
theorem names6 {m : Str → Option Value} {a b c d e f : Str} {v1 v2 v3 v4 v5 v6 : Value} (h1 : m a = some v1) (h2 : m b = some v2) (h3 : m c = some v3) (h4 : m d = some v4) (h5 : m e = some v5) (h6 : m f = some v6) :
    m = fun y => if y = a then some v1 else if y = b then some v2 else if y = c then some v3 else if y = d then some v4 else if y = e then some v5 else if y = f then some v6 else m y := by
  funext y
  by_cases q : y = a
  · rw [if_pos q, q, h1]
  · rw [if_neg q]
    by_cases q : y = b
    · rw [if_pos q, q, h2]
    · rw [if_neg q]
      by_cases q : y = c
      · rw [if_pos q, q, h3]
      · rw [if_neg q]
        by_cases q : y = d
        · rw [if_pos q, q, h4]
        · rw [if_neg q]
          by_cases q : y = e
          · rw [if_pos q, q, h5]
          · rw [if_neg q]
            by_cases q : y = f
            · rw [if_pos q, q, h6]
            · rw [if_neg q]
theorem tab_ne_list {g h : Heap} {L D : Addr} {us : Array Value} {n : Nat} {tcl X : List (Addr × Obj)} (hT : TabL tcl) (N : News g L h X) (h1 : ∀ p ∈ tcl, p ∈ X) (h2 : (D, listOf us n) ∈ X) : ∀ p ∈ tcl, D ≠ p.1 := by
  intro p hp e
  obtain ⟨vs, hv⟩ := hT.fields p hp
  have a := (N _ (h1 p hp)).1
  have b := (N _ h2).1
  dsimp only at b
  rw [e, a] at b
  have c := Option.some.inj b
  rw [c] at hv
  cases hv
set_option maxHeartbeats 4000000 in
theorem run_new (w : World) {p : Program} {loose : List Str} {mean : ExcName → Option Value} {mg mb : Str → Option Value} {A₀ : Around} {base g : Heap} {outer : List Env} {L ll rl wl : Addr} {s : Shared} {lv rv wv : List Value} {le re we : Nat} {ns : List Int} {R tcl : List (Addr × Obj)} {m₁ : Str → Option Value} {Post : Flow → Shared → Prop} {z : Str} {tz ts tw : Tok}
    (B : Below A₀ base outer g) (X : (K w.params).In g) (T : Top p loose mean mg mb g) (C : CodeHd g 58 54) (F : Fr g L s.heap m₁) (N : News g L s.heap ((rl, listOf rv.toArray re) :: (ll, listOf lv.toArray le) :: (wl, listOf wv.toArray we) :: (tcl ++ R)))
    (f1 : m₁ (Str.ofString "leads") = some (.ref ll)) (f2 : m₁ (Str.ofString "row") = some (.ref rl)) (f3 : m₁ (Str.ofString "told") = some (.str z tz)) (f4 : m₁ (Str.ofString "step") = some (.str z ts)) (f5 : m₁ (Str.ofString "words") = some (.ref wl)) (f6 : m₁ (Str.ofString "word") = some (.str (wordT ns) tw))
    (hI : IntsAre rv ns) (hb : Bin ns) (hn0 : 1 ≤ ns.length) (hn : ns.length ≤ 9) (hlz : lv.toArray.size ≤ sizeLine) (hwz : wv.toArray.size ≤ sizeLine) (a1 : rl ≠ ll) (a2 : ∀ q ∈ (wl, listOf wv.toArray we) :: (tcl ++ R), q.1 ≠ ll) (a3 : rl ≠ wl) (a4 : ∀ q ∈ tcl ++ R, q.1 ≠ wl) (a5 : ∀ p ∈ tcl, ∀ q ∈ (rl, listOf rv.toArray re) :: R, q.1 ≠ p.1) (hT : TabL tcl) (hre : roundOf ns = aloneT ns)
    (hJ : ∀ x led D us e tcl' m' h' tk, LeadL w x (leadOf ns) led → IntsAre us (roundOf ns) → TabL tcl' → Fr g L h' m' → News g L h' ((ll, listOf (lv ++ [Value.ref x]).toArray (le + 1)) :: (wl, listOf (wv ++ [Value.str (wordT ns) tw]).toArray (we + 1)) :: (tcl' ++ ((D, listOf (us : List Value).toArray e) :: (led ++ ((rl, listOf rv.toArray re) :: R))))) →
      (∀ p ∈ led, ∀ q ∈ ((rl, listOf rv.toArray re) :: (ll, listOf lv.toArray le) :: (wl, listOf wv.toArray we) :: (tcl ++ R)), q.1 ≠ p.1) →
      (∀ p ∈ tcl' ++ [(D, listOf us.toArray e)], ∀ q ∈ ((ll, listOf (lv ++ [Value.ref x]).toArray (le + 1)) :: (wl, listOf (wv ++ [Value.str (wordT ns) tw]).toArray (we + 1)) :: (led ++ ((rl, listOf rv.toArray re) :: R))), q.1 ≠ p.1) → (∀ p ∈ tcl', D ≠ p.1) →
      m' (Str.ofString "row") = some (.ref D) → (∀ y, y ≠ Str.ofString "row" → m' y = m₁ y) → Post .next { s with heap := h', toks := tk }) :
    wpAny (model PySem.Challenge.rw_tp0056_01.row.prog w) (ktrTop 501 5003 (some []) (Str.ofString "_law_run") ls320.1 L 320 (.ref 319) [] outer) (execs rnRest.1 (envOf (Str.ofString "_law_run") ls320.1 L 320 (.ref 319))) Post (fun _ _ => False) s := by
  have hMk := kstMark
  have em := names6 f1 f2 f3 f4 f5 f6
  rw [em] at F
  dsimp only [rnRest, ls320]
  k_steps
  unfold Held
  rename Fr g _ _ _ => F1
  refine lead_spec w B F1 X T rfl (Nat.le_of_ble_eq_true rfl) (Nat.le_of_ble_eq_true rfl) (News.isList N (.head _)) hI hb hn0 hn ?_
  intro x led h2 tk2 hx k2
  have F2 := k2.fr F1
  have N2 := k2.news F1 N
  have ap := kept_apart k2 N
  k_steps
  unfold Held
  refine append_X (rest := (wl, listOf wv.toArray we) :: (tcl ++ (led ++ ((rl, listOf rv.toArray re) :: R)))) F2 N2 (List.mem_append_right _ (.tail _ (.head _))) (fun p hp => by simp only [List.mem_append, List.mem_cons] at hp ⊢; grind) (fun p hp => ?_) hlz ?_
  · simp only [List.mem_append, List.mem_cons] at hp
    rcases hp with rfl | hp | hp | rfl | hp
    · exact a2 _ (.head _)
    · exact a2 p (.tail _ (List.mem_append_left _ hp))
    · exact (ap p hp _ (.tail _ (.head _))).symm
    · exact a1
    · exact a2 p (.tail _ (List.mem_append_right _ hp))
  intro h3 F3 N3
  rw [List.push_toArray] at N3
  k_steps
  unfold Held
  refine ne_strs ?_
  rw [decide_eq_true (rfl : z = z)]
  k_steps
  unfold Held
  rename Fr g _ _ _ => F4
  refine append_X (rest := (ll, listOf (lv ++ [Value.ref x]).toArray (le + 1)) :: (tcl ++ (led ++ ((rl, listOf rv.toArray re) :: R)))) F4 N3 (.tail _ (.head _)) (fun p hp => by simp only [List.mem_append, List.mem_cons] at hp ⊢; grind) (fun p hp => ?_) hwz ?_
  · simp only [List.mem_append, List.mem_cons] at hp
    rcases hp with rfl | hp | hp | rfl | hp
    · exact (a2 _ (.head _)).symm
    · exact a4 p (List.mem_append_left _ hp)
    · exact (ap p hp _ (.tail _ (.tail _ (.head _)))).symm
    · exact a3
    · exact a4 p (List.mem_append_right _ hp)
  intro h5 F5 N5
  rw [List.push_toArray] at N5
  k_steps
  unfold Held
  rename Fr g _ _ _ => F6
  refine round_spec w (led := tcl) (rest := (ll, listOf (lv ++ [Value.ref x]).toArray (le + 1)) :: (wl, listOf (wv ++ [Value.str (wordT ns) tw]).toArray (we + 1)) :: (led ++ ((rl, listOf rv.toArray re) :: R))) B F6 X T rfl (Nat.le_of_ble_eq_true rfl) (Nat.le_of_ble_eq_true rfl) (fun p hp => N5 p (by simp only [List.mem_append, List.mem_cons] at hp ⊢; grind)) (fun p hp q hq => ?_) hT C (News.isList N5 (show (rl, listOf rv.toArray re) ∈ _ from by simp only [List.mem_append, List.mem_cons]; grind)) hI hb hn0 hn ?_
  · simp only [List.mem_append, List.mem_cons] at hq
    rcases hq with rfl | rfl | hq | rfl | hq
    · exact (a2 p (.tail _ (List.mem_append_left _ hp))).symm
    · exact (a4 p (List.mem_append_left _ hp)).symm
    · exact (ap q hq p (.tail _ (.tail _ (.tail _ (List.mem_append_left _ hp))))).symm
    · exact a5 p hp _ (.head _)
    · exact a5 p hp q (.tail _ hq)
  intro D us e tcl' h7 tk7 hus hT' F7 N7 ap7
  k_steps
  unfold Held
  rename Fr g _ _ _ => F8
  rename News g _ _ _ => N8
  refine alone_spec w B F8 X T rfl (Nat.le_of_ble_eq_true rfl) (Nat.le_of_ble_eq_true rfl) (by rw [word_len hb]; exact hn0) (by rw [word_len hb]; exact hn) ?_
  intro al avs ae h9 tk9 hal k9
  have F9 := k9.fr F8
  have N9 := k9.news F8 N8
  k_steps
  unfold Held
  have hal' : IntsAre avs (aloneT ns) := hal
  refine ke_ne_ints (News.isList N9 (show (D, listOf us.toArray e) ∈ _ from by simp only [List.mem_append, List.mem_cons]; grind)) (News.isList N9 (.head _)) hus hal' (Nat.le_of_ble_eq_true rfl) ?_
  rw [hre, decide_eq_true (rfl : aloneT ns = aloneT ns)]
  k_steps
  rename Fr g _ _ _ => F10
  rename News g _ _ _ => N10
  refine hJ x led D us e tcl' _ _ _ hx hus hT' F10 (fun p hp => N10 p (by simp only [List.mem_append, List.mem_cons] at hp ⊢; grind)) ap ap7 (tab_ne_list hT' N10 (fun p hp => by simp only [List.mem_append, List.mem_cons]; grind) (show (D, listOf us.toArray e) ∈ _ from by simp only [List.mem_append, List.mem_cons]; grind)) rfl fun y hy => ?_
  rw [if_neg hy]
  exact (congrFun em y).symm
end Mine
end
section
open PySem PySem.W PyProof.Rows PySem.Calls PyProof.V PySem.Spec
namespace Mine
theorem fillRn1 (w : World) (h : Heap) : (K w.params).In h → PySem.Challenge.rw_tp0056_01.foot = 8 := by
  k_fill
  intro _
  rfl
local macro_rules | `(tactic| walk_at "s1") => `(tactic| first | (k_unfold; (try dsimp only)) | walk1 | (dsimp only; walk1))
local macro_rules | `(tactic| walk_at "call builtin:len") => `(tactic| (k_dflt (refine lenW (by assumption) (by k_mem) (by assumption) (by assumption) ?_)))
local macro_rules | `(tactic| walk_at "KswEnd") => `(tactic| refine held ?_)
local macro_rules | `(tactic| walk_at "call ref") => `(tactic| refine held ?_)
local macro_rules | `(tactic| walk_at "call builtin:list.append") => `(tactic| refine held ?_)
local macro_rules | `(tactic| walk_at "call builtin:str.join") => `(tactic| refine held ?_)
local macro_rules | `(tactic| walk_at "call builtin:str.upper") => `(tactic| refine held ?_)
local macro_rules | `(tactic| walk_at "CompSrc") => `(tactic| refine held ?_)
local macro_rules | `(tactic| walk_at "compareOp NotEq ref ref") => `(tactic| refine held ?_)
local macro_rules | `(tactic| walk_at "eval ListComp") => `(tactic| (k_dflt (refine LCg.ListComp_U (F₀ := by k_asm) (by with_unfolding_all rfl) (by decide) (by rfl) (by decide) (by rfl) ?_)))
theorem tab_addr {w : World} {tb d hl : Addr} {kt : Tok} {tv tv' : List Value} {te te' : Nat} {q : Addr × Obj} (h : q ∈ tabLed w tb d hl kt tv te) : ∃ q' ∈ tabLed w tb d hl kt tv' te', q'.1 = q.1 := by
  rcases List.mem_cons.mp h with rfl | h
  · exact ⟨_, .head _, rfl⟩
  · rcases List.mem_cons.mp h with rfl | h
    · exact ⟨_, .tail _ (.head _), rfl⟩
    · rw [List.mem_singleton.mp h]
      exact ⟨_, .tail _ (.tail _ (.head _)), rfl⟩
theorem news_re {g h : Heap} {L : Addr} {r a b o : Addr × Obj} {T tcl I : List (Addr × Obj)} (N : News g L h (T ++ [o] ++ (b :: a :: (tcl ++ I)))) (hr : r ∈ I) : News g L h (r :: a :: b :: (tcl ++ (T ++ (o :: I)))) := fun p hp => N p (by
  rcases List.mem_cons.mp hp with rfl | hp
  · exact List.mem_append_right _ (.tail _ (.tail _ (List.mem_append_right _ hr)))
  · rcases List.mem_cons.mp hp with rfl | hp
    · exact List.mem_append_right _ (.tail _ (.head _))
    · rcases List.mem_cons.mp hp with rfl | hp
      · exact List.mem_append_right _ (.head _)
      · rcases List.mem_append.mp hp with hp | hp
        · exact List.mem_append_right _ (.tail _ (.tail _ (List.mem_append_left _ hp)))
        · rcases List.mem_append.mp hp with hp | hp
          · exact List.mem_append_left _ (List.mem_append_left _ hp)
          · rcases List.mem_cons.mp hp with rfl | hp
            · exact List.mem_append_left _ (List.mem_append_right _ (.head _))
            · exact List.mem_append_right _ (.tail _ (.tail _ (List.mem_append_right _ hp))))
theorem news_re2 {g h : Heap} {L : Addr} {r a b d o : Addr × Obj} {T tcl led I : List (Addr × Obj)} (N : News g L h (a :: b :: (tcl ++ (d :: (led ++ (r :: (T ++ (o :: I)))))))) : News g L h (b :: a :: (T ++ (tcl ++ (d :: (led ++ (o :: I)))))) := fun p hp => N p (by
  rcases List.mem_cons.mp hp with rfl | hp
  · exact .tail _ (.head _)
  · rcases List.mem_cons.mp hp with rfl | hp
    · exact .head _
    · rcases List.mem_append.mp hp with hp | hp
      · exact .tail _ (.tail _ (List.mem_append_right _ (.tail _ (List.mem_append_right _ (.tail _ (List.mem_append_left _ hp))))))
      · rcases List.mem_append.mp hp with hp | hp
        · exact .tail _ (.tail _ (List.mem_append_left _ hp))
        · rcases List.mem_cons.mp hp with rfl | hp
          · exact .tail _ (.tail _ (List.mem_append_right _ (.head _)))
          · rcases List.mem_append.mp hp with hp | hp
            · exact .tail _ (.tail _ (List.mem_append_right _ (.tail _ (List.mem_append_left _ hp))))
            · exact .tail _ (.tail _ (List.mem_append_right _ (.tail _ (List.mem_append_right _ (.tail _ (List.mem_append_right _ hp)))))))
noncomputable def keyE : {e : Expr // (match rnBody.1 with | _ :: _ :: .Assign _ (.Call _ (e :: _) _ _) _ :: _ => e | _ => .Constant .none 0 default) = e} := by
  refine' ⟨_, _⟩
  rotate_left
  · (conv => lhs; whnf)
theorem fmod2 (n : Nat) : (n : Int).fmod 2 = (n : Int) % 2 := Int.fmod_eq_emod_of_nonneg _ (by decide)
set_option maxHeartbeats 4000000 in
theorem key_eval (w : World) {p : Program} {loose : List Str} {mean : ExcName → Option Value} {mg mb : Str → Option Value} {g : Heap} {outer : List Env} {L wl : Addr} {s : Shared} {wv : List Value} {we : Nat} {ns : List Int} {ws : List (List Int)} {NW : List (Addr × Obj)} {m₁ : Str → Option Value} {Q : Value → Shared → Prop} {tw : Tok}
    (X : (K w.params).In g) (T : Top p loose mean mg mb g) (F : Fr g L s.heap m₁) (N : News g L s.heap ((wl, listOf wv.toArray we) :: NW)) (f1 : m₁ (Str.ofString "words") = some (.ref wl)) (f2 : m₁ (Str.ofString "word") = some (.str (wordT ns) tw))
    (hlj : (wordT ns).length ≤ 9) (hsw : wv.toArray.size = ws.length) (hwl : ws.length ≤ 20) (h : ∀ t tk, Q (.str (keyT ws.length ns) t) { s with toks := tk }) :
    wpAny (model PySem.Challenge.rw_tp0056_01.row.prog w) (ktrTop 501 5003 (some []) (Str.ofString "_law_run") ls320.1 L 320 (.ref 319) [] outer) (eval keyE.1 (envOf (Str.ofString "_law_run") ls320.1 L 320 (.ref 319))) Q (fun _ _ => False) s := by
  have hMk := kstMark
  rw [two_names f1 f2] at F
  dsimp only [keyE, ls320]
  generalize hx : wordT ns = x at *
  k_steps
  · unfold Held
    refine SCL.upper (by omega) ?_
    intro hul
    rename (_ ≠ _) => hm
    rw [fmod2] at hm
    have e : Txt.upper x = keyT ws.length ns := by unfold keyT; rw [if_pos hm, hx]
    rw [e]
    exact h _ _
  · rename (_ = _) => hm
    rw [fmod2] at hm
    have e : x = keyT ws.length ns := by unfold keyT; rw [if_neg (fun q => q hm), hx]
    rw [e]
    exact h _ _
local macro_rules | `(tactic| walk_at "eval IfExp") => `(tactic| refine held ?_)
set_option maxHeartbeats 4000000 in
theorem run_turn (w : World) {p : Program} {loose : List Str} {mean : ExcName → Option Value} {mg mb : Str → Option Value} {A₀ : Around} {base g : Heap} {outer : List Env} {L wl ll rl tb d hl : Addr} {s : Shared} {wv lv rv tv : List Value} {we le re te : Nat} {kt : Tok} {ns : List Int} {ws lrows : List (List Int)} {I tl ldl tcl : List (Addr × Obj)} {m₁ : Str → Option Value} {Post : Flow → Shared → Prop}
    (B : Below A₀ base outer g) (X : (K w.params).In g) (T : Top p loose mean mg mb g) (C : CodeHd g 58 54) (F : Fr g L s.heap m₁) (N : News g L s.heap ((wl, listOf wv.toArray we) :: (ll, listOf lv.toArray le) :: (tabLed w tb d hl kt tv te ++ (tcl ++ I))))
    (f1 : m₁ (Str.ofString "words") = some (.ref wl)) (f2 : m₁ (Str.ofString "leads") = some (.ref ll)) (f3 : m₁ (Str.ofString "row") = some (.ref rl)) (f4 : m₁ (Str.ofString "table") = some (.ref tb))
    (hrl : (rl, listOf rv.toArray re) ∈ I) (hI : IntsAre rv ns) (hb : Bin ns) (hn0 : 1 ≤ ns.length) (hn : ns.length ≤ 9)
    (hws : StrsAre wv (ws.map wordT)) (hwl : ws.length ≤ 20) (hwb : ∀ r ∈ ws, Bin r ∧ r.length ≤ 9)
    (hlv : LeadsL w lv ldl lrows) (hll : lrows.length ≤ 20) (hldl : ∀ p ∈ ldl, p ∈ I) (htv : PairsL tl tv (tabOf 0 ws)) (htl : ∀ p ∈ tl, p ∈ I) (hT : TabL tcl)
    (a0 : ll ≠ wl) (a1 : ∀ q ∈ tabLed w tb d hl kt tv te ++ (tcl ++ I), q.1 ≠ wl) (a2 : ∀ q ∈ tabLed w tb d hl kt tv te ++ (tcl ++ I), q.1 ≠ ll) (a3 : ∀ p ∈ tabLed w tb d hl kt tv te, ∀ q ∈ tcl ++ I, q.1 ≠ p.1) (a4 : ∀ p ∈ tcl, ∀ q ∈ I, q.1 ≠ p.1) (a5 : d ≠ tb ∧ hl ≠ tb ∧ hl ≠ d)
    (hre : roundOf ns = aloneT ns) (hzz : tv.toArray.size ≤ sizeLine)
    (jOld : ∀ i x led tz m' h' tk, findRow ws ns = some i → LeadL w x (leadOf ns) led → Fr g L h' m' → News g L h' ((wl, listOf wv.toArray we) :: (ll, listOf (lv ++ [Value.ref x]).toArray (le + 1)) :: (tabLed w tb d hl kt tv te ++ (tcl ++ (led ++ I)))) →
      (∀ p ∈ led, ∀ q ∈ ((wl, listOf wv.toArray we) :: (ll, listOf lv.toArray le) :: (tabLed w tb d hl kt tv te ++ (tcl ++ I))), q.1 ≠ p.1) →
      m' (Str.ofString "kept") = some (.str (stepT i) tz) → (∀ y, y ≠ Str.ofString "kept" → y ≠ Str.ofString "told" → y ≠ Str.ofString "step" → y ≠ Str.ofString "word" → m' y = m₁ y) → Post .next { s with heap := h', toks := tk })
    (jNew : ∀ x led D us e tcl' D0 t1 t2 tw m' h' tk, findRow ws ns = none → LeadL w x (leadOf ns) led → IntsAre us (roundOf ns) → TabL tcl' → Fr g L h' m' →
      News g L h' ((wl, listOf (wv ++ [Value.str (wordT ns) tw]).toArray (we + 1)) :: (ll, listOf (lv ++ [Value.ref x]).toArray (le + 1)) :: (tabLed w tb d hl kt (tv ++ [Value.ref D0]) (te + 1) ++ (tcl' ++ ((D, listOf (us : List Value).toArray e) :: (led ++ ((D0, tupOf #[.str (keyT ws.length ns) t1, .str (stepT ws.length) t2]) :: I)))))) →
      (∀ q ∈ ((D, listOf us.toArray e) :: (led ++ [(D0, tupOf #[.str (keyT ws.length ns) t1, .str (stepT ws.length) t2])])) ++ tcl', ∀ p ∈ ((wl, listOf wv.toArray we) :: (ll, listOf lv.toArray le) :: tabLed w tb d hl kt tv te), q.1 ≠ p.1) →
      (∀ p ∈ tcl', ∀ q ∈ ((D, listOf us.toArray e) :: (led ++ ((D0, tupOf #[.str (keyT ws.length ns) t1, .str (stepT ws.length) t2]) :: I))), q.1 ≠ p.1) →
      m' (Str.ofString "row") = some (.ref D) → (∀ y, y ≠ Str.ofString "row" → y ≠ Str.ofString "told" → y ≠ Str.ofString "step" → y ≠ Str.ofString "word" → m' y = m₁ y) → Post .next { s with heap := h', toks := tk }) :
    wpAny (model PySem.Challenge.rw_tp0056_01.row.prog w) (ktrTop 501 5003 (some []) (Str.ofString "_law_run") ls320.1 L 320 (.ref 319) [] outer) (execs rnBody.1 (envOf (Str.ofString "_law_run") ls320.1 L 320 (.ref 319))) Post (fun _ _ => False) s := by
  have hMk := kstMark
  have em := names4 f1 f2 f3 f4
  rw [em] at F
  dsimp only [rnBody, ls320]
  have N1 : News g L s.heap ((rl, listOf rv.toArray re) :: (wl, listOf wv.toArray we) :: (ll, listOf lv.toArray le) :: (tb, instObj 282 d) :: (d, dictOf [⟨PyData.keyHash w.params (Str.ofString "_headers"), .str (Str.ofString "_headers") kt, .ref hl⟩] 1) :: (hl, listOf tv.toArray te) :: (tcl ++ I)) := fun p hp => N p (by
    rcases List.mem_cons.mp hp with rfl | hp
    · exact .tail _ (.tail _ (List.mem_append_right _ (List.mem_append_right _ hrl)))
    · exact hp)
  clear N
  generalize hR : tcl ++ I = R at N1
  have hrz : rv.toArray.size ≤ sizeLine := by rw [List.size_toArray, hI.length]; exact Nat.le_trans hn (by decide)
  k_steps
  unfold Held
  rename Fr g _ _ _ => F1
  refine LCg.CompSrc.ledger rfl F1 N1 (.head _) hrz ?_
  intro g'
  refine kct_list (fun k => Txt.item (Str.ofString "ab") k) hI ?_ ?_
  · intro k t I oI C oC D m₂ ys h tk E' hk hC hx F2 N2 off ne _
    rcases hb k hk with rfl | rfl
    all_goals k_steps
    all_goals rename Fr _ _ _ _ => F3
    all_goals rename News _ _ _ _ => N3
    all_goals exact LCg.CompEnd.intro F3 N3 _ (fun p hp => hp) off (Or.inr ⟨_, .head _, rfl, _, rfl⟩) (kct_el rfl rfl rfl)
  · unfold KPfDone
    intro ys hc hlen D h tk F2 N2 off
    clear F1 N1
    k_steps
    unfold Held
    refine KT.join_1 (News.isList N2 (.head _)) hc (fun _ _ => rfl) (Nat.le_trans hn (by decide)) ?_
    intro t' k' hlj
    have hwd : Txt.join (Str.ofString "") (ns.map fun a => Txt.item (Str.ofString "ab") a) = wordT ns := rfl
    rw [hwd] at hlj ⊢
    have hwn := hws.length
    generalize hx : wordT ns = x at hlj ⊢
    have hsw : wv.toArray.size = ws.length := by rw [List.size_toArray, hwn, List.length_map]
    k_steps
    unfold Held
    rename Fr g _ _ _ => F3
    rename News g _ _ _ => N3
    subst hx
    refine key_eval w (ws := ws) X T F3 (fun p hp => N3 p (by rcases List.mem_cons.mp hp with rfl | hp; exact .tail _ (.tail _ (.head _)); exact hp)) rfl rfl (by rw [hlj]; exact hn) hsw hwl ?_
    intro tkey tk3
    k_steps
    unfold Held
    subst hR
    have nW : ∀ p ∈ tabLed w tb d hl kt tv te ++ ((wl, listOf wv.toArray we) :: (ll, listOf lv.toArray le) :: (tcl ++ I)), p ∈ (D, LCg.lst ys) :: (rl, listOf rv.toArray re) :: (wl, listOf wv.toArray we) :: (ll, listOf lv.toArray le) :: (tabLed w tb d hl kt tv te ++ (tcl ++ I)) := by
      intro p hp
      rcases List.mem_append.mp hp with h | h
      · exact .tail _ (.tail _ (.tail _ (.tail _ (List.mem_append_left _ h))))
      · rcases List.mem_cons.mp h with rfl | h
        · exact .tail _ (.tail _ (.head _))
        · rcases List.mem_cons.mp h with rfl | h
          · exact .tail _ (.tail _ (.tail _ (.head _)))
          · exact .tail _ (.tail _ (.tail _ (.tail _ (List.mem_append_right _ h))))
    have N3' : News g L _ (tabLed w tb d hl kt tv te ++ ((wl, listOf wv.toArray we) :: (ll, listOf lv.toArray le) :: (tcl ++ I))) := fun p hp => N3 p (nW p hp)
    have hwb' : ∀ r ∈ ws, Bin r := fun r hr => (hwb r hr).1
    have hlook := look_tab 0 ws ns hwb' hb
    rw [← key_low (i := ws.length) hb] at hlook
    have hlz : lv.toArray.size ≤ sizeLine := by rw [List.size_toArray, hlv.length]; exact Nat.le_trans hll (by decide)
    have hwz : wv.toArray.size ≤ sizeLine := by rw [hsw]; exact Nat.le_trans hwl (by decide)
    have rI : ∀ q ∈ I, q ∈ tabLed w tb d hl kt tv te ++ (tcl ++ I) := fun q hq => List.mem_append_right _ (List.mem_append_right _ hq)
    clear N3 nW
    refine set_spec w B F3 X T rfl (Nat.le_of_ble_eq_true rfl) (Nat.le_of_ble_eq_true rfl) (rest := (wl, listOf wv.toArray we) :: (ll, listOf lv.toArray le) :: (tcl ++ I)) (vs := tv) (e := te) (ps := tabOf 0 ws) N3' ?_ a5 (htv.are (fun p hp => N3' p (List.mem_append_right _ (.tail _ (.tail _ (List.mem_append_right _ (htl p hp))))))) (by rw [key_low hb]; exact fun c hc => ab_fine c (word_ab hb c hc)) (key_fine hb) (step_fine ws.length (by omega)) (by rw [key_len hb]; omega) (tab_keys 0 ws hwb) hzz ?_ ?_
    · intro p hp q hq
      rcases List.mem_cons.mp hq with rfl | hq
      · exact (a1 p (List.mem_append_left _ hp)).symm
      · rcases List.mem_cons.mp hq with rfl | hq
        · exact (a2 p (List.mem_append_left _ hp)).symm
        · exact a3 p hp q hq
    · intro z t4 h4 tk4 hz F4 N4 _
      rw [hz] at hlook
      cases hf : findRow ws ns with
      | none => rw [hf] at hlook; cases hlook
      | some i =>
        rw [hf] at hlook
        have hzi : z = stepT i := by
          have := Option.some.inj hlook
          rw [this]
          show stepT (0 + i) = stepT i
          rw [Nat.zero_add]
        subst hzi
        have hil : i < ws.length := (List.findIdx?_eq_some_iff_getElem.mp hf).1
        iterate 2 (walk_at "s1")
        rename Fr g _ _ _ => F5
        rename News g _ _ _ => N5
        have nR : ∀ p ∈ (rl, listOf rv.toArray re) :: (ll, listOf lv.toArray le) :: (wl, listOf wv.toArray we) :: (tabLed w tb d hl kt tv te ++ (tcl ++ I)), p ∈ tabLed w tb d hl kt tv te ++ ((wl, listOf wv.toArray we) :: (ll, listOf lv.toArray le) :: (tcl ++ I)) := by
          intro p hp
          rcases List.mem_cons.mp hp with rfl | hp
          · exact List.mem_append_right _ (.tail _ (.tail _ (List.mem_append_right _ hrl)))
          · rcases List.mem_cons.mp hp with rfl | hp
            · exact List.mem_append_right _ (.tail _ (.head _))
            · rcases List.mem_cons.mp hp with rfl | hp
              · exact List.mem_append_right _ (.head _)
              · rcases List.mem_append.mp hp with hp | hp
                · exact List.mem_append_left _ hp
                · exact List.mem_append_right _ (.tail _ (.tail _ hp))
        refine run_old w (R := (wl, listOf wv.toArray we) :: (tabLed w tb d hl kt tv te ++ (tcl ++ I))) B X T F5 (fun p hp => N5 p (nR p hp)) rfl rfl rfl rfl hI hb hn0 hn hlz (a2 _ (rI _ hrl)) (fun q hq => ?_) (fun e => Nat.ne_of_lt hil (step_inj (by omega) (by omega) e)) ?_
        · rcases List.mem_cons.mp hq with rfl | hq
          · exact a0.symm
          · exact a2 q hq
        · intro x led m' h' tk hx F6 N6 ap6 g1 g2
          refine jOld i x led t4 m' h' _ hf hx F6 (fun p hp => N6 p ?_) (fun p hp q hq => ap6 p hp q ?_) g1 (fun y y1 y2 y3 y4 => ?_)
          · rcases List.mem_cons.mp hp with rfl | hp
            · exact .tail _ (List.mem_append_right _ (.tail _ (.head _)))
            · rcases List.mem_cons.mp hp with rfl | hp
              · exact .head _
              · rcases List.mem_append.mp hp with hp | hp
                · exact .tail _ (List.mem_append_right _ (.tail _ (.tail _ (List.mem_append_left _ hp))))
                · rcases List.mem_append.mp hp with hp | hp
                  · exact .tail _ (List.mem_append_right _ (.tail _ (.tail _ (List.mem_append_right _ (List.mem_append_left _ hp)))))
                  · rcases List.mem_append.mp hp with hp | hp
                    · exact .tail _ (List.mem_append_left _ hp)
                    · exact .tail _ (List.mem_append_right _ (.tail _ (.tail _ (List.mem_append_right _ (List.mem_append_right _ hp)))))
          · rcases List.mem_cons.mp hq with rfl | hq
            · exact .tail _ (.tail _ (.head _))
            · rcases List.mem_cons.mp hq with rfl | hq
              · exact .tail _ (.head _)
              · exact .tail _ (.tail _ (.tail _ hq))
          · rw [g2 y y1, if_neg y2, if_neg y3, if_neg y4]
            exact (congrFun em y).symm
    · intro D0 h4 tk4 hz F4 N4 _ apD
      rw [hz] at hlook
      cases hf : findRow ws ns with
      | some i => rw [hf] at hlook; cases hlook
      | none =>
        iterate 2 (walk_at "s1")
        rename Fr g _ _ _ => F5
        rename News g _ _ _ => N5
        have N6 := news_re N5 hrl
        refine run_new w B X T C F5 N6 rfl rfl rfl rfl rfl rfl hI hb hn0 hn hlz hwz (a2 _ (rI _ hrl)) (fun q hq => ?_) (a1 _ (rI _ hrl)) (fun q hq => ?_) (fun p hp q hq => ?_) hT hre ?_
        · rcases List.mem_cons.mp hq with rfl | hq
          · exact a0.symm
          · rcases List.mem_append.mp hq with hq | hq
            · exact a2 q (List.mem_append_right _ (List.mem_append_left _ hq))
            · rcases List.mem_append.mp hq with hq | hq
              · obtain ⟨q', h1, h2⟩ := tab_addr (tv' := tv) (te' := te) hq
                rw [← h2]; exact a2 q' (List.mem_append_left _ h1)
              · rcases List.mem_cons.mp hq with rfl | hq
                · exact (apD _ (List.mem_append_right _ (.tail _ (.head _)))).symm
                · exact a2 q (rI q hq)
        · rcases List.mem_append.mp hq with hq | hq
          · exact a1 q (List.mem_append_right _ (List.mem_append_left _ hq))
          · rcases List.mem_append.mp hq with hq | hq
            · obtain ⟨q', h1, h2⟩ := tab_addr (tv' := tv) (te' := te) hq
              rw [← h2]; exact a1 q' (List.mem_append_left _ h1)
            · rcases List.mem_cons.mp hq with rfl | hq
              · exact (apD _ (List.mem_append_right _ (.head _))).symm
              · exact a1 q (rI q hq)
        · rcases List.mem_cons.mp hq with rfl | hq
          · exact a4 p hp _ hrl
          · rcases List.mem_append.mp hq with hq | hq
            · obtain ⟨q', h1, h2⟩ := tab_addr (tv' := tv) (te' := te) hq
              rw [← h2]; exact (a3 q' h1 p (List.mem_append_left _ hp)).symm
            · rcases List.mem_cons.mp hq with rfl | hq
              · exact (apD _ (List.mem_append_right _ (.tail _ (.tail _ (List.mem_append_left _ hp))))).symm
              · exact a4 p hp q hq
        · intro x led D2 us e tcl' m' h' tk hx hus hT' F7 N7 ap1 ap2 ap3 g1 g2
          refine jNew x led D2 us e tcl' D0 _ _ _ m' h' _ hf hx hus hT' F7 (news_re2 N7) (fun q hq p hp => ?_) (fun p hp q hq => ?_) g1 (fun y y1 y2 y3 y4 => ?_)
          · -- new objects, the lists and the table
            rcases List.mem_append.mp hq with hq | hq
            · rcases List.mem_cons.mp hq with rfl | hq
              · have hD := ap2 (D2, listOf us.toArray e) (List.mem_append_right _ (.head _))
                rcases List.mem_cons.mp hp with rfl | hp
                · exact (hD _ (.tail _ (.head _))).symm
                · rcases List.mem_cons.mp hp with rfl | hp
                  · exact (hD _ (.head _)).symm
                  · obtain ⟨p', h1, h2⟩ := tab_addr (tv' := tv ++ [Value.ref D0]) (te' := te + 1) hp
                    rw [← h2]
                    exact (hD p' (.tail _ (.tail _ (List.mem_append_right _ (.tail _ (List.mem_append_left _ h1)))))).symm
              · rcases List.mem_append.mp hq with hq | hq
                · rcases List.mem_cons.mp hp with rfl | hp
                  · exact (ap1 q hq _ (.tail _ (.tail _ (.head _)))).symm
                  · rcases List.mem_cons.mp hp with rfl | hp
                    · exact (ap1 q hq _ (.tail _ (.head _))).symm
                    · obtain ⟨p', h1, h2⟩ := tab_addr (tv' := tv ++ [Value.ref D0]) (te' := te + 1) hp
                      rw [← h2]
                      exact (ap1 q hq p' (.tail _ (.tail _ (.tail _ (List.mem_append_right _ (List.mem_append_left _ h1)))))).symm
                · rw [List.mem_singleton.mp hq]
                  rcases List.mem_cons.mp hp with rfl | hp
                  · exact (apD _ (List.mem_append_right _ (.head _))).symm
                  · rcases List.mem_cons.mp hp with rfl | hp
                    · exact (apD _ (List.mem_append_right _ (.tail _ (.head _)))).symm
                    · exact (apD p (List.mem_append_left _ hp)).symm
            · have hD := ap2 q (List.mem_append_left _ hq)
              rcases List.mem_cons.mp hp with rfl | hp
              · exact (hD _ (.tail _ (.head _))).symm
              · rcases List.mem_cons.mp hp with rfl | hp
                · exact (hD _ (.head _)).symm
                · obtain ⟨p', h1, h2⟩ := tab_addr (tv' := tv ++ [Value.ref D0]) (te' := te + 1) hp
                  rw [← h2]
                  exact (hD p' (.tail _ (.tail _ (List.mem_append_right _ (.tail _ (List.mem_append_left _ h1)))))).symm
          · have hP := ap2 p (List.mem_append_left _ hp)
            rcases List.mem_cons.mp hq with rfl | hq
            · exact ap3 p hp
            · rcases List.mem_append.mp hq with hq | hq
              · exact hP q (.tail _ (.tail _ (List.mem_append_left _ hq)))
              · exact hP q (.tail _ (.tail _ (List.mem_append_right _ (.tail _ (List.mem_append_right _ hq)))))
          · rw [g2 y y1, if_neg y2, if_neg y3, if_neg y4]
            exact (congrFun em y).symm
end Mine
end
section
open PySem PySem.W PyProof.Rows PySem.Calls PyProof.V PySem.Spec
namespace Mine
theorem fillRun (w : World) (h : Heap) : (K w.params).In h → PySem.Challenge.rw_tp0056_01.foot = 8 := by
  k_fill
  intro _
  rfl
/-- the rows of a run, and the one it comes back to -/
noncomputable def runP : Nat → List (List Int) → List Int → Option (List (List Int) × Nat)
  | 0, _, _ => none
  | f + 1, ws, row => if roundOf row = aloneT row then match findRow ws row with
    | some i => some (ws, i)
    | none => runP f (ws ++ [row]) (roundOf row)
    else none
theorem runP_re {f : Nat} {ws : List (List Int)} {row : List Int} {r : List (List Int) × Nat} (h : runP (f + 1) ws row = some r) : roundOf row = aloneT row := by
  unfold runP at h
  by_cases e : roundOf row = aloneT row
  · exact e
  · rw [if_neg e] at h; cases h
theorem runP_old {f i : Nat} {ws : List (List Int)} {row : List Int} {r : List (List Int) × Nat} (h : runP (f + 1) ws row = some r) (hi : findRow ws row = some i) : r = (ws, i) := by
  have e := runP_re h
  unfold runP at h
  rw [if_pos e, hi] at h
  exact (Option.some.inj h).symm
theorem runP_new {f : Nat} {ws : List (List Int)} {row : List Int} {r : List (List Int) × Nat} (h : runP (f + 1) ws row = some r) (hi : findRow ws row = none) : runP f (ws ++ [row]) (roundOf row) = some r := by
  have e := runP_re h
  unfold runP at h
  rw [if_pos e, hi] at h
  exact h
theorem eq_strs {prog : Program} {w : World} {A : Around} {E : Value → Shared → Prop} {s : Shared} {a b : Str} {ta tb : Tok} {Q : Value → Shared → Prop} (h : Q (.bool (decide (a = b))) s) : wpAny (model prog w) A (compareOp .Eq (.str a ta) (.str b tb)) Q E s := by
  refine P.eq_str ?_
  have e : (a.cps.toList == b.cps.toList) = decide (a = b) := by
    by_cases q : a = b
    · rw [decide_eq_true q, q]; simp
    · rw [decide_eq_false q]
      have : a.cps.toList ≠ b.cps.toList := fun h => q (str_ext h)
      simpa using this
  rw [e]
  exact h
theorem alone_len {row : List Int} (h : Bin row) : (aloneT row).length = row.length := by
  unfold aloneT
  rw [List.length_map, rangeKs_length, word_len h]
theorem alone_bin (row : List Int) : Bin (aloneT row) := by
  intro k hk
  obtain ⟨j, _, rfl⟩ := List.mem_map.mp hk
  unfold aloneAt
  split
  · exact .inr rfl
  · exact .inl rfl
structure RnS where
  rl : Addr
  rv : List Value
  re : Nat
  wv : List Value
  we : Nat
  lv : List Value
  le : Nat
  tv : List Value
  te : Nat
  tcl : List (Addr × Obj)
  I : List (Addr × Obj)
  kept : Str
  tk : Tok
  μ : Nat
noncomputable abbrev rnLed (w : World) (wl ll tb d hl : Addr) (kt : Tok) (c : RnS) : List (Addr × Obj) := (wl, listOf c.wv.toArray c.we) :: (ll, listOf c.lv.toArray c.le) :: (tabLed w tb d hl kt c.tv c.te ++ (c.tcl ++ c.I))
/-- the things that a run may change stand apart -/
structure RnA (w : World) (wl ll tb d hl : Addr) (kt : Tok) (c : RnS) : Prop where
  a0 : ll ≠ wl
  a1 : ∀ q ∈ tabLed w tb d hl kt c.tv c.te ++ (c.tcl ++ c.I), q.1 ≠ wl
  a2 : ∀ q ∈ tabLed w tb d hl kt c.tv c.te ++ (c.tcl ++ c.I), q.1 ≠ ll
  a3 : ∀ p ∈ tabLed w tb d hl kt c.tv c.te, ∀ q ∈ c.tcl ++ c.I, q.1 ≠ p.1
  a4 : ∀ p ∈ c.tcl, ∀ q ∈ c.I, q.1 ≠ p.1
  a5 : d ≠ tb ∧ hl ≠ tb ∧ hl ≠ d
/-- what has been told till now -/
structure RnW (w : World) (r0 : Addr × Obj) (c : RnS) (ws lrows : List (List Int)) (tl ldl : List (Addr × Obj)) : Prop where
  hws : StrsAre c.wv (ws.map wordT)
  hwb : ∀ r ∈ ws, Bin r ∧ r.length ≤ 9
  hlv : LeadsL w c.lv ldl lrows
  hldl : ∀ p ∈ ldl, p ∈ c.I
  htv : PairsL tl c.tv (tabOf 0 ws)
  htl : ∀ p ∈ tl, p ∈ c.I
  hT : TabL c.tcl
  hr0 : r0 ∈ c.I
noncomputable def RnGo (w : World) (r0 : Addr × Obj) (wsF : List (List Int)) (iF : Nat) (c : RnS) : Prop :=
  c.kept = Str.ofString "" ∧ ∃ ns ws tl ldl, RnW w r0 c ws ws tl ldl ∧ (c.rl, listOf c.rv.toArray c.re) ∈ c.I ∧ IntsAre c.rv ns ∧ Bin ns ∧ 1 ≤ ns.length ∧ ns.length ≤ 9 ∧ ws.length + c.μ ≤ 20 ∧ runP c.μ ws ns = some (wsF, iF)
noncomputable def RnDone (w : World) (r0 : Addr × Obj) (wsF : List (List Int)) (iF : Nat) (c : RnS) : Prop :=
  c.kept = stepT iF ∧ iF < 64 ∧ ∃ ns tl ldl, RnW w r0 c wsF (wsF ++ [ns]) tl ldl ∧ findRow wsF ns = some iF ∧ c.μ = 0
local macro_rules | `(tactic| walk_at "KswEnd") => `(tactic| refine held ?_)
local macro_rules | `(tactic| walk_at "call ref") => `(tactic| refine held ?_)
local macro_rules | `(tactic| walk_at "compareOp Eq str str") => `(tactic| refine held ?_)
local macro_rules | `(tactic| walk_at "call type:int") => `(tactic| refine held ?_)
local macro_rules | `(tactic| walk_at "exec While Compare") => `(tactic| refine held ?_)
local macro_rules | `(tactic| walk_at "s1") => `(tactic| first | (k_unfold; (try dsimp only)) | walk1 | (dsimp only; walk1))
theorem rn_start {w : World} {rl : Addr} {rv : List Value} {re te : Nat} {ns : List Int} {tcl : List (Addr × Obj)} {wsF : List (List Int)} {iF f : Nat} {t : Tok} (hT : TabL tcl) (hI : IntsAre rv ns) (hb : Bin ns) (hn0 : 1 ≤ ns.length) (hn : ns.length ≤ 9) (hf : f ≤ 20) (hrun : runP f [] ns = some (wsF, iF)) :
    RnGo w (rl, listOf rv.toArray re) wsF iF ⟨rl, rv, re, [], 0, [], 0, [], te, tcl, [(rl, listOf rv.toArray re)], Str.ofString "", t, f⟩ := by
  refine ⟨rfl, ns, [], [], [], ⟨.nil, (fun _ h => nomatch h), .nil, (fun _ h => nomatch h), .nil, (fun _ h => nomatch h), hT, .head _⟩, .head _, hI, hb, hn0, hn, ?_, hrun⟩
  show 0 + f ≤ 20
  omega
theorem rnA_old {w : World} {wl ll tb d hl : Addr} {kt : Tok} {c c' : RnS} {led : List (Addr × Obj)} (hA : RnA w wl ll tb d hl kt c) (ap : ∀ p ∈ led, ∀ q ∈ rnLed w wl ll tb d hl kt c, q.1 ≠ p.1) (e1 : c'.tv = c.tv) (e2 : c'.te = c.te) (e3 : c'.tcl = c.tcl) (e4 : c'.I = led ++ c.I) : RnA w wl ll tb d hl kt c' := by
  have nI : ∀ q ∈ c.tcl ++ (led ++ c.I), q ∈ c.tcl ++ c.I ∨ q ∈ led := by
    intro q hq
    rcases List.mem_append.mp hq with h | h
    · exact .inl (List.mem_append_left _ h)
    · rcases List.mem_append.mp h with h | h
      · exact .inr h
      · exact .inl (List.mem_append_right _ h)
  refine ⟨hA.a0, ?_, ?_, ?_, ?_, hA.a5⟩
  · rw [e1, e2, e3, e4]
    intro q hq
    rcases List.mem_append.mp hq with h | h
    · exact hA.a1 q (List.mem_append_left _ h)
    · rcases nI q h with h | h
      · exact hA.a1 q (List.mem_append_right _ h)
      · exact (ap q h _ (.head _)).symm
  · rw [e1, e2, e3, e4]
    intro q hq
    rcases List.mem_append.mp hq with h | h
    · exact hA.a2 q (List.mem_append_left _ h)
    · rcases nI q h with h | h
      · exact hA.a2 q (List.mem_append_right _ h)
      · exact (ap q h _ (.tail _ (.head _))).symm
  · rw [e1, e2, e3, e4]
    intro p hp q hq
    rcases nI q hq with h | h
    · exact hA.a3 p hp q h
    · exact (ap q h p (.tail _ (.tail _ (List.mem_append_left _ hp)))).symm
  · rw [e3, e4]
    intro p hp q hq
    rcases List.mem_append.mp hq with h | h
    · exact (ap q h p (.tail _ (.tail _ (List.mem_append_right _ (List.mem_append_left _ hp))))).symm
    · exact hA.a4 p hp q h
theorem rnA_new {w : World} {wl ll tb d hl : Addr} {kt : Tok} {c c' : RnS} {led tcl' : List (Addr × Obj)} {oD oD0 ow ol : Addr × Obj} (hA : RnA w wl ll tb d hl kt c) (hw : ow.1 = wl) (hl' : ol.1 = ll) (A : ∀ q ∈ (oD :: (led ++ [oD0])) ++ tcl', ∀ p ∈ ow :: ol :: tabLed w tb d hl kt c.tv c.te, q.1 ≠ p.1)
    (Bq : ∀ p ∈ tcl', ∀ q ∈ oD :: (led ++ (oD0 :: c.I)), q.1 ≠ p.1) (e3 : c'.tcl = tcl') (e4 : c'.I = oD :: (led ++ (oD0 :: c.I))) : RnA w wl ll tb d hl kt c' := by
  have nI : ∀ q ∈ tcl' ++ (oD :: (led ++ (oD0 :: c.I))), q ∈ (oD :: (led ++ [oD0])) ++ tcl' ∨ q ∈ c.I := by
    intro q hq
    rcases List.mem_append.mp hq with h | h
    · exact .inl (List.mem_append_right _ h)
    · rcases List.mem_cons.mp h with rfl | h
      · exact .inl (List.mem_append_left _ (.head _))
      · rcases List.mem_append.mp h with h | h
        · exact .inl (List.mem_append_left _ (.tail _ (List.mem_append_left _ h)))
        · rcases List.mem_cons.mp h with rfl | h
          · exact .inl (List.mem_append_left _ (.tail _ (List.mem_append_right _ (.head _))))
          · exact .inr h
  refine ⟨hA.a0, ?_, ?_, ?_, ?_, hA.a5⟩
  · rw [e3, e4]
    intro q hq
    rcases List.mem_append.mp hq with h | h
    · obtain ⟨q', h1, h2⟩ := tab_addr (tv' := c.tv) (te' := c.te) h
      rw [← h2]; exact hA.a1 q' (List.mem_append_left _ h1)
    · rcases nI q h with h | h
      · rw [← hw]; exact A q h _ (.head _)
      · exact hA.a1 q (List.mem_append_right _ (List.mem_append_right _ h))
  · rw [e3, e4]
    intro q hq
    rcases List.mem_append.mp hq with h | h
    · obtain ⟨q', h1, h2⟩ := tab_addr (tv' := c.tv) (te' := c.te) h
      rw [← h2]; exact hA.a2 q' (List.mem_append_left _ h1)
    · rcases nI q h with h | h
      · rw [← hl']; exact A q h _ (.tail _ (.head _))
      · exact hA.a2 q (List.mem_append_right _ (List.mem_append_right _ h))
  · rw [e3, e4]
    intro p hp q hq
    obtain ⟨p', h1, h2⟩ := tab_addr (tv' := c.tv) (te' := c.te) hp
    rw [← h2]
    rcases nI q hq with h | h
    · exact A q h p' (.tail _ (.tail _ h1))
    · exact hA.a3 p' h1 q (List.mem_append_right _ h)
  · rw [e3, e4]
    exact Bq
set_option maxHeartbeats 4000000 in
theorem run_spec (w : World) {p : Program} {loose : List Str} {mean : ExcName → Option Value} {mg mb : Str → Option Value} {cn : Str} {cs : Scope} {L a : Addr} {ccd : Value} {cl : List (Str × Addr)} {outer : List Env} {A₀ : Around} {base h₀ : Heap} {m : Str → Option Value} {s : Shared} {Q E : Value → Shared → Prop} {dp un : Nat} {rl tb d hl : Addr} {kt : Tok} {rv : List Value} {re te : Nat} {ns : List Int} {tcl rest : List (Addr × Obj)} {wsF : List (List Int)} {iF : Nat}
    (B : Below A₀ base outer h₀) (F : Fr h₀ L s.heap m) (X : (K w.params).In h₀) (T : Top p loose mean mg mb h₀) (hke : cs.kind = .function) (hd : dp ≤ 500) (hu : un ≤ 5000)
    (N : News h₀ L s.heap ((tabLed w tb d hl kt [] te ++ (tcl ++ [(rl, listOf rv.toArray re)])) ++ rest)) (hap : ∀ p ∈ tabLed w tb d hl kt [] te ++ (tcl ++ [(rl, listOf rv.toArray re)]), ∀ q ∈ rest, q.1 ≠ p.1) (hT : TabL tcl) (C : CodeHd h₀ 58 54)
    (a3 : ∀ p ∈ tabLed w tb d hl kt [] te, ∀ q ∈ tcl ++ [(rl, listOf rv.toArray re)], q.1 ≠ p.1) (a4 : ∀ p ∈ tcl, rl ≠ p.1) (a5 : d ≠ tb ∧ hl ≠ tb ∧ hl ≠ d)
    (hI : IntsAre rv ns) (hb : Bin ns) (hn0 : 1 ≤ ns.length) (hn : ns.length ≤ 9) (hrun : runP 20 [] ns = some (wsF, iF))
    (ret : ∀ D wl ll c lrow tl ldl t3 h' tk, RnW w (rl, listOf rv.toArray re) c wsF (wsF ++ [lrow]) tl ldl → findRow wsF lrow = some iF → Fr h₀ L h' m → News h₀ L h' (((D, tupOf #[.ref wl, .ref ll, .int iF t3]) :: rnLed w wl ll tb d hl kt c) ++ rest) → Q (.ref D) { s with heap := h', toks := tk }) :
    wpAny (model PySem.Challenge.rw_tp0056_01.row.prog w) (ktrTop dp un (some []) cn cs L a ccd cl outer) (call (.ref 320) [.ref rl, .ref tb] []) Q E s := by
  have Nm : News h₀ L s.heap (tabLed w tb d hl kt [] te ++ (tcl ++ [(rl, listOf rv.toArray re)])) := fun p hp => N p (List.mem_append_left _ hp)
  refine enterM (args := ⟨[.ref rl, .ref tb], []⟩) (binds := [(Str.ofString "row", .ref rl), (Str.ofString "table", .ref tb)]) 500 5000 B F X T hke hd hu Nm (k320 _) (c320 _) (by decide) (BindsTo.of_eq rfl) (locs rfl) (by decide) rfl rfl rfl ?_
  intro L' h₁ F' N' B' X' T'
  have C' := C.keeps (hide_stays F Nm)
  clear B X T C
  dsimp only [lb320, ls320, la320]
  have F₀ := F
  have N₀ := N
  generalize hgen : hideAll s.heap _ = g at F' N' B' X' T' C'
  clear F N Nm
  replace F' : Fr g L' h₁ (fun y => List.lookup y [(Str.ofString "table", Value.ref tb), (Str.ofString "row", Value.ref rl)]) := F'
  have hMk := kstMark
  generalize hX : tabLed w tb d hl kt [] te ++ (tcl ++ [(rl, listOf rv.toArray re)]) = X0 at N'
  k_steps
  unfold Held
  rename Fr g _ _ _ => F1
  rename News g _ _ _ => N1
  rename_i wl _ lw _ _ ll _ lwl _ _
  subst hX
  have r0I : (rl, listOf rv.toArray re) ∈ [(rl, listOf rv.toArray re)] := .head _
  obtain ⟨t0, F1⟩ : ∃ t0 : Tok, Fr g L' _ (fun y => if y = Str.ofString "kept" then some (Value.str (Str.ofString "") t0) else if y = Str.ofString "leads" then some (Value.ref ll) else if y = Str.ofString "words" then some (Value.ref wl) else List.lookup y [(Str.ofString "table", Value.ref tb), (Str.ofString "row", Value.ref rl)]) := ⟨_, F1⟩
  obtain ⟨c0, hc0⟩ : ∃ c0 : Tok → RnS, c0 = fun t => ⟨rl, rv, re, [], 0, [], 0, [], te, tcl, [(rl, listOf rv.toArray re)], Str.ofString "", t, 20⟩ := ⟨_, rfl⟩
  have hA0 : ∀ t, RnA w wl ll tb d hl kt (c0 t) := by
    intro t; rw [hc0]
    exact ⟨Nat.ne_of_gt lwl.1, fun q hq => Nat.ne_of_lt (lw q hq), fun q hq => Nat.ne_of_lt (Nat.lt_trans (lw q hq) lwl.1), a3, fun p hp q hq => by rw [List.mem_singleton.mp hq]; exact a4 p hp, a5⟩
  have hP0 : ∀ t, RnGo w (rl, listOf rv.toArray re) wsF iF (c0 t) := by
    intro t; rw [hc0]
    exact rn_start hT hI hb hn0 hn (Nat.le_refl _) hrun
  have hM0 : ∀ t, rnLed w wl ll tb d hl kt (c0 t) = (wl, listOf [].toArray 0) :: (ll, listOf [].toArray 0) :: (tabLed w tb d hl kt [] te ++ (tcl ++ [(rl, listOf rv.toArray re)])) := by
    intro t; rw [hc0]
  have hS0 : ∀ t, (c0 t).rl = rl ∧ (c0 t).kept = Str.ofString "" ∧ (c0 t).tk = t := by
    intro t; rw [hc0]; exact ⟨rfl, rfl, rfl⟩
  clear hc0
  refine ksw_while (σ := RnS) (fun c => rnLed w wl ll tb d hl kt c) (fun c => [(Str.ofString "row", .ref c.rl), (Str.ofString "kept", .str c.kept c.tk)]) (fun c => RnA w wl ll tb d hl kt c) [Str.ofString "word", Str.ofString "step", Str.ofString "told"]
    (fun c => RnGo w (rl, listOf rv.toArray re) wsF iF c ∨ RnDone w (rl, listOf rv.toArray re) wsF iF c) (fun c => c.μ) (c0 t0) F1 (fun p hp => N1 p ?_) (hA0 t0) ?_ (.inl (hP0 t0)) ?_
  · rw [hM0] at hp
    rcases List.mem_cons.mp hp with rfl | hp
    · exact .tail _ (.head _)
    · rcases List.mem_cons.mp hp with rfl | hp
      · exact .head _
      · exact .tail _ (.tail _ hp)
  · rw [(hS0 t0).1, (hS0 t0).2.1, (hS0 t0).2.2]
    exact List.forall_mem_cons.mpr ⟨rfl, List.forall_mem_singleton.mpr rfl⟩
  · clear hA0 hP0 hM0 hS0 lw lwl N1
    intro c u h tk hA hP F2 N2
    clear F1
    obtain ⟨rl1, rv1, re1, wv, we, lv, le, tv, te1, tcl1, I1, kept1, tk1, μ1⟩ := c
    rcases hP with hP | hP
    · obtain ⟨hk, ns1, ws, tl, ldl, hW, hrl, hI1, hb1, hm0, hm, hf, hr⟩ := hP
      dsimp only at hk hrl hI1 hf hr
      subst hk
      k_steps
      unfold Held
      refine eq_strs ?_
      rw [decide_eq_true (rfl : Str.ofString "" = Str.ofString "")]
      iterate 2 (walk_at "s1")
      cases μ1 with
      | zero => cases hr
      | succ f =>
      have hre := runP_re hr
      have hsz : tv.toArray.size ≤ sizeLine := by
        rw [List.size_toArray, hW.htv.length, tab_len]
        exact Nat.le_trans (by omega : ws.length ≤ 20) (by decide)
      refine run_turn w B' X' T' C' F2 N2 rfl rfl rfl rfl hrl hI1 hb1 hm0 hm hW.hws (by omega) hW.hwb hW.hlv (by omega) hW.hldl hW.htv hW.htl hW.hT hA.a0 hA.a1 hA.a2 hA.a3 hA.a4 hA.a5 hre hsz ?_ ?_
      · intro i x led tz m' h' tk' hfi hx F3 N3 ap g1 g2
        have hre2 := runP_old hr hfi
        have hws2 : wsF = ws := congrArg (·.1) hre2
        have hi2 : iF = i := congrArg (·.2) hre2
        subst hws2 hi2
        have hil : iF < wsF.length := (List.findIdx?_eq_some_iff_getElem.mp hfi).1
        refine ksw_end ⟨rl1, rv1, re1, wv, we, lv ++ [Value.ref x], le + 1, tv, te1, tcl1, led ++ I1, stepT iF, tz, 0⟩ F3 N3 (fun p hp => hp) (rnA_old hA ap rfl rfl rfl rfl) (List.forall_mem_cons.mpr ⟨g2 (Str.ofString "row") (by decide) (by decide) (by decide) (by decide), List.forall_mem_singleton.mpr g1⟩) ?_ (.inr ⟨rfl, by omega, ns1, tl, ldl ++ led, ⟨hW.hws, hW.hwb, hW.hlv.snoc hx, ?_, hW.htv, fun p hp => List.mem_append_right _ (hW.htl p hp), hW.hT, List.mem_append_right _ hW.hr0⟩, hfi, rfl⟩) (Nat.succ_pos _)
        · intro z z1 z2
          have zk : z ≠ Str.ofString "kept" := z1 _ (.tail _ (.head _))
          have zr : z ≠ Str.ofString "row" := z1 _ (.head _)
          simp only [List.contains_cons, List.contains_nil, Bool.or_false, Bool.or_eq_false_iff, beq_eq_false_iff_ne, ne_eq] at z2
          rw [g2 z zk z2.2.2 z2.2.1 z2.1]
          simp only [kstB, if_neg zk, if_neg zr, List.contains_cons, List.contains_nil, Bool.or_false, Bool.false_eq_true, if_false, beq_eq_false_iff_ne.mpr z2.1, beq_eq_false_iff_ne.mpr z2.2.1, beq_eq_false_iff_ne.mpr z2.2.2]
        · intro p hp
          rcases List.mem_append.mp hp with hp | hp
          · exact List.mem_append_right _ (hW.hldl p hp)
          · exact List.mem_append_left _ hp
      · intro x led D us e tcl' D0 t1 t2 tw m' h' tk' hfi hx hus hT' F3 N3 ap1 ap2 g1 g2
        have hr2 := runP_new hr hfi
        have hlen : (roundOf ns1).length = ns1.length := by rw [hre, alone_len hb1]
        refine ksw_end ⟨D, us, e, wv ++ [Value.str (wordT ns1) tw], we + 1, lv ++ [Value.ref x], le + 1, tv ++ [Value.ref D0], te1 + 1, tcl', (D, listOf us.toArray e) :: (led ++ ((D0, tupOf #[.str (keyT ws.length ns1) t1, .str (stepT ws.length) t2]) :: I1)), Str.ofString "", tk1, f⟩ F3 N3 (fun p hp => hp) (rnA_new hA rfl rfl ap1 ap2 rfl rfl) (List.forall_mem_cons.mpr ⟨g1, List.forall_mem_singleton.mpr (g2 (Str.ofString "kept") (by decide) (by decide) (by decide) (by decide))⟩) ?_ (.inl ⟨rfl, roundOf ns1, ws ++ [ns1], tl ++ [(D0, tupOf #[.str (keyT ws.length ns1) t1, .str (stepT ws.length) t2])], ldl ++ led, ⟨?_, ?_, hW.hlv.snoc hx, ?_, ?_, ?_, hT', .tail _ (List.mem_append_right _ (.tail _ hW.hr0))⟩, .head _, hus, (by rw [hre]; exact alone_bin ns1), by omega, by omega, (by rw [List.length_append, List.length_singleton]; show ws.length + 1 + f ≤ 20; omega), hr2⟩) (Nat.lt_succ_self _)
        · intro z z1 z2
          have zk : z ≠ Str.ofString "kept" := z1 _ (.tail _ (.head _))
          have zr : z ≠ Str.ofString "row" := z1 _ (.head _)
          simp only [List.contains_cons, List.contains_nil, Bool.or_false, Bool.or_eq_false_iff, beq_eq_false_iff_ne, ne_eq] at z2
          rw [g2 z zr z2.2.2 z2.2.1 z2.1]
          simp only [kstB, if_neg zk, if_neg zr, List.contains_cons, List.contains_nil, Bool.or_false, Bool.false_eq_true, if_false, beq_eq_false_iff_ne.mpr z2.1, beq_eq_false_iff_ne.mpr z2.2.1, beq_eq_false_iff_ne.mpr z2.2.2]
        · rw [List.map_append]
          exact strs_snoc hW.hws
        · intro r hr
          rcases List.mem_append.mp hr with hr | hr
          · exact hW.hwb r hr
          · rw [List.mem_singleton.mp hr]; exact ⟨hb1, hm⟩
        · intro p hp
          rcases List.mem_append.mp hp with hp | hp
          · exact .tail _ (List.mem_append_right _ (.tail _ (hW.hldl p hp)))
          · exact .tail _ (List.mem_append_left _ hp)
        · rw [tab_snoc, Nat.zero_add]
          exact hW.htv.snoc
        · intro p hp
          rcases List.mem_append.mp hp with hp | hp
          · exact .tail _ (List.mem_append_right _ (.tail _ (hW.htl p hp)))
          · rw [List.mem_singleton.mp hp]; exact .tail _ (List.mem_append_right _ (.head _))
    · obtain ⟨hk, hi64, ns1, tl, ldl, hW, hfr, _⟩ := hP
      dsimp only at hk
      subst hk
      k_steps
      unfold Held
      refine eq_strs ?_
      rw [decide_eq_false (step_ne hi64)]
      k_steps
      unfold Held
      refine KIN.call_num (n := (iF : Int)) (by omega) (by omega) ?_
      k_steps
      rename Fr g _ _ _ => F3
      rename News g _ _ _ => N3
      subst hgen
      have bk := back F₀ N₀ hap F3 N3
      exact ret _ wl ll _ ns1 tl ldl _ _ _ hW hfr bk.1 bk.2
end Mine
end
section
open PySem PySem.W PyProof.Rows PySem.Calls PyProof.V PySem.Spec
namespace Mine
theorem fillRest (w : World) (h : Heap) : (K w.params).In h → PySem.Challenge.rw_tp0056_01.foot = 8 := by
  k_fill
  intro _
  rfl
noncomputable def eqR (a b : WsP) : Bool := decide (a.counts = b.counts ∧ a.b = b.b)
noncomputable def stepOK (a b : WsP) : Bool := decide ((a.nt = 1 → b.nt = 2) ∧ (a.nt ≠ 1 → ¬ a.nt < b.nt))
noncomputable def rsBody : {b : List Stmt // forBody (lb327.1.getD 0 (.Pass default)) = b} := by
  refine' ⟨_, _⟩
  rotate_left
  · (conv => lhs; whnf)
theorem names3 {m : Str → Option Value} {a b c : Str} {v1 v2 v3 : Value} (h1 : m a = some v1) (h2 : m b = some v2) (h3 : m c = some v3) : m = fun y => if y = a then some v1 else if y = b then some v2 else if y = c then some v3 else m y := by
  funext y
  by_cases e : y = a
  · rw [if_pos e, e, h1]
  · rw [if_neg e]
    by_cases e : y = b
    · rw [if_pos e, e, h2]
    · rw [if_neg e]
      by_cases e : y = c
      · rw [if_pos e, e, h3]
      · rw [if_neg e]
theorem lead_back {g h : Heap} {L : Addr} {led led' l1 l2 R : List (Addr × Obj)} (e1 : led = l1) (e2 : led' = l2) (N : News g L h (l1 ++ (l2 ++ R))) : News g L h (led ++ led') := by
  subst e1 e2
  exact fun p hp => N p (by rw [← List.append_assoc]; exact List.mem_append_left _ hp)
local macro_rules | `(tactic| walk_at "EndG") => `(tactic| refine held ?_)
local macro_rules | `(tactic| walk_at "PostG") => `(tactic| dsimp only [PostG])
local macro_rules | `(tactic| walk_at "call ref") => `(tactic| refine held ?_)
local macro_rules | `(tactic| walk_at "subscriptTail Name Name ref int") => `(tactic| refine held ?_)
local macro_rules | `(tactic| walk_at "subscriptTail Name BinOp ref int") => `(tactic| refine held ?_)
set_option maxHeartbeats 4000000 in
theorem rests_turn (w : World) {p : Program} {loose : List Str} {mean : ExcName → Option Value} {mg mb : Str → Option Value} {A₀ : Around} {base g : Heap} {outer : List Env} {L I ll x x' : Addr} {oI : Obj} {s : Shared} {lv : List Value} {le : Nat} {k fi : Int} {tk0 tf : Tok} {led led' R : List (Addr × Obj)} {a b : WsP} {m₁ : Str → Option Value} {J : (Str → Option Value) → List (Addr × Obj) → Prop} {Q : Flow → Shared → Prop}
    (B : Below A₀ base outer g) (X : (K w.params).In g) (T : Top p loose mean mg mb g) (F : Fr g L s.heap m₁) (N : News g L s.heap (led ++ (led' ++ ((I, oI) :: (ll, listOf lv.toArray le) :: R))))
    (f1 : m₁ (Str.ofString "leads") = some (.ref ll)) (f2 : m₁ (Str.ofString "k") = some (.int k tk0)) (f3 : m₁ (Str.ofString "first") = some (.int fi tf))
    (hk0 : 0 ≤ k) (hk : k ≤ 30) (h1 : lv.toArray[k.toNat]? = some (.ref x)) (h2 : lv.toArray[(k + 1).toNat]? = some (.ref x')) (hx : LeadL w x a led) (hx' : LeadL w x' b led') (heq : eqR a b = decide (fi ≤ k)) (hok : stepOK a b = true)
    (hR : ∀ p ∈ (ll, listOf lv.toArray le) :: R, p.1 ≠ I)
    (hJ : ∀ m' : Str → Option Value, (∀ z, z ≠ Str.ofString "old" → z ≠ Str.ofString "new" → m' z = m₁ z) → J m' ((ll, listOf lv.toArray le) :: R)) :
    wpAny (model PySem.Challenge.rw_tp0056_01.row.prog w) (ktrTop 701 7003 (some []) (Str.ofString "_law_rests") ls327.1 L 327 (.ref 326) [] outer) (execs rsBody.1 (envOf (Str.ofString "_law_rests") ls327.1 L 327 (.ref 326))) (PostG g L I oI J s Q) (fun _ _ => False) s := by
  have hMk := kstMark
  have em : m₁ = fun y => if y = Str.ofString "leads" then some (.ref ll) else if y = Str.ofString "k" then some (.int k tk0) else if y = Str.ofString "first" then some (.int fi tf) else m₁ y := names3 f1 f2 f3
  rw [em] at F
  dsimp only [rsBody, ls327]
  have mL : (ll, listOf lv.toArray le) ∈ led ++ (led' ++ ((I, oI) :: (ll, listOf lv.toArray le) :: R)) := List.mem_append_right _ (List.mem_append_right _ (.tail _ (.head _)))
  k_steps
  unfold Held
  refine item_listR (News.isList N mL) hk0 (by omega) h1 ?_
  k_steps
  unfold Held
  rename News g _ _ _ => N1
  refine item_listR (News.isList N1 mL) (by omega) (by omega) h2 ?_
  have hx0 := hx
  have hx0' := hx'
  obtain ⟨d, t1, t2, vs, tb, y, ty, tn, tt, k1, k2, k3, k4, k5, sb, hI, hl⟩ := hx0
  obtain ⟨d', t1', t2', vs', tb', y', ty', tn', tt', k1', k2', k3', k4', k5', sb', hI', hl'⟩ := hx0'
  have NN := N1
  rw [hl, hl'] at NN
  dsimp only [List.cons_append, List.nil_append] at NN
  clear N1
  k_steps
  unfold Held
  rename Fr g _ _ _ => F2
  rename News g _ _ _ => N2
  have N3 := lead_back hl hl' N2
  refine equal_spec w B F2 X T rfl (Nat.le_of_ble_eq_true rfl) (Nat.le_of_ble_eq_true rfl) N3 hx hx' ?_
  intro h' tk kk
  have F4 := kk.fr F2
  have N4 := kk.news F2 N2
  have heq2 : decide (a.counts = b.counts ∧ a.b = b.b) = decide (fi ≤ k) := heq
  rw [heq2]
  clear F2 N2 N3
  dsimp only [List.nil_append] at N4
  have hs : (a.nt = 1 → b.nt = 2) ∧ (a.nt ≠ 1 → ¬ a.nt < b.nt) := of_decide_eq_true hok
  have fin : ∀ tk, EndG g L I oI J s { s with heap := h', toks := tk } := fun tk => by
    refine ⟨h', tk, _, _, rfl, F4, fun p hp => N4 p ?_, hR, hJ _ fun z z1 z2 => ?_⟩
    · iterate 8 refine .tail _ ?_
      exact hp
    · rw [if_neg z2, if_neg z1]
      exact (congrFun em z).symm
  k_steps
  all_goals first
    | (exfalso; omega)
    | (unfold Held; exact fin _)
    | (exfalso; rename (_ != _) = true => hc; rw [bne_self_eq_false] at hc; cases hc)
end Mine
end
section
open PySem PySem.W PyProof.Rows PySem.Calls PyProof.V PySem.Spec
namespace Mine
theorem fillRest2 (w : World) (h : Heap) : (K w.params).In h → PySem.Challenge.rw_tp0056_01.foot = 8 := by
  k_fill
  intro _
  rfl
theorem LeadsL.at {w : World} : ∀ {vs : List Value} {ldl : List (Addr × Obj)} {rows : List (List Int)}, LeadsL w vs ldl rows → ∀ k, k < rows.length → ∃ x led, vs[k]? = some (.ref x) ∧ LeadL w x (leadOf (rows.getD k [])) led ∧ ∀ p ∈ led, p ∈ ldl
  | _, _, _, .nil, k, h => absurd h (Nat.not_lt_zero k)
  | _, _, _, .cons a _, 0, _ => ⟨_, _, rfl, a, fun _ h => List.mem_append_left _ h⟩
  | _, _, _, .cons _ r, k + 1, h => by
    obtain ⟨x, led, h1, h2, h3⟩ := r.at k (Nat.lt_of_succ_lt_succ h)
    exact ⟨x, led, h1, h2, fun p hp => List.mem_append_right _ (h3 p hp)⟩
/-- the last row's lead when the run has come to two lit lamps: `gap` blanks, a tab, `gap + 1` blanks, a tab -/
noncomputable def gapCodes (z : Int) : List Int := List.replicate (z / 2 - 1).toNat 32 ++ 9 :: (List.replicate (z / 2).toNat 32 ++ [9])
noncomputable def endOK (last : WsP) (rounds z : Int) : Bool := if last.nt = 0 then decide (rounds = 1) else decide (z % 2 = 1) && (decide (rounds = z) && eqR last (wsRead (gapCodes z)))
noncomputable def turnsOK (rows : List (List Int)) (n : Nat) (fi : Int) : Bool := (List.range n).all fun k => eqR (leadOf (rows.getD k [])) (leadOf (rows.getD (k + 1) [])) == decide (fi ≤ (k : Int)) && stepOK (leadOf (rows.getD k [])) (leadOf (rows.getD (k + 1) []))
theorem turns_at {rows : List (List Int)} {n : Nat} {fi : Int} (h : turnsOK rows n fi = true) {k : Nat} (hk : k < n) : eqR (leadOf (rows.getD k [])) (leadOf (rows.getD (k + 1) [])) = decide (fi ≤ (k : Int)) ∧ stepOK (leadOf (rows.getD k [])) (leadOf (rows.getD (k + 1) [])) = true := by
  have := List.all_eq_true.mp h k (List.mem_range.mpr hk)
  rw [Bool.and_eq_true, beq_iff_eq] at this
  exact this
theorem item_lastR {prog : Program} {w : World} {A : Around} {E : Value → Shared → Prop} {s : Shared} {value slice : Expr} {l : Addr} {lv : List Value} {n : Nat} {u : Tok} {x : Value} {Q : Value → Shared → Prop} (hl : s.heap.IsList l lv.toArray)
    (hn : lv.length = n + 1) (hn' : n ≤ 20) (hx : lv[n]? = some x) (h : Q x s)
    (hs : subscripted slice false (.ref l) (.int (-1) u) = operate [.ref l, .int (-1) u] (getItem (.ref l) (.int (-1) u)) := by with_unfolding_all rfl) :
    wpAny (model prog w) A (subscriptTail value slice (.ref l) (.int (-1) u)) Q E s := by
  have hz : lv.toArray.size = n + 1 := by rw [List.size_toArray, hn]
  have e : ((-1 : Int) + (lv.toArray.size : Int)).toNat = n := by rw [hz]; omega
  exact subscriptTail_builtinR hl.typeIs slot_list_getitem.lookup (wpAny_getItem_list_neg (Q := fun r s' => r = x ∧ Q r s') hl (by decide) (by rw [hz]; omega) (by decide) (by rw [e, List.getElem?_toArray]; exact hx) ⟨rfl, h⟩) hs
theorem gap_text {z : Int} (h : z = 7 ∨ z = 9) : KStt.codes (Txt.mul (Str.ofString " ") (z.fdiv 2 - 1) ++ Str.ofString "\t" ++ Txt.mul (Str.ofString " ") (z.fdiv 2 - 1 + 1) ++ Str.ofString "\t") = gapCodes z := by
  rcases h with rfl | rfl <;> decide +kernel
theorem gap_len {z : Int} (h : z = 7 ∨ z = 9) : (Txt.mul (Str.ofString " ") (z.fdiv 2 - 1) ++ Str.ofString "\t" ++ Txt.mul (Str.ofString " ") (z.fdiv 2 - 1 + 1) ++ Str.ofString "\t").length ≤ 9 := by
  rcases h with rfl | rfl <;> decide +kernel
theorem gap_32 {z : Int} (h : z = 7 ∨ z = 9) : ∀ c ∈ gapCodes z, c = 32 ∨ c = 9 := by
  rcases h with rfl | rfl <;> decide +kernel
local macro_rules | `(tactic| walk_at "binaryOp Add str str") => `(tactic| (refine add_str ?_; intro _ _))
local macro_rules | `(tactic| walk_at "EndG") => `(tactic| refine held ?_)
local macro_rules | `(tactic| walk_at "call ref") => `(tactic| refine held ?_)
local macro_rules | `(tactic| walk_at "pyIter ref") => `(tactic| refine held ?_)
local macro_rules | `(tactic| walk_at "subscriptTail Name Constant ref int") => `(tactic| refine held ?_)
local macro_rules | `(tactic| walk_at "subscriptTail Name UnaryOp ref int") => `(tactic| refine held ?_)
set_option maxHeartbeats 8000000 in
theorem rests_spec (w : World) {p : Program} {loose : List Str} {mean : ExcName → Option Value} {mg mb : Str → Option Value} {cn : Str} {cs : Scope} {L a : Addr} {ccd : Value} {cl : List (Str × Addr)} {outer : List Env} {A₀ : Around} {base h₀ : Heap} {m : Str → Option Value} {s : Shared} {Q E : Value → Shared → Prop} {dp un : Nat} {wl ll : Addr} {wv lv : List Value} {we le n : Nat} {fi z : Int} {t3 tz : Tok} {ldl : List (Addr × Obj)} {rows : List (List Int)}
    (B : Below A₀ base outer h₀) (F : Fr h₀ L s.heap m) (X : (K w.params).In h₀) (T : Top p loose mean mg mb h₀) (hke : cs.kind = .function) (hd : dp ≤ 700) (hu : un ≤ 7000)
    (N : News h₀ L s.heap ((ll, listOf lv.toArray le) :: (wl, listOf wv.toArray we) :: ldl)) (hW : wv.length = n) (hL : LeadsL w lv ldl rows) (hr : rows.length = n + 1) (hn : n ≤ 20) (hf0 : 0 ≤ fi) (hf : fi ≤ 20)
    (hz0 : 7 ≤ z) (hz1 : z ≤ 9) (hok : turnsOK rows n fi = true) (hend : endOK (leadOf (rows.getD n [])) (n - fi) z = true)
    (ret : ∀ h' tk, Kept s.heap h' [] → Q (.bool true) { s with heap := h', toks := tk }) :
    wpAny (model PySem.Challenge.rw_tp0056_01.row.prog w) (ktrTop dp un (some []) cn cs L a ccd cl outer) (call (.ref 327) [.ref wl, .ref ll, .int fi t3, .int z tz] []) Q E s := by
  refine enterM (args := ⟨[.ref wl, .ref ll, .int fi t3, .int z tz], []⟩) (binds := [(Str.ofString "words", .ref wl), (Str.ofString "leads", .ref ll), (Str.ofString "first", .int fi t3), (Str.ofString "size", .int z tz)]) 700 7000 B F X T hke hd hu N (k327 _) (c327 _) (by decide) (BindsTo.of_eq rfl) (locs rfl) (by decide) rfl rfl rfl ?_
  intro L' h₁ F' N' B' X' T'
  clear B X T
  dsimp only [lb327, ls327, la327]
  have N₀ := N
  generalize hgen : hideAll s.heap _ = g at F' N' B' X' T'
  clear F N
  replace F' : Fr g L' h₁ (fun y => List.lookup y [(Str.ofString "size", Value.int z tz), (Str.ofString "first", Value.int fi t3), (Str.ofString "leads", Value.ref ll), (Str.ofString "words", Value.ref wl)]) := F'
  have hMk := kstMark
  have hwz : wv.toArray.size ≤ sizeLine := by rw [List.size_toArray, hW]; exact Nat.le_trans hn (by decide)
  have hsw : wv.toArray.size = n := by rw [List.size_toArray, hW]
  k_steps
  unfold Held
  rename IsRange _ _ _ _ _ _ _ _ => hR
  rename Fr g _ _ _ => F3
  rename News g _ _ _ => N3
  refine rangeG (σ := Unit) (n := n) (x := Str.ofString "k") (fun _ => (ll, listOf lv.toArray le) :: (wl, listOf wv.toArray we) :: ldl) (fun _ => []) (fun _ => True) [Str.ofString "old", Str.ofString "new"] (fun _ _ => True) () rfl hR ?_ ?_ F3 N3 trivial (fun _ h => nomatch h) trivial ?_ ?_
  · exact small_one (by omega) (by omega) (by omega) (by omega)
  · rw [rangeSize_one]; split <;> omega
  · intro I c pre k t u h tk oI hk hlt hoff _ _ F4 N4
    clear F3 N3 hR
    rw [Int.zero_add] at hk
    obtain ⟨x, led, h1, h2, h3⟩ := hL.at pre.length (by omega)
    obtain ⟨x', led', h1', h2', h3'⟩ := hL.at (pre.length + 1) (by omega)
    have hT := turns_at hok hlt
    subst hk
    refine rests_turn w (led := led) (led' := led') B' X' T' F4 (fun p hp => N4 p ?_) rfl rfl rfl (by omega) (by omega) ?_ ?_ h2 h2' hT.1 hT.2 hoff ?_
    · rcases List.mem_append.mp hp with hp | hp
      · exact .tail _ (.tail _ (.tail _ (h3 p hp)))
      · rcases List.mem_append.mp hp with hp | hp
        · exact .tail _ (.tail _ (.tail _ (h3' p hp)))
        · exact hp
    · rw [Int.toNat_natCast, List.getElem?_toArray]; exact h1
    · have : ((pre.length : Int) + 1).toNat = pre.length + 1 := by omega
      rw [this, List.getElem?_toArray]; exact h1'
    · intro m' g2
      refine ⟨(), rfl, trivial, (fun _ h => nomatch h), ?_, trivial⟩
      intro z z0 _ z3
      simp only [List.contains_cons, List.contains_nil, Bool.or_false, Bool.or_eq_false_iff, beq_eq_false_iff_ne, ne_eq] at z3
      rw [g2 z z3.1 z3.2]
      simp only [kstB, if_neg z0, if_neg z3.1, if_neg z3.2, List.contains_cons, List.contains_nil, Bool.or_false, Bool.false_eq_true, if_false, beq_eq_false_iff_ne.mpr z3.1, beq_eq_false_iff_ne.mpr z3.2]
  · intro c u h tk _ _ F4 N4
    clear F3 N3 hR
    obtain ⟨x, led, h1, h2, h3⟩ := hL.at n (by omega)
    obtain ⟨d, t1, t2, vs, tb, y, ty, tn, tt, k1, k2, k3, k4, k5, sb, hI, hl⟩ := id h2
    have hlen := hL.length
    have N5 : News g L' h (led ++ ((ll, listOf lv.toArray le) :: (wl, listOf wv.toArray we) :: ldl)) := fun p hp => N4 p (by
      rcases List.mem_append.mp hp with hp | hp
      · exact .tail _ (.tail _ (h3 p hp))
      · exact hp)
    rw [hl] at N5
    dsimp only [List.cons_append, List.nil_append] at N5
    clear N4
    generalize hlast : leadOf (rows.getD n []) = last at hI hl N5 h2 hend
    have e1 : last.nt = 0 → (n : Int) - fi = 1 := fun q => by
      unfold endOK at hend
      rw [if_pos q] at hend
      exact of_decide_eq_true hend
    have e2 : last.nt ≠ 0 → z % 2 = 1 ∧ (n : Int) - fi = z ∧ eqR last (wsRead (gapCodes z)) = true := fun q => by
      unfold endOK at hend
      rw [if_neg q, Bool.and_eq_true, Bool.and_eq_true] at hend
      exact ⟨of_decide_eq_true hend.1, of_decide_eq_true hend.2.1, hend.2.2⟩
    have fin : ∀ (h' : Heap) (tk : Nat) (m' : Str → Option Value) (new : List (Addr × Obj)), Fr g L' h' m' → News g L' h' new → (∀ p ∈ (ll, listOf lv.toArray le) :: (wl, listOf wv.toArray we) :: ldl, p ∈ new) → Q (.bool true) { s with heap := h', toks := tk } := by
      intro h' tk m' new i2 i3 i4
      subst hgen
      exact ret h' tk (keptX_all N₀ i2 fun p hp => i3 p (i4 p hp))
    have hq1 : 3 ≤ z.fdiv 2 := by rw [Int.fdiv_eq_ediv_of_nonneg _ (by decide)]; omega
    have hq2 : z.fdiv 2 ≤ 4 := by rw [Int.fdiv_eq_ediv_of_nonneg _ (by decide)]; omega
    have hfm : z.fmod 2 = z % 2 := Int.fmod_eq_emod_of_nonneg _ (by decide)
    k_steps
    unfold Held
    rename News g _ _ _ => N6
    refine item_lastR (News.isList N6 (.tail _ (.tail _ (.tail _ (.tail _ (.head _)))))) (hlen.trans hr) hn h1 ?_
    k_steps
    · rename Fr g _ _ _ => F7
      rename News g _ _ _ => N7
      have e := e1 (by omega)
      have eb : ((n : Int) - fi == 1) = true := by rw [e]; rfl
      rw [eb]
      exact fin _ _ _ _ F7 N7 fun p hp => .tail _ (.tail _ (.tail _ (.tail _ hp)))
    · rename Fr g _ _ _ => F7
      rename News g _ _ _ => N7
      obtain ⟨ez, er, eg⟩ := e2 (by omega)
      unfold Held
      refine item_lastR (News.isList N7 (.tail _ (.tail _ (.tail _ (.tail _ (.head _)))))) (hlen.trans hr) hn h1 ?_
      k_steps
      have hz79 : z = 7 ∨ z = 9 := by omega
      unfold Held
      rename Fr g _ _ _ => F8
      rename News g _ _ _ => N8
      refine ws_spec w B' F8 X' T' rfl (Nat.le_of_ble_eq_true rfl) (Nat.le_of_ble_eq_true rfl) N8 (gap_len hz79) (by rw [gap_text hz79]; exact gap_32 hz79) ?_
      rw [gap_text hz79]
      intro x2 led2 h9 tk9 hx2 F9 N9 ap9
      k_steps
      unfold Held
      refine equal_spec w B' F9 X' T' rfl (Nat.le_of_ble_eq_true rfl) (Nat.le_of_ble_eq_true rfl) (led := led) (led' := led2) (fun p hp => N9 p ?_) h2 hx2 ?_
      · rcases List.mem_append.mp hp with hp | hp
        · exact List.mem_append_right _ (.tail _ (.tail _ (.tail _ (.tail _ (.tail _ (.tail _ (h3 p hp)))))))
        · exact List.mem_append_left _ hp
      intro h10 tk10 kk
      have F10 := kk.fr F9
      have N10 := kk.news F9 N9
      have eg' : decide (last.counts = (wsRead (gapCodes z)).counts ∧ last.b = (wsRead (gapCodes z)).b) = true := eg
      rw [eg']
      k_steps
      exact fin _ _ _ _ F10 N10 fun p hp => List.mem_append_right [] (List.mem_append_right led2 (.tail _ (.tail _ (.tail _ (.tail _ hp)))))
    · exfalso
      have := e2 (by omega)
      omega
    · exfalso
      have := e2 (by omega)
      omega
end Mine
end
section
open PySem PySem.W PyProof.Rows PySem.Calls PyProof.V PySem.Spec
namespace Mine
theorem slice_to {x : Str} {j : Nat} (h : j ≤ x.cps.toList.length) : (Txt.slice x none (some (j : Int))).cps.toList = x.cps.toList.take j := by
  have e : Txt.slice x none (some (j : Int)) = ⟨((x.cps.toList.drop 0).take ((j : Int) - 0).toNat).toArray⟩ := StrLaws.sliceText_to (x := x) (j := (j : Int)) ⟨by omega, by omega⟩
  rw [e]
  simp
theorem slice_from {x : Str} {i : Nat} (h : i ≤ x.cps.toList.length) : (Txt.slice x (some (i : Int)) none).cps.toList = x.cps.toList.drop i := by
  have e : Txt.slice x (some (i : Int)) none = ⟨((x.cps.toList.drop (i : Int).toNat).take ((x.cps.toList.length : Int) - (i : Int)).toNat).toArray⟩ := StrLaws.sliceText_from (x := x) (i := (i : Int)) ⟨by omega, by omega⟩
  rw [e]
  have : ((x.cps.toList.length : Int) - (i : Int)).toNat = (x.cps.toList.drop i).length := by rw [List.length_drop]; omega
  rw [this, Int.toNat_natCast, List.take_length]
/-- a row, turned -/
noncomputable def turnL (row : List Int) (k : Nat) : List Int := row.drop k ++ row.take k
noncomputable def abC (k : Int) : Nat := if k = 0 then 97 else 98
theorem turned_codes {row : List Int} (h : Bin row) {k : Nat} (hk : k ≤ row.length) : (turned (wordT row) (k : Int)).cps.toList = (turnL row k).map abC := by
  have hc := word_codes h
  have hl : k ≤ (wordT row).cps.toList.length := by rw [hc, List.length_map]; exact hk
  unfold turned turnL
  rw [Str.cps_append, Array.toList_append, slice_from hl, slice_to hl, hc, List.map_append, List.map_drop, List.map_take]
  rfl
theorem turnL_len (row : List Int) {k : Nat} (hk : k ≤ row.length) : (turnL row k).length = row.length := by
  unfold turnL
  rw [List.length_append, List.length_drop, List.length_take]
  omega
theorem turnL_bin {row : List Int} (h : Bin row) (k : Nat) : Bin (turnL row k) := by
  intro x hx
  rcases List.mem_append.mp hx with hx | hx
  · exact h x (List.mem_of_mem_drop hx)
  · exact h x (List.mem_of_mem_take hx)
theorem abC_inj : ∀ {a b : List Int}, Bin a → Bin b → a.map abC = b.map abC → a = b := by
  intro a
  induction a with
  | nil => intro b _ _ h; cases b with | nil => rfl | cons _ _ => simp at h
  | cons x l ih =>
    intro b ha hb h
    cases b with
    | nil => simp at h
    | cons y r =>
      rw [List.map_cons, List.map_cons] at h
      have h1 := (List.cons.inj h).1
      have h2 := ih (fun k hk => ha k (.tail _ hk)) (fun k hk => hb k (.tail _ hk)) (List.cons.inj h).2
      rw [h2]
      congr 1
      rcases ha x (.head _) with rfl | rfl <;> rcases hb y (.head _) with rfl | rfl <;> first | rfl | (simp [abC] at h1)
noncomputable def noBL (t : List Int) (n j : Nat) : Bool := !decide (t.take j = t.drop (n - j))
theorem noB_list {row : List Int} (h : Bin row) {k j : Nat} (hk : k ≤ row.length) (hj : j ≤ row.length) : noB (wordT row) (k : Int) (j : Int) = noBL (turnL row k) row.length j := by
  unfold noB noBL
  have hT := turned_codes h hk
  have hl : (turned (wordT row) (k : Int)).cps.toList.length = row.length := by rw [hT, List.length_map, turnL_len row hk]
  have e : ((wordT row).length : Int) - (j : Int) = ((row.length - j : Nat) : Int) := by rw [word_len h]; omega
  rw [e]
  have c1 : (Txt.slice (turned (wordT row) (k : Int)) none (some (j : Int))).cps.toList = ((turnL row k).take j).map abC := by
    rw [slice_to (by omega), hT, List.map_take]
  have c2 : (Txt.slice (turned (wordT row) (k : Int)) (some ((row.length - j : Nat) : Int)) none).cps.toList = ((turnL row k).drop (row.length - j)).map abC := by
    rw [slice_from (by omega), hT, List.map_drop]
  generalize Txt.slice (turned (wordT row) (k : Int)) none (some (j : Int)) = x at c1 ⊢
  generalize Txt.slice (turned (wordT row) (k : Int)) (some ((row.length - j : Nat) : Int)) none = y at c2 ⊢
  have b := turnL_bin h k
  by_cases q : (turnL row k).take j = (turnL row k).drop (row.length - j)
  · rw [decide_eq_true q]
    have : x = y := str_ext (by rw [c1, c2, q])
    rw [this]
    simp
  · rw [decide_eq_false q]
    have : x ≠ y := fun e => q (abC_inj (fun z hz => b z (List.mem_of_mem_take hz)) (fun z hz => b z (List.mem_of_mem_drop hz)) (by rw [← c1, ← c2, e]))
    simpa using this
noncomputable def aloneB (row : List Int) (k : Nat) : Int := if (List.range (row.length - 1)).all fun j => noBL (turnL row k) row.length (j + 1) then 1 else 0
noncomputable def aloneL (row : List Int) : List Int := (List.range row.length).map (aloneB row)
theorem all_same {f g : Nat → Bool} : ∀ l : List Nat, (∀ j ∈ l, f j = g j) → l.all f = l.all g
  | [], _ => rfl
  | a :: l, h => by rw [List.all_cons, List.all_cons, h a (.head _), all_same l fun j hj => h j (.tail _ hj)]
theorem alone_list {row : List Int} (h : Bin row) : aloneT row = aloneL row := by
  unfold aloneT aloneL rangeKs
  rw [List.map_map, word_len h]
  refine List.map_congr_left fun k hk => ?_
  have hk' := List.mem_range.mp hk
  show aloneAt (wordT row) ((0 : Int) + (k : Int)) = aloneB row k
  rw [Int.zero_add]
  unfold aloneAt aloneB
  rw [word_len h]
  have e := all_same (f := fun j => noB (wordT row) (k : Int) ((j : Int) + 1)) (g := fun j => noBL (turnL row k) row.length (j + 1)) (List.range (row.length - 1)) fun j hj => by
    have ha := List.mem_range.mp hj
    exact noB_list h (k := k) (j := j + 1) (Nat.le_of_lt hk') (by omega)
  rw [e]
end Mine
end
section
open PySem PySem.W PyProof.Rows PySem.Calls PyProof.V PySem.Spec
namespace Mine
noncomputable def runL : Nat → List (List Int) → List Int → Option (List (List Int) × Nat)
  | 0, _, _ => none
  | f + 1, ws, row => if roundOf row = aloneL row then match findRow ws row with
    | some i => some (ws, i)
    | none => runL f (ws ++ [row]) (roundOf row)
    else none
theorem runP_L : ∀ (f : Nat) (ws : List (List Int)) (row : List Int), Bin row → runP f ws row = runL f ws row
  | 0, _, _, _ => rfl
  | f + 1, ws, row, h => by
    unfold runP runL
    rw [alone_list h]
    by_cases e : roundOf row = aloneL row
    · rw [if_pos e, if_pos e]
      cases findRow ws row with
      | some i => rfl
      | none => exact runP_L f _ _ (by rw [e, ← alone_list h]; exact alone_bin row)
    · rw [if_neg e, if_neg e]
/-- a ring by its number -/
noncomputable def rowN (n x : Nat) : List Int := (List.range n).map fun i => if x.testBit (n - 1 - i) then 1 else 0
noncomputable def valN (row : List Int) : Nat := row.foldl (fun a k => 2 * a + k.toNat) 0
theorem rowN_bin (n x : Nat) : Bin (rowN n x) := by
  intro k hk
  obtain ⟨i, _, rfl⟩ := List.mem_map.mp hk
  split
  · exact .inr rfl
  · exact .inl rfl
theorem rowN_len (n x : Nat) : (rowN n x).length = n := by unfold rowN; rw [List.length_map, List.length_range]
/-- the tables: the next ring, the rings that are reached, the rings whose lead equals the next one's -/
structure Tab where
  n : Nat
  T : Nat
  M : Nat
  E : Nat
noncomputable def nx (t : Tab) (x : Nat) : Nat := (t.T >>> (t.n * x)) % 2 ^ t.n
noncomputable def chk (t : Tab) (x : Nat) : Bool := !t.M.testBit x || (decide (roundOf (rowN t.n x) = rowN t.n (nx t x)) && (decide (aloneL (rowN t.n x) = rowN t.n (nx t x)) && ((eqR (leadOf (rowN t.n x)) (leadOf (rowN t.n (nx t x))) == t.E.testBit x) && stepOK (leadOf (rowN t.n x)) (leadOf (rowN t.n (nx t x))))))
noncomputable def runN (t : Tab) : Nat → List Nat → Nat → Option (List Nat × Nat)
  | 0, _, _ => none
  | f + 1, ws, x => if t.M.testBit x then match ws.findIdx? (· == x) with
    | some i => some (ws, i)
    | none => runN t f (ws ++ [x]) (nx t x)
    else none
noncomputable def lawN (t : Tab) (x : Nat) : Bool := match runN t 20 [] x with
  | some (ws, i) => decide (1 ≤ ws.length) && (decide (ws.length ≤ 20) && (((List.range ws.length).all fun k => t.E.testBit (ws.getD k 0) == decide ((i : Int) ≤ (k : Int))) && endOK (leadOf (rowN t.n (ws.getD i 0))) (ws.length - i) t.n))
  | none => false
/-- what the tables must be -/
structure Good (t : Tab) : Prop where
  chk : ∀ x, x < 2 ^ t.n → chk t x = true
  inj : ∀ x, x < 2 ^ t.n → valN (rowN t.n x) = x
theorem good_at {t : Tab} (G : Good t) {x : Nat} (hx : x < 2 ^ t.n) (hm : t.M.testBit x = true) : roundOf (rowN t.n x) = rowN t.n (nx t x) ∧ aloneL (rowN t.n x) = rowN t.n (nx t x) ∧ eqR (leadOf (rowN t.n x)) (leadOf (rowN t.n (nx t x))) = t.E.testBit x ∧ stepOK (leadOf (rowN t.n x)) (leadOf (rowN t.n (nx t x))) = true := by
  have h := G.chk x hx
  unfold Mine.chk at h
  rw [hm] at h
  simp only [Bool.not_true, Bool.false_or, Bool.and_eq_true, decide_eq_true_eq, beq_iff_eq] at h
  exact h
theorem nx_lt (t : Tab) (x : Nat) : nx t x < 2 ^ t.n := Nat.mod_lt _ (Nat.two_pow_pos _)
theorem rowN_eq {t : Tab} (G : Good t) {x y : Nat} (hx : x < 2 ^ t.n) (hy : y < 2 ^ t.n) (e : rowN t.n x = rowN t.n y) : x = y := by
  rw [← G.inj x hx, ← G.inj y hy, e]
theorem find_rel {t : Tab} (G : Good t) {x : Nat} (hx : x < 2 ^ t.n) : ∀ ws : List Nat, (∀ y ∈ ws, y < 2 ^ t.n) → findRow (ws.map (rowN t.n)) (rowN t.n x) = ws.findIdx? (· == x) := by
  intro ws
  unfold findRow
  induction ws with
  | nil => intro _; rfl
  | cons a l ih =>
    intro h
    rw [List.map_cons, List.findIdx?_cons, List.findIdx?_cons, ih fun y hy => h y (.tail _ hy)]
    by_cases e : a = x
    · subst e; simp
    · have : rowN t.n a ≠ rowN t.n x := fun q => e (rowN_eq G (h a (.head _)) hx q)
      simp [e, this]
theorem getD_app (a b : List Nat) (k : Nat) (h : k < a.length) : (a ++ b).getD k 0 = a.getD k 0 := by
  rw [List.getD_eq_getElem?_getD, List.getD_eq_getElem?_getD, List.getElem?_append_left h]
/-- each ring is followed by its next -/
noncomputable def ChainN (t : Tab) (ws : List Nat) (x : Nat) : Prop := (∀ k, k < ws.length → (ws ++ [x]).getD (k + 1) 0 = nx t ((ws ++ [x]).getD k 0)) ∧ ∀ k, k < ws.length → t.M.testBit (ws.getD k 0) = true
theorem ChainN.snoc {t : Tab} {ws : List Nat} {x : Nat} (h : ChainN t ws x) (hm : t.M.testBit x = true) : ChainN t (ws ++ [x]) (nx t x) := by
  refine ⟨fun k hk => ?_, fun k hk => ?_⟩
  · rw [List.length_append, List.length_singleton] at hk
    by_cases q : k < ws.length
    · have := h.1 k q
      have l1 : k + 1 < (ws ++ [x]).length := by rw [List.length_append, List.length_singleton]; omega
      have l2 : k < (ws ++ [x]).length := by omega
      rw [getD_app _ _ _ l1, getD_app _ _ _ l2]
      exact this
    · have : k = ws.length := by omega
      subst this
      simp
  · rw [List.length_append, List.length_singleton] at hk
    by_cases q : k < ws.length
    · rw [getD_app _ _ _ q]; exact h.2 k q
    · have : k = ws.length := by omega
      subst this
      simpa using hm
theorem run_rel {t : Tab} (G : Good t) : ∀ (f : Nat) (ws : List Nat) (x : Nat) (ws' : List Nat) (i : Nat), x < 2 ^ t.n → (∀ y ∈ ws, y < 2 ^ t.n) → ChainN t ws x → runN t f ws x = some (ws', i) →
    runL f (ws.map (rowN t.n)) (rowN t.n x) = some (ws'.map (rowN t.n), i) ∧ (∀ y ∈ ws', y < 2 ^ t.n) ∧ i < ws'.length ∧ ChainN t ws' (ws'.getD i 0)
  | 0, _, _, _, _, _, _, _, h => by cases h
  | f + 1, ws, x, ws', i, hx, hw, hc, h => by
    unfold runN at h
    cases hm : t.M.testBit x with
    | false => rw [hm] at h; cases h
    | true =>
      rw [hm, if_pos rfl] at h
      obtain ⟨g1, g2, _, _⟩ := good_at G hx hm
      unfold runL
      rw [if_pos (g1.trans g2.symm), find_rel G hx ws hw]
      cases hf : ws.findIdx? (· == x) with
      | some j =>
        rw [hf] at h
        have e := Option.some.inj h
        have e1 : ws = ws' := congrArg (·.1) e
        have e2 : j = i := congrArg (·.2) e
        subst e1 e2
        obtain ⟨hj, hjx, _⟩ := List.findIdx?_eq_some_iff_getElem.mp hf
        refine ⟨rfl, hw, hj, ?_⟩
        have : ws.getD j 0 = x := by
          rw [List.getD_eq_getElem?_getD, List.getElem?_eq_getElem hj]
          simpa using hjx
        rw [this]
        exact hc
      | none =>
        rw [hf] at h
        have ih := run_rel G f (ws ++ [x]) (nx t x) ws' i (nx_lt t x) (fun y hy => by
          rcases List.mem_append.mp hy with hy | hy
          · exact hw y hy
          · rw [List.mem_singleton.mp hy]; exact hx) (hc.snoc hm) h
        rw [List.map_append] at ih
        dsimp only
        rw [g1]
        exact ih
theorem law_N {t : Tab} (G : Good t) {x : Nat} (hx : x < 2 ^ t.n) (h : lawN t x = true) : ∃ ws i, runP 20 [] (rowN t.n x) = some (ws, i) ∧ ws ≠ [] ∧ ws.length ≤ 20 ∧ i ≤ 20 ∧
    ∀ lrow, findRow ws lrow = some i → turnsOK (ws ++ [lrow]) ws.length i = true ∧ endOK (leadOf lrow) (ws.length - i) t.n = true := by
  unfold lawN at h
  cases hr : runN t 20 [] x with
  | none => rw [hr] at h; cases h
  | some r =>
    obtain ⟨ws, i⟩ := r
    rw [hr] at h
    simp only [Bool.and_eq_true, decide_eq_true_eq] at h
    obtain ⟨h1, h2, h3, h4⟩ := h
    obtain ⟨r1, r2, r3, r4⟩ := run_rel G 20 [] x ws i hx (fun _ h => nomatch h) ⟨fun k hk => absurd hk (Nat.not_lt_zero k), fun k hk => absurd hk (Nat.not_lt_zero k)⟩ hr
    refine ⟨ws.map (rowN t.n), i, (runP_L 20 [] _ (rowN_bin _ _)).trans r1, ?_, ?_, by omega, ?_⟩
    · intro e
      rw [List.map_eq_nil_iff] at e
      rw [e] at h1
      exact absurd h1 (by decide)
    · rw [List.length_map]; exact h2
    · intro lrow hl
      obtain ⟨hj, hjx, _⟩ := List.findIdx?_eq_some_iff_getElem.mp hl
      have hlr : lrow = rowN t.n (ws.getD i 0) := by
        rw [List.getD_eq_getElem?_getD, List.getElem?_eq_getElem r3]
        have : (ws.map (rowN t.n))[i] = lrow := by simpa using hjx
        rw [← this]
        simp
      subst hlr
      rw [List.length_map]
      refine ⟨?_, h4⟩
      have hm : ws.map (rowN t.n) ++ [rowN t.n (ws.getD i 0)] = (ws ++ [ws.getD i 0]).map (rowN t.n) := by rw [List.map_append]; rfl
      rw [hm]
      unfold turnsOK
      refine List.all_eq_true.mpr fun k hk => ?_
      have hk' := List.mem_range.mp hk
      have gd : ∀ j, j < ws.length + 1 → ((ws ++ [ws.getD i 0]).map (rowN t.n)).getD j [] = rowN t.n ((ws ++ [ws.getD i 0]).getD j 0) := by
        intro j hj
        have : j < (ws ++ [ws.getD i 0]).length := by rw [List.length_append]; exact hj
        generalize ws ++ [ws.getD i 0] = rs at this ⊢
        rw [List.getD_eq_getElem?_getD, List.getD_eq_getElem?_getD, List.getElem?_map, List.getElem?_eq_getElem this]
        rfl
      rw [gd k (by omega), gd (k + 1) (by omega), r4.1 k hk']
      have e : (ws ++ [ws.getD i 0]).getD k 0 = ws.getD k 0 := getD_app _ _ _ hk'
      rw [e]
      have hin : ws.getD k 0 ∈ ws := by
        rw [List.getD_eq_getElem?_getD, List.getElem?_eq_getElem hk']
        exact List.getElem_mem hk'
      obtain ⟨_, _, g3, g4⟩ := good_at G (r2 _ hin) (r4.2 k hk')
      have h3k := List.all_eq_true.mp h3 k hk
      rw [g3, g4, Bool.and_true]
      exact h3k
/-- all rings of a length -/
noncomputable def rowsN : Nat → List (List Int)
  | 0 => [[]]
  | n + 1 => (rowsN n).flatMap fun r => [0 :: r, 1 :: r]
theorem rows_all : ∀ {row : List Int}, Bin row → row ∈ rowsN row.length
  | [], _ => .head _
  | k :: r, h => by
    rw [List.length_cons, rowsN, List.mem_flatMap]
    refine ⟨r, rows_all fun k hk => h k (.tail _ hk), ?_⟩
    rcases h k (.head _) with rfl | rfl
    · exact .head _
    · exact .tail _ (.head _)
noncomputable def startOK (t : Tab) (r : List Int) : Bool := decide (rowN t.n (valN (r ++ [0])) = r ++ [0]) && (decide (valN (r ++ [0]) < 2 ^ t.n) && lawN t (valN (r ++ [0])))
theorem law_start {t : Tab} (G : Good t) {r : List Int} (h : startOK t r = true) : ∃ ws i, runP 20 [] (r ++ [0]) = some (ws, i) ∧ ws ≠ [] ∧ ws.length ≤ 20 ∧ i ≤ 20 ∧
    ∀ lrow, findRow ws lrow = some i → turnsOK (ws ++ [lrow]) ws.length i = true ∧ endOK (leadOf lrow) (ws.length - i) t.n = true := by
  unfold startOK at h
  simp only [Bool.and_eq_true, decide_eq_true_eq] at h
  obtain ⟨h1, h2, h3⟩ := h
  have := law_N G h2 h3
  rw [h1] at this
  exact this
end Mine
end
section
open PySem PySem.W PyProof.Rows PySem.Calls PyProof.V PySem.Spec
namespace Mine
set_option maxHeartbeats 4000000
theorem range_all {P : Nat → Bool} : ∀ (a n : Nat), ((List.range' a n).all P) = true → ∀ x, a ≤ x → x < a + n → P x = true := fun a n h x h1 h2 =>
  List.all_eq_true.mp h x (List.mem_range'_1.mpr ⟨h1, h2⟩)
noncomputable def t7 : Tab := ⟨7, 2096024951003698706658599528890221291557438288383828260292454569670643316086384390797773989586414011191955020722072050783701055693308724690364303798286007002727898719264329120237111344213939622979475181031006093725272517871002570026176517984914462739840350503431094272, 113427455640312821191351692969729546109, 5017514388134897779201⟩
theorem chk7'0 : ((List.range' 0 32).all (chk t7)) = true := by decide +kernel
theorem chk7'1 : ((List.range' 32 32).all (chk t7)) = true := by decide +kernel
theorem chk7'2 : ((List.range' 64 32).all (chk t7)) = true := by decide +kernel
theorem chk7'3 : ((List.range' 96 32).all (chk t7)) = true := by decide +kernel
theorem inj7 : ((List.range' 0 128).all fun x => valN (rowN 7 x) == x) = true := by decide +kernel
theorem good7 : Good t7 := by
  refine ⟨fun x hx => ?_, fun x hx => beq_iff_eq.mp (range_all 0 128 inj7 x (Nat.zero_le _) hx)⟩
  replace hx : x < 128 := hx
  by_cases h0 : x < 32
  · exact range_all 0 32 chk7'0 x (by omega) (by omega)
  by_cases h1 : x < 64
  · exact range_all 32 32 chk7'1 x (by omega) (by omega)
  by_cases h2 : x < 96
  · exact range_all 64 32 chk7'2 x (by omega) (by omega)
  exact range_all 96 32 chk7'3 x (by omega) (by omega)
theorem start7'0 : ((rowsN 5).all fun r => startOK t7 (0 :: r)) = true := by decide +kernel
theorem start7'1 : ((rowsN 5).all fun r => startOK t7 (1 :: r)) = true := by decide +kernel
theorem start7 : ∀ r : List Int, Bin r → r.length = 6 → startOK t7 r = true
  | [], _, h => absurd h (by decide : ¬ 0 = 6)
  | a :: r, hb, h => by
    have hm := rows_all (row := r) (fun k hk => hb k (.tail _ (hk)))
    have hl : r.length = 5 := by simp only [List.length_cons] at h; omega
    rw [hl] at hm
    have qa := hb a (.head _)
    rcases qa with rfl | rfl
    · exact List.all_eq_true.mp start7'0 r hm
    · exact List.all_eq_true.mp start7'1 r hm
noncomputable def t8 : Tab := ⟨8, 63613249047570725476689077971258220980039078552268750339224685603128114461841440990089699906108006333293163210579334839957768165991452002976789352102521949680228346067562335817211162205512904734749945919204223105483803532474759048693335869661871043986738431331085157880486132195037798941825509728991294275993401245540353113854688767193498430410113531512449736980432472300285894401811371227665890977733809192328852170509846425032695573677353988630523703494317920781404007247501947850037981759038330650060185573646746365330669250638667836555010126436394043122759185860170809664743772796015211781083137256137173434368, 38597363079105398474523661669562635951770559622388772720295733048150322534269, 1⟩
theorem chk8'0 : ((List.range' 0 32).all (chk t8)) = true := by decide +kernel
theorem chk8'1 : ((List.range' 32 32).all (chk t8)) = true := by decide +kernel
theorem chk8'2 : ((List.range' 64 32).all (chk t8)) = true := by decide +kernel
theorem chk8'3 : ((List.range' 96 32).all (chk t8)) = true := by decide +kernel
theorem chk8'4 : ((List.range' 128 32).all (chk t8)) = true := by decide +kernel
theorem chk8'5 : ((List.range' 160 32).all (chk t8)) = true := by decide +kernel
theorem chk8'6 : ((List.range' 192 32).all (chk t8)) = true := by decide +kernel
theorem chk8'7 : ((List.range' 224 32).all (chk t8)) = true := by decide +kernel
theorem inj8 : ((List.range' 0 256).all fun x => valN (rowN 8 x) == x) = true := by decide +kernel
theorem good8 : Good t8 := by
  refine ⟨fun x hx => ?_, fun x hx => beq_iff_eq.mp (range_all 0 256 inj8 x (Nat.zero_le _) hx)⟩
  replace hx : x < 256 := hx
  by_cases h0 : x < 32
  · exact range_all 0 32 chk8'0 x (by omega) (by omega)
  by_cases h1 : x < 64
  · exact range_all 32 32 chk8'1 x (by omega) (by omega)
  by_cases h2 : x < 96
  · exact range_all 64 32 chk8'2 x (by omega) (by omega)
  by_cases h3 : x < 128
  · exact range_all 96 32 chk8'3 x (by omega) (by omega)
  by_cases h4 : x < 160
  · exact range_all 128 32 chk8'4 x (by omega) (by omega)
  by_cases h5 : x < 192
  · exact range_all 160 32 chk8'5 x (by omega) (by omega)
  by_cases h6 : x < 224
  · exact range_all 192 32 chk8'6 x (by omega) (by omega)
  exact range_all 224 32 chk8'7 x (by omega) (by omega)
theorem start8'00 : ((rowsN 5).all fun r => startOK t8 (0 :: 0 :: r)) = true := by decide +kernel
theorem start8'01 : ((rowsN 5).all fun r => startOK t8 (0 :: 1 :: r)) = true := by decide +kernel
theorem start8'10 : ((rowsN 5).all fun r => startOK t8 (1 :: 0 :: r)) = true := by decide +kernel
theorem start8'11 : ((rowsN 5).all fun r => startOK t8 (1 :: 1 :: r)) = true := by decide +kernel
theorem start8 : ∀ r : List Int, Bin r → r.length = 7 → startOK t8 r = true
  | [], _, h => absurd h (by decide : ¬ 0 = 7)
  | [_], _, h => absurd h (by decide : ¬ 1 = 7)
  | a :: b :: r, hb, h => by
    have hm := rows_all (row := r) (fun k hk => hb k (.tail _ (.tail _ (hk))))
    have hl : r.length = 5 := by simp only [List.length_cons] at h; omega
    rw [hl] at hm
    have qa := hb a (.head _)
    have qb := hb b (.tail _ (.head _))
    rcases qa with rfl | rfl
    · rcases qb with rfl | rfl
      · exact List.all_eq_true.mp start8'00 r hm
      · exact List.all_eq_true.mp start8'01 r hm
    · rcases qb with rfl | rfl
      · exact List.all_eq_true.mp start8'10 r hm
      · exact List.all_eq_true.mp start8'11 r hm
noncomputable def t9 : Tab := ⟨9, 13728240668792811807602951398416398538615375271859632623126329334843635763715926501803081019107156462779190552658514793811647968740339647710139376944935827445775248425512038674243812577102132554932687695520841769578615287973524984984335476959817262788463730487525749376469714864980041146280579343141329267465715174281869671761906478610568883761450326738391948210421474345170299816453085942474903687017958727486381842386075537870737524922345879881663964925359796763252197412280971217445314867857577285241420764433190810443411458657754530629462369692213074945083568026986639002102408251529836551640094462884185926484789758623830251652953572658719999417784344820672123531568265717597029318822580049267154675473718814787186796952445197906274879882454148371655781894211238587803910753989098622280551639451428584574402102629760453739786601186135613186000775826738993566061241953849184158744647150001570273110741822565382664413136965915317092668138298150220653713789812574415305666663525069544847829463755452538058943318575662374122423625843128008021952553334514138009303196724182592761890887565587034489627078212242803362755790885164703925969428967801685907884020106520577518086155278775319335594130953725187436687349930630681191262025936133799113612815396302561768109960158800144044514845079109480899443610752536546558239262467534671943805001287670184352364232400649915694430143293575397376, 4469269309980865699858008332735282042493121940197464459241187147907254676691413909779099398446481617867492642530262360836301806571769835940425200819459965, 7618193135101507129307582245691594833482431387925626484546055773876723566185152513⟩
theorem chk9'0 : ((List.range' 0 32).all (chk t9)) = true := by decide +kernel
theorem chk9'1 : ((List.range' 32 32).all (chk t9)) = true := by decide +kernel
theorem chk9'2 : ((List.range' 64 32).all (chk t9)) = true := by decide +kernel
theorem chk9'3 : ((List.range' 96 32).all (chk t9)) = true := by decide +kernel
theorem chk9'4 : ((List.range' 128 32).all (chk t9)) = true := by decide +kernel
theorem chk9'5 : ((List.range' 160 32).all (chk t9)) = true := by decide +kernel
theorem chk9'6 : ((List.range' 192 32).all (chk t9)) = true := by decide +kernel
theorem chk9'7 : ((List.range' 224 32).all (chk t9)) = true := by decide +kernel
theorem chk9'8 : ((List.range' 256 32).all (chk t9)) = true := by decide +kernel
theorem chk9'9 : ((List.range' 288 32).all (chk t9)) = true := by decide +kernel
theorem chk9'10 : ((List.range' 320 32).all (chk t9)) = true := by decide +kernel
theorem chk9'11 : ((List.range' 352 32).all (chk t9)) = true := by decide +kernel
theorem chk9'12 : ((List.range' 384 32).all (chk t9)) = true := by decide +kernel
theorem chk9'13 : ((List.range' 416 32).all (chk t9)) = true := by decide +kernel
theorem chk9'14 : ((List.range' 448 32).all (chk t9)) = true := by decide +kernel
theorem chk9'15 : ((List.range' 480 32).all (chk t9)) = true := by decide +kernel
theorem inj9 : ((List.range' 0 512).all fun x => valN (rowN 9 x) == x) = true := by decide +kernel
theorem good9 : Good t9 := by
  refine ⟨fun x hx => ?_, fun x hx => beq_iff_eq.mp (range_all 0 512 inj9 x (Nat.zero_le _) hx)⟩
  replace hx : x < 512 := hx
  by_cases h0 : x < 32
  · exact range_all 0 32 chk9'0 x (by omega) (by omega)
  by_cases h1 : x < 64
  · exact range_all 32 32 chk9'1 x (by omega) (by omega)
  by_cases h2 : x < 96
  · exact range_all 64 32 chk9'2 x (by omega) (by omega)
  by_cases h3 : x < 128
  · exact range_all 96 32 chk9'3 x (by omega) (by omega)
  by_cases h4 : x < 160
  · exact range_all 128 32 chk9'4 x (by omega) (by omega)
  by_cases h5 : x < 192
  · exact range_all 160 32 chk9'5 x (by omega) (by omega)
  by_cases h6 : x < 224
  · exact range_all 192 32 chk9'6 x (by omega) (by omega)
  by_cases h7 : x < 256
  · exact range_all 224 32 chk9'7 x (by omega) (by omega)
  by_cases h8 : x < 288
  · exact range_all 256 32 chk9'8 x (by omega) (by omega)
  by_cases h9 : x < 320
  · exact range_all 288 32 chk9'9 x (by omega) (by omega)
  by_cases h10 : x < 352
  · exact range_all 320 32 chk9'10 x (by omega) (by omega)
  by_cases h11 : x < 384
  · exact range_all 352 32 chk9'11 x (by omega) (by omega)
  by_cases h12 : x < 416
  · exact range_all 384 32 chk9'12 x (by omega) (by omega)
  by_cases h13 : x < 448
  · exact range_all 416 32 chk9'13 x (by omega) (by omega)
  by_cases h14 : x < 480
  · exact range_all 448 32 chk9'14 x (by omega) (by omega)
  exact range_all 480 32 chk9'15 x (by omega) (by omega)
theorem start9'000 : ((rowsN 5).all fun r => startOK t9 (0 :: 0 :: 0 :: r)) = true := by decide +kernel
theorem start9'001 : ((rowsN 5).all fun r => startOK t9 (0 :: 0 :: 1 :: r)) = true := by decide +kernel
theorem start9'010 : ((rowsN 5).all fun r => startOK t9 (0 :: 1 :: 0 :: r)) = true := by decide +kernel
theorem start9'011 : ((rowsN 5).all fun r => startOK t9 (0 :: 1 :: 1 :: r)) = true := by decide +kernel
theorem start9'100 : ((rowsN 5).all fun r => startOK t9 (1 :: 0 :: 0 :: r)) = true := by decide +kernel
theorem start9'101 : ((rowsN 5).all fun r => startOK t9 (1 :: 0 :: 1 :: r)) = true := by decide +kernel
theorem start9'110 : ((rowsN 5).all fun r => startOK t9 (1 :: 1 :: 0 :: r)) = true := by decide +kernel
theorem start9'111 : ((rowsN 5).all fun r => startOK t9 (1 :: 1 :: 1 :: r)) = true := by decide +kernel
theorem start9 : ∀ r : List Int, Bin r → r.length = 8 → startOK t9 r = true
  | [], _, h => absurd h (by decide : ¬ 0 = 8)
  | [_], _, h => absurd h (by decide : ¬ 1 = 8)
  | [_, _], _, h => absurd h (by decide : ¬ 2 = 8)
  | a :: b :: c :: r, hb, h => by
    have hm := rows_all (row := r) (fun k hk => hb k (.tail _ (.tail _ (.tail _ (hk)))))
    have hl : r.length = 5 := by simp only [List.length_cons] at h; omega
    rw [hl] at hm
    have qa := hb a (.head _)
    have qb := hb b (.tail _ (.head _))
    have qc := hb c (.tail _ (.tail _ (.head _)))
    rcases qa with rfl | rfl
    · rcases qb with rfl | rfl
      · rcases qc with rfl | rfl
        · exact List.all_eq_true.mp start9'000 r hm
        · exact List.all_eq_true.mp start9'001 r hm
      · rcases qc with rfl | rfl
        · exact List.all_eq_true.mp start9'010 r hm
        · exact List.all_eq_true.mp start9'011 r hm
    · rcases qb with rfl | rfl
      · rcases qc with rfl | rfl
        · exact List.all_eq_true.mp start9'100 r hm
        · exact List.all_eq_true.mp start9'101 r hm
      · rcases qc with rfl | rfl
        · exact List.all_eq_true.mp start9'110 r hm
        · exact List.all_eq_true.mp start9'111 r hm
end Mine
end
section
open PySem PySem.W PyProof.Rows PySem.Calls PyProof.V PySem.Spec
namespace Mine
theorem fillLaw (w : World) (h : Heap) : (K w.params).In h → PySem.Challenge.rw_tp0056_01.foot = 8 := by
  k_fill
  intro _
  rfl
theorem strs_get : ∀ {vs : List Value} {ns : List Str}, StrsAre vs ns → ∀ {i : Nat} {v : Value}, vs[i]? = some v → ∃ k t, ns[i]? = some k ∧ v = .str k t
  | _, _, .nil, i, v, h => by simp at h
  | _, _, .cons k t r, 0, v, h => by
    simp at h
    exact ⟨k, t, rfl, h.symm⟩
  | _, _, .cons k t r, i + 1, v, h => by
    obtain ⟨a, b, c, d⟩ := strs_get r (i := i) (by simpa using h)
    exact ⟨a, b, by simpa using c, d⟩
theorem strs_map {f : Str → Str} : ∀ {ys : List Value} {ns : List Str}, ys.length = ns.length → (∀ (i : Nat) y, ys[i]? = some y → ∃ k t, ns[i]? = some k ∧ y = .str (f k) t) → StrsAre ys (ns.map f)
  | [], [], _, _ => .nil
  | [], _ :: _, h, _ => by simp at h
  | _ :: _, [], h, _ => by simp at h
  | y :: ys, n :: ns, h, g => by
    obtain ⟨k, t, hk, rfl⟩ := g 0 y rfl
    simp at hk
    subst hk
    exact .cons _ _ (strs_map (by simpa using h) fun i y hy => by
      obtain ⟨k, t, a, b⟩ := g (i + 1) y (by simpa using hy)
      exact ⟨k, t, by simpa using a, b⟩)
theorem strs_canLay : ∀ ns : List Str, (∀ x ∈ ns, PyData.strOk x = true) → PyData.canLayAll0 (ns.map PyData.str) = true
  | [], _ => rfl
  | _ :: r, h => by simp [PyData.canLayAll0, PyData.canLay0, strs_canLay r fun x hx => h x (.tail _ hx), h _ (.head _)]
theorem strs_depth : ∀ ns : List Str, PyData.depthAll (ns.map PyData.str) = 0
  | [] => rfl
  | _ :: r => by simp [PyData.depthAll, PyData.depth, strs_depth r]
theorem strs_shaped {ns : List Str} (h : ∀ x ∈ ns, PyData.strOk x = true) : SeqAt.shaped (.list (ns.map PyData.str)) = true := by
  simp [SeqAt.shaped, PyData.canLay0, PyData.depth, strs_canLay ns h, strs_depth]
theorem strs_sameAll : ∀ ns ms : List Str, PySem.Spec.sameAll (ns.map PyData.str) (ms.map PyData.str) = decide (ns = ms)
  | [], [] => by simp [PySem.Spec.sameAll]
  | [], _ :: _ => by simp [PySem.Spec.sameAll]
  | _ :: _, [] => by simp [PySem.Spec.sameAll]
  | a :: r, b :: t => by
    simp only [List.map_cons, PySem.Spec.sameAll, PySem.Spec.same, strs_sameAll r t]
    by_cases h : a = b <;> by_cases h' : r = t <;> simp [h, h']
theorem strs_same (ns ms : List Str) : PySem.Spec.same (.list (ns.map PyData.str)) (.list (ms.map PyData.str)) = decide (ns = ms) := by
  simp only [PySem.Spec.same]; exact strs_sameAll ns ms
theorem strs_carried : ∀ {vs : List Value} {ns : List Str}, StrsAre vs ns → CarriedAll vs (ns.map PyData.str)
  | _, _, .nil => .nil
  | _, _, .cons _ t r => .cons (.str _ t) (strs_carried r)
section
variable {prog : Program} {w : World} {A : Around} {E : Value → Shared → Prop} {s : Shared} {a b : Addr} {xs ys : List Value} {ns ms : List Str} {Q : Value → Shared → Prop}
theorem eq_strL (ha : s.heap.IsList a xs.toArray) (hb : s.heap.IsList b ys.toArray) (hi : StrsAre xs ns) (hj : StrsAre ys ms) (o1 : ∀ x ∈ ns, PyData.strOk x = true) (o2 : ∀ x ∈ ms, PyData.strOk x = true) (hu : A.units + 64 < cLine) (h : Q (.bool (decide (ns = ms))) s) :
    wpAny (model prog w) A (compareOp .Eq (.ref a) (.ref b)) Q E s :=
  eq_dataH_same (reads_newData ha (strs_carried hi)) (reads_newData hb (strs_carried hj)) (strs_shaped o1) (strs_shaped o2) hu (SeqAt.noMix_of_shape (.list .str) rfl _ _ (list_map_has fun _ => rfl) (list_map_has fun _ => rfl)) (by rw [strs_same]; exact h)
theorem ne_strL (ha : s.heap.IsList a xs.toArray) (hb : s.heap.IsList b ys.toArray) (hi : StrsAre xs ns) (hj : StrsAre ys ms) (o1 : ∀ x ∈ ns, PyData.strOk x = true) (o2 : ∀ x ∈ ms, PyData.strOk x = true) (hu : A.units + 64 < cLine) (h : Q (.bool (!decide (ns = ms))) s) :
    wpAny (model prog w) A (compareOp .NotEq (.ref a) (.ref b)) Q E s :=
  ne_dataH_same (reads_newData ha (strs_carried hi)) (reads_newData hb (strs_carried hj)) (strs_shaped o1) (strs_shaped o2) hu (SeqAt.noMix_of_shape (.list .str) rfl _ _ (list_map_has fun _ => rfl) (list_map_has fun _ => rfl)) (by rw [strs_same]; exact h)
end
theorem names_cons {m f : Str → Option Value} {a : Str} {v : Value} (h : m a = some v) (e : m = f) : m = fun y => if y = a then some v else f y := by
  funext y
  by_cases q : y = a
  · rw [if_pos q, q, h]
  · rw [if_neg q, ← e]
noncomputable def lb332 : {b : List Stmt // fnBody (st 24) = b} := by
  refine' ⟨_, _⟩
  rotate_left
  · (conv => lhs; whnf)
noncomputable def ls332 : {b : Scope // fnScope (st 24) = b} := by
  refine' ⟨_, _⟩
  rotate_left
  · (conv => lhs; whnf)
theorem word_ok {ws : List (List Int)} (h : ∀ r ∈ ws, Bin r ∧ r.length ≤ 9) : ∀ x ∈ ws.map wordT, PyData.strOk x = true := by
  intro x hx
  obtain ⟨r, hr, rfl⟩ := List.mem_map.mp hx
  unfold PyData.strOk
  rw [← Array.all_toList, List.all_eq_true]
  intro c hc
  have := word_ab (h r hr).1 c hc
  simp only [abL, List.mem_cons, List.not_mem_nil, or_false] at this
  rcases this with rfl | rfl | rfl | rfl <;> rfl
theorem key_short {ws : List (List Int)} (h : ∀ r ∈ ws, Bin r ∧ r.length ≤ 9) : ∀ x ∈ (tabOf 0 ws).map (·.1), x.length ≤ 5592405 := by
  intro x hx
  obtain ⟨q, hq, rfl⟩ := List.mem_map.mp hx
  exact tab_keys 0 ws h q hq
noncomputable def lawRest : {b : List Stmt // lb332.1.drop 5 = b} := by
  refine' ⟨_, _⟩
  rotate_left
  · (conv => lhs; whnf)
local macro_rules | `(tactic| walk_at "eval ListComp") => `(tactic| (k_dflt (refine LCg.ListComp_U (F₀ := by k_asm) (by with_unfolding_all rfl) (by decide) (by rfl) (by decide) (by rfl) ?_)))
local macro_rules | `(tactic| walk_at "subscriptTail Name Slice ref ref") => `(tactic| (k_dflt (refine' kmk_slice_ints ?F ?N ?l ?p ?q ?i ?m ?c ?_ ?s ?t ?z; (case F => k_asm); (case N => k_asm); (case l => kmk_list); (case p => kmk_part); (case q => kmk_part); (case i => l_ints); (case m => first | exact kmk_from (by l_ints) (by omega) | exact kmk_upto (by l_ints) (by omega)); (case c => kmk_len); (case s => with_unfolding_all rfl); (case t => kmk_pure); (case z => assumption)); intro D' ws' h' F' N' l1 hI' hC' hL'; k_lt l1))
local macro_rules | `(tactic| walk_at "CompSrc") => `(tactic| refine held ?_)
local macro_rules | `(tactic| walk_at "call ref") => `(tactic| refine held ?_)
local macro_rules | `(tactic| walk_at "compareOp NotEq ref ref") => `(tactic| refine held ?_)
local macro_rules | `(tactic| walk_at "compareOp Eq ref ref") => `(tactic| refine held ?_)
local macro_rules | `(tactic| walk_at "call builtin:str.lower") => `(tactic| refine held ?_)
set_option maxHeartbeats 8000000 in
theorem law_b (w : World) {p : Program} {loose : List Str} {mean : ExcName → Option Value} {mg mb : Str → Option Value} {A₀ : Around} {base g : Heap} {outer : List Env} {L fa rl cl wl ll tb d hl : Addr} {cd : Value} {s : Shared} {kt t3 tz : Tok} {rv cv : List Value} {re ce : Nat} {ns cs lrow : List Int} {ws : List (List Int)} {z : Int} {iF : Nat} {c : RnS} {tl ldl : List (Addr × Obj)} {m₁ : Str → Option Value} {Post : Flow → Shared → Prop}
    (B : Below A₀ base outer g) (X : (K w.params).In g) (T : Top p loose mean mg mb g) (F : Fr g L s.heap m₁) (N : News g L s.heap (rnLed w wl ll tb d hl kt c ++ [(cl, listOf cv.toArray ce)])) (W : RnW w (rl, listOf rv.toArray re) c ws (ws ++ [lrow]) tl ldl)
    (f1 : m₁ (Str.ofString "row") = some (.ref rl)) (f2 : m₁ (Str.ofString "cells") = some (.ref cl)) (f3 : m₁ (Str.ofString "size") = some (.int z tz)) (f4 : m₁ (Str.ofString "words") = some (.ref wl)) (f5 : m₁ (Str.ofString "table") = some (.ref tb)) (f6 : m₁ (Str.ofString "leads") = some (.ref ll)) (f7 : m₁ (Str.ofString "first") = some (.int iF t3))
    (hI : IntsAre rv ns) (hC : IntsAre cv cs) (hcs : cs.length = 8) (hz0 : 7 ≤ z) (hz1 : z ≤ 9) (hrow : ns = (cs.take (z - 1).toNat).map (fun k => k.fmod 2) ++ [0])
    (hw0 : ws ≠ []) (hwn : ws.length ≤ 20) (hf : iF ≤ 20) (hok : turnsOK (ws ++ [lrow]) ws.length iF = true) (hend : endOK (leadOf lrow) (ws.length - iF) z = true)
    (hJ : ∀ h' tk m' new, Fr g L h' m' → News g L h' (new ++ c.tcl) → Post (.ret (.bool true)) { s with heap := h', toks := tk }) :
    wpAny (model PySem.Challenge.rw_tp0056_01.row.prog w) (ktrTop 400 10 (some []) (Str.ofString "law") ls332.1 L fa cd [] outer) (execs lawRest.1 (envOf (Str.ofString "law") ls332.1 L fa cd)) Post (fun _ _ => False) s := by
  have hMk := kstMark
  have em := names_cons f1 (names_cons f2 (names_cons f3 (names_cons f4 (names_cons f5 (names_cons f6 (names_cons f7 rfl))))))
  rw [em] at F
  dsimp only [lawRest, ls332]
  have hNe : ∀ q ∈ (wl, listOf c.wv.toArray c.we) :: (ll, listOf c.lv.toArray c.le) :: (cl, listOf cv.toArray ce) :: (rl, listOf rv.toArray re) :: (tb, instObj 282 d) :: (d, dictOf [⟨PyData.keyHash w.params (Str.ofString "_headers"), .str (Str.ofString "_headers") kt, .ref hl⟩] 1) :: (hl, listOf c.tv.toArray c.te) :: (c.tcl ++ c.I), q ∈ rnLed w wl ll tb d hl kt c ++ [(cl, listOf cv.toArray ce)] := by
    intro q hq
    rcases List.mem_cons.mp hq with rfl | hq
    · exact .head _
    rcases List.mem_cons.mp hq with rfl | hq
    · exact .tail _ (.head _)
    rcases List.mem_cons.mp hq with rfl | hq
    · exact List.mem_append_right _ (.head _)
    refine List.mem_append_left _ (.tail _ (.tail _ ?_))
    rcases List.mem_cons.mp hq with rfl | hq
    · exact List.mem_append_right _ (List.mem_append_right _ W.hr0)
    · exact hq
  have N1 : News g L s.heap ((wl, listOf c.wv.toArray c.we) :: (ll, listOf c.lv.toArray c.le) :: (cl, listOf cv.toArray ce) :: (rl, listOf rv.toArray re) :: (tb, instObj 282 d) :: (d, dictOf [⟨PyData.keyHash w.params (Str.ofString "_headers"), .str (Str.ofString "_headers") kt, .ref hl⟩] 1) :: (hl, listOf c.tv.toArray c.te) :: (c.tcl ++ c.I)) := fun q hq => N q (hNe q hq)
  clear N hNe
  generalize hR : c.tcl ++ c.I = R at N1
  have hcz : cv.toArray.size ≤ sizeLine := by rw [List.size_toArray, hC.length, hcs]; decide
  k_steps
  unfold Held
  rename Fr g _ _ _ => F1
  rename News g _ _ _ => N2
  rename IntsAre _ (List.take _ _) => hI6
  rename_i D1 ws1 _ _ _ _
  have hl6 := hI6.length
  have hsz : ws1.toArray.size ≤ sizeLine := by
    rw [List.size_toArray, hl6, List.length_take]
    exact Nat.le_trans (Nat.min_le_right _ _) (by rw [hcs]; decide)
  refine LCg.CompSrc.ledger rfl F1 N2 (.head _) hsz ?_
  intro g'
  have hS : LCg.SrcAt g D1 ws1.toArray ((D1, listOf ws1.toArray 0) :: (wl, listOf c.wv.toArray c.we) :: (ll, listOf c.lv.toArray c.le) :: (cl, listOf cv.toArray ce) :: (rl, listOf rv.toArray re) :: (tb, instObj 282 d) :: (d, dictOf [⟨PyData.keyHash w.params (Str.ofString "_headers"), .str (Str.ofString "_headers") kt, .ref hl⟩] 1) :: (hl, listOf c.tv.toArray c.te) :: R) := .inr ⟨_, .head _, rfl, _, rfl⟩
  refine comp_any (fun i y => ∃ k t, (cs.take (z - 1).toNat)[i]? = some k ∧ y = .int (k.fmod 2) t) hS ?_ ?_ _ 0 [] (by rw [List.size_toArray, Nat.zero_add]) rfl (fun j y h => by simp at h)
  · intro i v I oI C oC D m₂ ys h tk E' hv hC hx F2 N2 off ne
    obtain ⟨k, t, hk, rfl⟩ := ints_get hI6 hv
    k_steps
    exact LCg.CompEnd.intro F2 N2 _ (fun p hp => hp) off hS ⟨rfl, k, _, hk, rfl⟩
  · intro ys hyl hyg
    have hI7 := ints_map (f := fun k => k.fmod 2) (hyl.trans hl6) hyg
    intro D h tk F2 N3 off
    clear F1 N2 hS
    k_steps
    unfold Held
    rename News g _ _ _ => N4
    rename Fr g _ _ _ => F4
    rename IntsAre _ (_ ++ _) => hI8
    refine ke_ne_ints (News.isList N4 (.tail _ (.tail _ (.tail _ (.tail _ (.tail _ (.tail _ (.tail _ (.head _)))))))) ) (News.isList N4 (.head _)) hI hI8 (Nat.le_of_ble_eq_true rfl) ?_
    rw [decide_eq_true hrow]
    clear off
    rename_i l0 _ D0 ws0 _ _
    have N5 : News g L _ ((wl, listOf c.wv.toArray c.we) :: (ll, listOf c.lv.toArray c.le) :: (cl, listOf cv.toArray ce) :: (rl, listOf rv.toArray re) :: (tb, instObj 282 d) :: (d, dictOf [⟨PyData.keyHash w.params (Str.ofString "_headers"), .str (Str.ofString "_headers") kt, .ref hl⟩] 1) :: (hl, listOf c.tv.toArray c.te) :: R) := fun p hp => N4 p (.tail _ (.tail _ (.tail _ (.tail _ hp))))
    clear N4
    k_steps
    unfold Held
    rename News g _ _ _ => N6
    rename Fr g _ _ _ => F6
    refine eq_strL (xs := c.wv) (ys := []) (News.isList N6 (.tail _ (.head _))) (News.isList N6 (.head _)) W.hws .nil (word_ok W.hwb) (fun _ h => nomatch h) (Nat.le_of_ble_eq_true rfl) ?_
    have hne : ¬ ws.map wordT = [] := fun q => hw0 (List.map_eq_nil_iff.mp q)
    rw [decide_eq_false hne]
    have N7 : News g L _ ((wl, listOf c.wv.toArray c.we) :: (ll, listOf c.lv.toArray c.le) :: (cl, listOf cv.toArray ce) :: (rl, listOf rv.toArray re) :: (tb, instObj 282 d) :: (d, dictOf [⟨PyData.keyHash w.params (Str.ofString "_headers"), .str (Str.ofString "_headers") kt, .ref hl⟩] 1) :: (hl, listOf c.tv.toArray c.te) :: R) := fun p hp => N6 p (.tail _ hp)
    clear N6
    k_steps
    unfold Held
    rename News g _ _ _ => N8
    rename Fr g _ _ _ => F8
    have hRt : ∀ p ∈ c.I, p ∈ R := fun p hp => by rw [← hR]; exact List.mem_append_right _ hp
    have Nk : News g L _ (tabLed w tb d hl kt c.tv c.te ++ tl) := fun p hp => N8 p (by
      rcases List.mem_append.mp hp with hp | hp
      · rcases List.mem_cons.mp hp with rfl | hp
        · exact .tail _ (.tail _ (.tail _ (.tail _ (.head _))))
        rcases List.mem_cons.mp hp with rfl | hp
        · exact .tail _ (.tail _ (.tail _ (.tail _ (.tail _ (.head _)))))
        rw [List.mem_singleton.mp hp]
        exact .tail _ (.tail _ (.tail _ (.tail _ (.tail _ (.tail _ (.head _))))))
      · exact .tail _ (.tail _ (.tail _ (.tail _ (.tail _ (.tail _ (.tail _ (hRt p (W.htl p hp)))))))))
    refine keys_spec w B F8 X T rfl (Nat.le_of_ble_eq_true rfl) (Nat.le_of_ble_eq_true rfl) Nk W.htv (by rw [tab_len]; omega) ?_
    intro D2 us2 n2 h2 tk2 hU2 kk2
    have F9 := kk2.fr F8
    have N9 := kk2.news F8 N8
    clear F8 N8
    dsimp only [List.cons_append, List.nil_append] at N9
    have hl2 := hU2.length
    have hsz2 : us2.toArray.size ≤ sizeLine := by
      rw [List.size_toArray, hl2, List.length_map, tab_len]
      exact Nat.le_trans hwn (by decide)
    k_steps
    unfold Held
    refine LCg.CompSrc.ledger rfl F9 N9 (.head _) hsz2 ?_
    intro g2
    have hS2 : LCg.SrcAt g D2 us2.toArray ((D2, listOf us2.toArray n2) :: (wl, listOf c.wv.toArray c.we) :: (ll, listOf c.lv.toArray c.le) :: (cl, listOf cv.toArray ce) :: (rl, listOf rv.toArray re) :: (tb, instObj 282 d) :: (d, dictOf [⟨PyData.keyHash w.params (Str.ofString "_headers"), .str (Str.ofString "_headers") kt, .ref hl⟩] 1) :: (hl, listOf c.tv.toArray c.te) :: R) := .inr ⟨_, .head _, rfl, _, rfl⟩
    refine comp_any (fun i y => ∃ k t, ((tabOf 0 ws).map (·.1))[i]? = some k ∧ y = .str (Txt.lower k) t) hS2 ?_ ?_ _ 0 [] (by rw [List.size_toArray, Nat.zero_add]) rfl (fun j y h => by simp at h)
    · intro i v I oI C oC D m₂ ys h tk E' hv hC hx F2 N2 off ne
      obtain ⟨k, t, hk, rfl⟩ := strs_get hU2 hv
      have hks := key_short W.hwb k (List.mem_of_getElem? hk)
      k_steps
      unfold Held
      refine SCL.lower hks ?_
      intro _
      exact LCg.CompEnd.intro F2 N2 _ (fun p hp => hp) off hS2 ⟨rfl, k, _, hk, rfl⟩
    · intro ys2 hyl2 hyg2
      have hI9 := strs_map (f := Txt.lower) (hyl2.trans hl2) hyg2
      have hlow : ((tabOf 0 ws).map (·.1)).map Txt.lower = ws.map wordT := by
        rw [List.map_map]
        exact tab_low 0 ws fun r hr => (W.hwb r hr).1
      rw [hlow] at hI9
      intro D3 h3 tk3 F3 N3 off3
      clear hS2 F9 N9
      k_steps
      unfold Held
      rename News g _ _ _ => N10
      rename Fr g _ _ _ => F10
      refine ne_strL (News.isList N10 (.head _)) (News.isList N10 (.tail _ (.tail _ (.head _)))) hI9 W.hws (word_ok W.hwb) (word_ok W.hwb) (Nat.le_of_ble_eq_true rfl) ?_
      rw [decide_eq_true rfl]
      k_steps
      unfold Held
      rename News g _ _ _ => N11
      rename Fr g _ _ _ => F11
      have hws := W.hws.length
      rw [List.length_map] at hws
      have hgl : (ws ++ [lrow]).getD ws.length [] = lrow := by simp
      have Nr : News g L _ ((ll, listOf c.lv.toArray c.le) :: (wl, listOf c.wv.toArray c.we) :: ldl) := fun p hp => N11 p (by
        rcases List.mem_cons.mp hp with rfl | hp
        · exact .tail _ (.tail _ (.tail _ (.head _)))
        rcases List.mem_cons.mp hp with rfl | hp
        · exact .tail _ (.tail _ (.head _))
        · iterate 9 refine .tail _ ?_
          exact hRt p (W.hldl p hp))
      refine rests_spec w B F11 X T rfl (Nat.le_of_ble_eq_true rfl) (Nat.le_of_ble_eq_true rfl) Nr hws W.hlv (by rw [List.length_append]; rfl) hwn (by omega) (by omega) hz0 hz1 hok (by rw [hgl]; exact hend) ?_
      intro h9 tk9 kk9
      have F12 := kk9.fr F11
      have N12 := kk9.news F11 N11
      k_steps
      refine hJ h9 _ _ [] F12 (fun p hp => N12 p ?_)
      rw [List.nil_append] at hp ⊢
      iterate 9 refine .tail _ ?_
      rw [← hR]
      exact List.mem_append_left _ hp
end Mine
end
section
open PySem PySem.W PyProof.Rows PySem.Calls PyProof.V PySem.Spec
namespace Mine
theorem fillLaw2 (w : World) (h : Heap) : (K w.params).In h → PySem.Challenge.rw_tp0056_01.foot = 8 := by
  k_fill
  intro _
  rfl
local macro_rules | `(tactic| walk_at "call ref") => `(tactic| refine held ?_)
local macro_rules | `(tactic| walk_at "s1") => `(tactic| first | (k_unfold; (try dsimp only)) | walk1 | (dsimp only; walk1))
set_option maxHeartbeats 8000000 in
theorem law_a (w : World) {p : Program} {loose : List Str} {mean : ExcName → Option Value} {mg mb : Str → Option Value} {A₀ : Around} {base g : Heap} {outer : List Env} {L fa l : Addr} {cd : Value} {s : Shared} {vs : List Value} {ns : List Int} {wsF : List (List Int)} {iF : Nat} {m₁ : Str → Option Value} {Post : Flow → Shared → Prop}
    (B : Below A₀ base outer g) (X : (K w.params).In g) (T : Top p loose mean mg mb g) (C : CodeHd g 58 54) (F : Fr g L s.heap m₁) (N : News g L s.heap [(54, tabObj #[])]) (f1 : m₁ (Str.ofString "script") = some (.ref l))
    (hl : g.IsList l vs.toArray) (hI : IntsAre vs ns) (hn : ns.length ≤ 63)
    (hz0 : 7 ≤ (cellsOf ns).sum.fmod 3 + 7) (hz1 : (cellsOf ns).sum.fmod 3 + 7 ≤ 9) (hc8 : (cellsOf ns).length = 8) (hcp : ∀ k ∈ cellsOf ns, 0 ≤ k)
    (hrl : (rowOf (cellsOf ns) ((cellsOf ns).sum.fmod 3 + 7)).length ≤ 9) (hrl0 : 1 ≤ (rowOf (cellsOf ns) ((cellsOf ns).sum.fmod 3 + 7)).length) (hrb : Bin (rowOf (cellsOf ns) ((cellsOf ns).sum.fmod 3 + 7))) (hrun : runP 20 [] (rowOf (cellsOf ns) ((cellsOf ns).sum.fmod 3 + 7)) = some (wsF, iF))
    (hrow : rowOf (cellsOf ns) ((cellsOf ns).sum.fmod 3 + 7) = ((cellsOf ns).take ((cellsOf ns).sum.fmod 3 + 7 - 1).toNat).map (fun k => k.fmod 2) ++ [0])
    (hw0 : wsF ≠ []) (hwn : wsF.length ≤ 20) (hf : iF ≤ 20) (hok : ∀ lrow, findRow wsF lrow = some iF → turnsOK (wsF ++ [lrow]) wsF.length iF = true ∧ endOK (leadOf lrow) (wsF.length - iF) ((cellsOf ns).sum.fmod 3 + 7) = true)
    (hJ : ∀ h' tk m' ps new, Fr g L h' m' → News g L h' (new ++ [(54, tabObj ps)]) → Post (.ret (.bool true)) { s with heap := h', toks := tk }) :
    wpAny (model PySem.Challenge.rw_tp0056_01.row.prog w) (ktrTop 400 10 (some []) (Str.ofString "law") ls332.1 L fa cd [] outer) (execs lb332.1 (envOf (Str.ofString "law") ls332.1 L fa cd)) Post (fun _ _ => False) s := by
  have hMk := kstMark
  have em := names_cons f1 rfl
  rw [em] at F
  dsimp only [lb332, ls332]
  k_steps
  unfold Held
  rename Fr g _ _ _ => F1
  refine cells_spec w B F1 X T rfl (Nat.le_of_ble_eq_true rfl) (Nat.le_of_ble_eq_true rfl) (IsList.keeps hl F1.keep) hI hn ?_
  intro cl cv ce h2 tk2 hC kk2
  have F2 := kk2.fr F1
  have N2 := kk2.news F1 N
  have ap2 := kept_apart kk2 N
  dsimp only [List.cons_append, List.nil_append] at N2
  have hcz : cv.toArray.size ≤ sizeLine := by rw [List.size_toArray, hC.length, hc8]; decide
  generalize hcs : cellsOf ns = cs at *
  k_steps
  unfold Held
  rename Fr g _ _ _ => F3
  rename News g _ _ _ => N3
  generalize hz : cs.sum.fmod 3 + 7 = z at *
  generalize hrz : rowOf cs z = row at *
  refine row_spec w B F3 X T rfl (Nat.le_of_ble_eq_true rfl) (Nat.le_of_ble_eq_true rfl) (News.isList N3 (.head _)) hC hc8 hcp hz0 hz1 ?_
  rw [hrz]
  intro rl rv re h4 tk4 hR kk4
  have F4 := kk4.fr F3
  have N4 := kk4.news F3 N3
  have ap4 := kept_apart kk4 N3
  clear F3 N3
  dsimp only [List.cons_append, List.nil_append] at N4
  k_steps
  unfold Held
  rename Fr g _ _ _ => F5
  rename News g _ _ _ => N5
  refine hdr_spec w B F5 X T rfl (Nat.le_of_ble_eq_true rfl) (Nat.le_of_ble_eq_true rfl) N5 ?_
  intro tb d hl' kt te h6 tk6 F6 N6 ap6 ne6
  k_steps
  unfold Held
  rename Fr g _ _ _ => F7
  rename News g _ _ _ => N7
  have q1 : (54 : Nat) ≠ cl := ap2 _ (.head _) _ (.head _)
  have q2 : (cl : Nat) ≠ rl := ap4 _ (.head _) _ (.head _)
  have q3 : (54 : Nat) ≠ rl := ap4 _ (.head _) _ (.tail _ (.head _))
  have N8 : News g L _ ((tabLed w tb d hl' kt [] te ++ ([(54, tabObj #[])] ++ [(rl, listOf rv.toArray re)])) ++ [(cl, listOf cv.toArray ce)]) := fun p hp => N7 p (by
    rcases List.mem_append.mp hp with hp | hp
    · rcases List.mem_append.mp hp with hp | hp
      · exact List.mem_append_left _ hp
      · rcases List.mem_cons.mp hp with rfl | hp
        · exact List.mem_append_right _ (.tail _ (.tail _ (.head _)))
        · rw [List.mem_singleton.mp hp]
          exact List.mem_append_right _ (.head _)
    · rw [List.mem_singleton.mp hp]
      exact List.mem_append_right _ (.tail _ (.head _)))
  refine run_spec w B F7 X T rfl (Nat.le_of_ble_eq_true rfl) (Nat.le_of_ble_eq_true rfl) N8 ?_ (.inl rfl) C ?_ ?_ ne6 hR hrb hrl0 hrl hrun ?_
  · intro p hp q hq
    rw [List.mem_singleton.mp hq]
    rcases List.mem_append.mp hp with hp | hp
    · exact ap6 p hp _ (.tail _ (.head _))
    · rcases List.mem_cons.mp hp with rfl | hp
      · exact q1.symm
      · rw [List.mem_singleton.mp hp]; exact q2
  · intro p hp q hq
    rcases List.mem_cons.mp hq with rfl | hq
    · exact ap6 p hp _ (.tail _ (.tail _ (.head _)))
    · rw [List.mem_singleton.mp hq]; exact ap6 p hp _ (.head _)
  · intro p hp
    rw [List.mem_singleton.mp hp]; exact q3.symm
  intro D wl ll c lrow tl ldl t3 h9 tk9 W hfr F9 N9
  clear N7 N8 F7
  iterate 12 (walk_at "s1")
  rename Fr g _ _ _ => F10
  rename News g _ _ _ => N10
  obtain ⟨o1, o2⟩ := hok lrow hfr
  refine law_b w (lrow := lrow) (ws := wsF) (z := z) (iF := iF) (cs := cs) (ns := row) B X T F10 (fun p hp => N10 p (.tail _ hp)) W rfl rfl rfl rfl rfl rfl rfl hR hC hc8 hz0 hz1 hrow hw0 hwn hf o1 o2 ?_
  intro h11 tk11 m' new F11 N11
  rcases W.hT with e | ⟨c', oc', vs', t', e, _, _⟩
  · rw [e] at N11
    exact hJ h11 tk11 m' _ new F11 N11
  · rw [e] at N11
    refine hJ h11 tk11 m' #[rawInt (35 : Nat), rawInt (4 : Nat), .ref c'] (new ++ [(c', oc')]) F11 (fun p hp => N11 p ?_)
    rcases List.mem_append.mp hp with hp | hp
    · rcases List.mem_append.mp hp with hp | hp
      · exact List.mem_append_left _ hp
      · exact List.mem_append_right _ (.tail _ hp)
    · exact List.mem_append_right _ (by rw [List.mem_singleton.mp hp]; exact .head _)
end Mine
end
section
open PySem PySem.W PyProof.Rows PySem.Calls PyProof.V PySem.Spec
namespace Mine
theorem held_in : ∀ j, j < 15 → ((heldR.getD j 0).toNat : Int) ∈ heldL := by decide +kernel
theorem beside_out : ∀ j, j < 8 → ¬ ((besideR.getD j 0).toNat : Int) ∈ heldL := by decide +kernel
theorem lamp_par {k : Int} (h : 0 ≤ k) : lampOf k = k.fmod 2 := by
  rw [Int.fmod_eq_emod_of_nonneg _ (by decide)]
  unfold lampOf signOf
  by_cases q : k % 2 ≠ 0
  · rw [if_pos q, if_pos (held_in _ (by omega))]
    omega
  · rw [if_neg q, if_neg (beside_out _ (by omega))]
    omega
theorem cells_len (ns : List Int) : (cellsOf ns).length = 8 := by
  unfold cellsOf
  rw [List.length_append, List.length_map, List.length_take, List.length_drop]
  show min 8 ns.length + (8 - min 8 ns.length) = 8
  omega
theorem cells_pos (ns : List Int) : ∀ k ∈ cellsOf ns, 0 ≤ k := by
  intro k hk
  rcases List.mem_append.mp hk with hk | hk
  · obtain ⟨j, _, rfl⟩ := List.mem_map.mp hk
    exact Int.emod_nonneg _ (by decide)
  · have := List.mem_of_mem_drop hk
    simp only [List.mem_cons, List.not_mem_nil, or_false] at this
    rcases this with rfl | rfl | rfl | rfl | rfl | rfl | rfl | rfl <;> decide
theorem row_par {cs : List Int} (h : ∀ k ∈ cs, 0 ≤ k) (z : Int) : rowOf cs z = (cs.take (z - 1).toNat).map (fun k => k.fmod 2) ++ [0] := by
  unfold rowOf
  rw [List.map_congr_left fun k hk => lamp_par (h k (List.mem_of_mem_take hk))]
theorem par_bin (l : List Int) : Bin (l.map fun k => k.fmod 2) := by
  intro k hk
  obtain ⟨j, _, rfl⟩ := List.mem_map.mp hk
  show j.fmod 2 = 0 ∨ j.fmod 2 = 1
  rw [Int.fmod_eq_emod_of_nonneg _ (by decide)]
  omega
theorem law_row {cs : List Int} (h8 : cs.length = 8) {z : Int} (hz0 : 7 ≤ z) (hz1 : z ≤ 9) : ∃ ws i, runP 20 [] ((cs.take (z - 1).toNat).map (fun k => k.fmod 2) ++ [0]) = some (ws, i) ∧ ws ≠ [] ∧ ws.length ≤ 20 ∧ i ≤ 20 ∧
    ∀ lrow, findRow ws lrow = some i → turnsOK (ws ++ [lrow]) ws.length i = true ∧ endOK (leadOf lrow) (ws.length - i) z = true := by
  have hb := par_bin (cs.take (z - 1).toNat)
  have hl : ((cs.take (z - 1).toNat).map fun k => k.fmod 2).length = (z - 1).toNat := by
    rw [List.length_map, List.length_take, h8]; omega
  generalize (cs.take (z - 1).toNat).map (fun k => k.fmod 2) = r at hb hl
  have hz : z = 7 ∨ z = 8 ∨ z = 9 := by omega
  rcases hz with rfl | rfl | rfl
  · exact law_start good7 (start7 r hb hl)
  · exact law_start good8 (start8 r hb hl)
  · exact law_start good9 (start9 r hb hl)
theorem law_walk (w : World) {p : Program} {loose : List Str} {mean : ExcName → Option Value} {mg mb : Str → Option Value} {A₀ : Around} {base g : Heap} {outer : List Env} {L fa l : Addr} {cd : Value} {s : Shared} {vs : List Value} {ns : List Int} {m₁ : Str → Option Value} {Post : Flow → Shared → Prop}
    (B : Below A₀ base outer g) (X : (K w.params).In g) (T : Top p loose mean mg mb g) (C : CodeHd g 58 54) (F : Fr g L s.heap m₁) (N : News g L s.heap [(54, tabObj #[])]) (f1 : m₁ (Str.ofString "script") = some (.ref l))
    (hl : g.IsList l vs.toArray) (hI : IntsAre vs ns) (hn : ns.length ≤ 63)
    (hJ : ∀ h' tk m' ps new, Fr g L h' m' → News g L h' (new ++ [(54, tabObj ps)]) → Post (.ret (.bool true)) { s with heap := h', toks := tk }) :
    wpAny (model PySem.Challenge.rw_tp0056_01.row.prog w) (ktrTop 400 10 (some []) (Str.ofString "law") ls332.1 L fa cd [] outer) (execs lb332.1 (envOf (Str.ofString "law") ls332.1 L fa cd)) Post (fun _ _ => False) s := by
  have h8 := cells_len ns
  have hp := cells_pos ns
  have e := Int.fmod_eq_emod_of_nonneg (cellsOf ns).sum (show (0 : Int) ≤ 3 by decide)
  have hz0 : 7 ≤ (cellsOf ns).sum.fmod 3 + 7 := by rw [e]; omega
  have hz1 : (cellsOf ns).sum.fmod 3 + 7 ≤ 9 := by rw [e]; omega
  have hrow := row_par hp ((cellsOf ns).sum.fmod 3 + 7)
  obtain ⟨ws, i, r1, r2, r3, r4, r5⟩ := law_row h8 hz0 hz1
  have hlen : (rowOf (cellsOf ns) ((cellsOf ns).sum.fmod 3 + 7)).length = ((cellsOf ns).sum.fmod 3 + 7 - 1).toNat + 1 := by
    rw [hrow, List.length_append, List.length_map, List.length_take, h8, List.length_singleton]
    omega
  have hb : Bin (rowOf (cellsOf ns) ((cellsOf ns).sum.fmod 3 + 7)) := by
    rw [hrow]
    intro k hk
    rcases List.mem_append.mp hk with hk | hk
    · exact par_bin _ k hk
    · exact .inl (List.mem_singleton.mp hk)
  exact law_a w B X T C F N f1 hl hI hn hz0 hz1 h8 hp (by omega) (by omega) hb (by rw [hrow]; exact r1) hrow r2 r3 r4 r5 hJ
end Mine
end
section
open PySem PySem.W PyProof.Rows
namespace Mine
noncomputable def p0 (P : Params) : Obj := ⟨(.type "dict"), none, (.dict #[⟨PyData.keyHash P (Str.ofString "__name__"), .str (Str.ofString "__name__") 1, (.str (Str.ofString "builtins") 160)⟩, ⟨PyData.keyHash P (Str.ofString "__doc__"), .str (Str.ofString "__doc__") 2, (.builtin "builtins.__doc__:str#opaque")⟩, ⟨PyData.keyHash P (Str.ofString "__package__"), .str (Str.ofString "__package__") 3, (.builtin "builtins.__package__:str#opaque")⟩, ⟨PyData.keyHash P (Str.ofString "__loader__"), .str (Str.ofString "__loader__") 4, (.builtin "builtins.__loader__:shared#opaque")⟩, ⟨PyData.keyHash P (Str.ofString "__spec__"), .str (Str.ofString "__spec__") 5, (.builtin "builtins.__spec__#opaque")⟩, ⟨PyData.keyHash P (Str.ofString "__build_class__"), .str (Str.ofString "__build_class__") 6, (.builtin "__build_class__")⟩, ⟨PyData.keyHash P (Str.ofString "__import__"), .str (Str.ofString "__import__") 7, (.builtin "__import__")⟩, ⟨PyData.keyHash P (Str.ofString "abs"), .str (Str.ofString "abs") 8, (.builtin "abs")⟩, ⟨PyData.keyHash P (Str.ofString "all"), .str (Str.ofString "all") 9, (.builtin "all")⟩, ⟨PyData.keyHash P (Str.ofString "any"), .str (Str.ofString "any") 10, (.builtin "any")⟩, ⟨PyData.keyHash P (Str.ofString "ascii"), .str (Str.ofString "ascii") 11, (.builtin "ascii")⟩, ⟨PyData.keyHash P (Str.ofString "bin"), .str (Str.ofString "bin") 12, (.builtin "bin")⟩, ⟨PyData.keyHash P (Str.ofString "breakpoint"), .str (Str.ofString "breakpoint") 13, (.builtin "breakpoint")⟩, ⟨PyData.keyHash P (Str.ofString "callable"), .str (Str.ofString "callable") 14, (.builtin "callable")⟩, ⟨PyData.keyHash P (Str.ofString "chr"), .str (Str.ofString "chr") 15, (.builtin "chr")⟩, ⟨PyData.keyHash P (Str.ofString "compile"), .str (Str.ofString "compile") 16, (.builtin "compile")⟩, ⟨PyData.keyHash P (Str.ofString "delattr"), .str (Str.ofString "delattr") 17, (.builtin "delattr")⟩, ⟨PyData.keyHash P (Str.ofString "dir"), .str (Str.ofString "dir") 18, (.builtin "dir")⟩, ⟨PyData.keyHash P (Str.ofString "divmod"), .str (Str.ofString "divmod") 19, (.builtin "divmod")⟩, ⟨PyData.keyHash P (Str.ofString "eval"), .str (Str.ofString "eval") 20, (.builtin "eval")⟩, ⟨PyData.keyHash P (Str.ofString "exec"), .str (Str.ofString "exec") 21, (.builtin "exec")⟩, ⟨PyData.keyHash P (Str.ofString "format"), .str (Str.ofString "format") 22, (.builtin "format")⟩, ⟨PyData.keyHash P (Str.ofString "getattr"), .str (Str.ofString "getattr") 23, (.builtin "getattr")⟩, ⟨PyData.keyHash P (Str.ofString "globals"), .str (Str.ofString "globals") 24, (.builtin "globals")⟩, ⟨PyData.keyHash P (Str.ofString "hasattr"), .str (Str.ofString "hasattr") 25, (.builtin "hasattr")⟩, ⟨PyData.keyHash P (Str.ofString "hash"), .str (Str.ofString "hash") 26, (.builtin "hash")⟩, ⟨PyData.keyHash P (Str.ofString "hex"), .str (Str.ofString "hex") 27, (.builtin "hex")⟩, ⟨PyData.keyHash P (Str.ofString "id"), .str (Str.ofString "id") 28, (.builtin "id")⟩, ⟨PyData.keyHash P (Str.ofString "input"), .str (Str.ofString "input") 29, (.builtin "input")⟩, ⟨PyData.keyHash P (Str.ofString "isinstance"), .str (Str.ofString "isinstance") 30, (.builtin "isinstance")⟩, ⟨PyData.keyHash P (Str.ofString "issubclass"), .str (Str.ofString "issubclass") 31, (.builtin "issubclass")⟩, ⟨PyData.keyHash P (Str.ofString "iter"), .str (Str.ofString "iter") 32, (.builtin "iter")⟩, ⟨PyData.keyHash P (Str.ofString "aiter"), .str (Str.ofString "aiter") 33, (.builtin "aiter")⟩, ⟨PyData.keyHash P (Str.ofString "len"), .str (Str.ofString "len") 34, (.builtin "len")⟩, ⟨PyData.keyHash P (Str.ofString "locals"), .str (Str.ofString "locals") 35, (.builtin "locals")⟩, ⟨PyData.keyHash P (Str.ofString "max"), .str (Str.ofString "max") 36, (.builtin "max")⟩, ⟨PyData.keyHash P (Str.ofString "min"), .str (Str.ofString "min") 37, (.builtin "min")⟩, ⟨PyData.keyHash P (Str.ofString "next"), .str (Str.ofString "next") 38, (.builtin "next")⟩, ⟨PyData.keyHash P (Str.ofString "anext"), .str (Str.ofString "anext") 39, (.builtin "anext")⟩, ⟨PyData.keyHash P (Str.ofString "oct"), .str (Str.ofString "oct") 40, (.builtin "oct")⟩, ⟨PyData.keyHash P (Str.ofString "ord"), .str (Str.ofString "ord") 41, (.builtin "ord")⟩, ⟨PyData.keyHash P (Str.ofString "pow"), .str (Str.ofString "pow") 42, (.builtin "pow")⟩, ⟨PyData.keyHash P (Str.ofString "print"), .str (Str.ofString "print") 43, (.builtin "print")⟩, ⟨PyData.keyHash P (Str.ofString "repr"), .str (Str.ofString "repr") 44, (.builtin "repr")⟩, ⟨PyData.keyHash P (Str.ofString "round"), .str (Str.ofString "round") 45, (.builtin "round")⟩, ⟨PyData.keyHash P (Str.ofString "setattr"), .str (Str.ofString "setattr") 46, (.builtin "setattr")⟩, ⟨PyData.keyHash P (Str.ofString "sorted"), .str (Str.ofString "sorted") 47, (.builtin "sorted")⟩, ⟨PyData.keyHash P (Str.ofString "sum"), .str (Str.ofString "sum") 48, (.builtin "sum")⟩, ⟨PyData.keyHash P (Str.ofString "vars"), .str (Str.ofString "vars") 49, (.builtin "vars")⟩, ⟨PyData.keyHash P (Str.ofString "None"), .str (Str.ofString "None") 50, .none⟩, ⟨PyData.keyHash P (Str.ofString "Ellipsis"), .str (Str.ofString "Ellipsis") 51, .ellipsis⟩, ⟨PyData.keyHash P (Str.ofString "NotImplemented"), .str (Str.ofString "NotImplemented") 52, .notImplemented⟩, ⟨PyData.keyHash P (Str.ofString "False"), .str (Str.ofString "False") 53, (.bool false)⟩, ⟨PyData.keyHash P (Str.ofString "True"), .str (Str.ofString "True") 54, (.bool true)⟩, ⟨PyData.keyHash P (Str.ofString "bool"), .str (Str.ofString "bool") 55, (.type "bool")⟩, ⟨PyData.keyHash P (Str.ofString "memoryview"), .str (Str.ofString "memoryview") 56, (.type "memoryview")⟩, ⟨PyData.keyHash P (Str.ofString "bytearray"), .str (Str.ofString "bytearray") 57, (.type "bytearray")⟩, ⟨PyData.keyHash P (Str.ofString "bytes"), .str (Str.ofString "bytes") 58, (.type "bytes")⟩, ⟨PyData.keyHash P (Str.ofString "classmethod"), .str (Str.ofString "classmethod") 59, (.type "classmethod")⟩, ⟨PyData.keyHash P (Str.ofString "complex"), .str (Str.ofString "complex") 60, (.type "complex")⟩, ⟨PyData.keyHash P (Str.ofString "dict"), .str (Str.ofString "dict") 61, (.type "dict")⟩, ⟨PyData.keyHash P (Str.ofString "enumerate"), .str (Str.ofString "enumerate") 62, (.type "enumerate")⟩, ⟨PyData.keyHash P (Str.ofString "filter"), .str (Str.ofString "filter") 63, (.type "filter")⟩, ⟨PyData.keyHash P (Str.ofString "float"), .str (Str.ofString "float") 64, (.type "float")⟩, ⟨PyData.keyHash P (Str.ofString "frozenset"), .str (Str.ofString "frozenset") 65, (.type "frozenset")⟩, ⟨PyData.keyHash P (Str.ofString "property"), .str (Str.ofString "property") 66, (.type "property")⟩, ⟨PyData.keyHash P (Str.ofString "int"), .str (Str.ofString "int") 67, (.type "int")⟩, ⟨PyData.keyHash P (Str.ofString "list"), .str (Str.ofString "list") 68, (.type "list")⟩, ⟨PyData.keyHash P (Str.ofString "map"), .str (Str.ofString "map") 69, (.type "map")⟩, ⟨PyData.keyHash P (Str.ofString "object"), .str (Str.ofString "object") 70, (.type "object")⟩, ⟨PyData.keyHash P (Str.ofString "range"), .str (Str.ofString "range") 71, (.type "range")⟩, ⟨PyData.keyHash P (Str.ofString "reversed"), .str (Str.ofString "reversed") 72, (.type "reversed")⟩, ⟨PyData.keyHash P (Str.ofString "set"), .str (Str.ofString "set") 73, (.type "set")⟩, ⟨PyData.keyHash P (Str.ofString "slice"), .str (Str.ofString "slice") 74, (.type "slice")⟩, ⟨PyData.keyHash P (Str.ofString "staticmethod"), .str (Str.ofString "staticmethod") 75, (.type "staticmethod")⟩, ⟨PyData.keyHash P (Str.ofString "str"), .str (Str.ofString "str") 76, (.type "str")⟩, ⟨PyData.keyHash P (Str.ofString "super"), .str (Str.ofString "super") 77, (.type "super")⟩, ⟨PyData.keyHash P (Str.ofString "tuple"), .str (Str.ofString "tuple") 78, (.type "tuple")⟩, ⟨PyData.keyHash P (Str.ofString "type"), .str (Str.ofString "type") 79, (.type "type")⟩, ⟨PyData.keyHash P (Str.ofString "zip"), .str (Str.ofString "zip") 80, (.type "zip")⟩, ⟨PyData.keyHash P (Str.ofString "__debug__"), .str (Str.ofString "__debug__") 81, (.bool true)⟩, ⟨PyData.keyHash P (Str.ofString "BaseException"), .str (Str.ofString "BaseException") 82, (.type "BaseException")⟩, ⟨PyData.keyHash P (Str.ofString "BaseExceptionGroup"), .str (Str.ofString "BaseExceptionGroup") 83, (.type "BaseExceptionGroup")⟩, ⟨PyData.keyHash P (Str.ofString "Exception"), .str (Str.ofString "Exception") 84, (.type "Exception")⟩, ⟨PyData.keyHash P (Str.ofString "GeneratorExit"), .str (Str.ofString "GeneratorExit") 85, (.type "GeneratorExit")⟩, ⟨PyData.keyHash P (Str.ofString "KeyboardInterrupt"), .str (Str.ofString "KeyboardInterrupt") 86, (.type "KeyboardInterrupt")⟩, ⟨PyData.keyHash P (Str.ofString "SystemExit"), .str (Str.ofString "SystemExit") 87, (.type "SystemExit")⟩, ⟨PyData.keyHash P (Str.ofString "ArithmeticError"), .str (Str.ofString "ArithmeticError") 88, (.type "ArithmeticError")⟩, ⟨PyData.keyHash P (Str.ofString "AssertionError"), .str (Str.ofString "AssertionError") 89, (.type "AssertionError")⟩, ⟨PyData.keyHash P (Str.ofString "AttributeError"), .str (Str.ofString "AttributeError") 90, (.type "AttributeError")⟩, ⟨PyData.keyHash P (Str.ofString "BufferError"), .str (Str.ofString "BufferError") 91, (.type "BufferError")⟩, ⟨PyData.keyHash P (Str.ofString "EOFError"), .str (Str.ofString "EOFError") 92, (.type "EOFError")⟩, ⟨PyData.keyHash P (Str.ofString "ImportError"), .str (Str.ofString "ImportError") 93, (.type "ImportError")⟩, ⟨PyData.keyHash P (Str.ofString "LookupError"), .str (Str.ofString "LookupError") 94, (.type "LookupError")⟩, ⟨PyData.keyHash P (Str.ofString "MemoryError"), .str (Str.ofString "MemoryError") 95, (.type "MemoryError")⟩, ⟨PyData.keyHash P (Str.ofString "NameError"), .str (Str.ofString "NameError") 96, (.type "NameError")⟩, ⟨PyData.keyHash P (Str.ofString "OSError"), .str (Str.ofString "OSError") 97, (.type "OSError")⟩, ⟨PyData.keyHash P (Str.ofString "ReferenceError"), .str (Str.ofString "ReferenceError") 98, (.type "ReferenceError")⟩, ⟨PyData.keyHash P (Str.ofString "RuntimeError"), .str (Str.ofString "RuntimeError") 99, (.type "RuntimeError")⟩, ⟨PyData.keyHash P (Str.ofString "StopAsyncIteration"), .str (Str.ofString "StopAsyncIteration") 100, (.type "StopAsyncIteration")⟩, ⟨PyData.keyHash P (Str.ofString "StopIteration"), .str (Str.ofString "StopIteration") 101, (.type "StopIteration")⟩, ⟨PyData.keyHash P (Str.ofString "SyntaxError"), .str (Str.ofString "SyntaxError") 102, (.type "SyntaxError")⟩, ⟨PyData.keyHash P (Str.ofString "SystemError"), .str (Str.ofString "SystemError") 103, (.type "SystemError")⟩, ⟨PyData.keyHash P (Str.ofString "TypeError"), .str (Str.ofString "TypeError") 104, (.type "TypeError")⟩, ⟨PyData.keyHash P (Str.ofString "ValueError"), .str (Str.ofString "ValueError") 105, (.type "ValueError")⟩, ⟨PyData.keyHash P (Str.ofString "Warning"), .str (Str.ofString "Warning") 106, (.type "Warning")⟩, ⟨PyData.keyHash P (Str.ofString "FloatingPointError"), .str (Str.ofString "FloatingPointError") 107, (.type "FloatingPointError")⟩, ⟨PyData.keyHash P (Str.ofString "OverflowError"), .str (Str.ofString "OverflowError") 108, (.type "OverflowError")⟩, ⟨PyData.keyHash P (Str.ofString "ZeroDivisionError"), .str (Str.ofString "ZeroDivisionError") 109, (.type "ZeroDivisionError")⟩, ⟨PyData.keyHash P (Str.ofString "BytesWarning"), .str (Str.ofString "BytesWarning") 110, (.type "BytesWarning")⟩, ⟨PyData.keyHash P (Str.ofString "DeprecationWarning"), .str (Str.ofString "DeprecationWarning") 111, (.type "DeprecationWarning")⟩, ⟨PyData.keyHash P (Str.ofString "EncodingWarning"), .str (Str.ofString "EncodingWarning") 112, (.type "EncodingWarning")⟩, ⟨PyData.keyHash P (Str.ofString "FutureWarning"), .str (Str.ofString "FutureWarning") 113, (.type "FutureWarning")⟩, ⟨PyData.keyHash P (Str.ofString "ImportWarning"), .str (Str.ofString "ImportWarning") 114, (.type "ImportWarning")⟩, ⟨PyData.keyHash P (Str.ofString "PendingDeprecationWarning"), .str (Str.ofString "PendingDeprecationWarning") 115, (.type "PendingDeprecationWarning")⟩, ⟨PyData.keyHash P (Str.ofString "ResourceWarning"), .str (Str.ofString "ResourceWarning") 116, (.type "ResourceWarning")⟩, ⟨PyData.keyHash P (Str.ofString "RuntimeWarning"), .str (Str.ofString "RuntimeWarning") 117, (.type "RuntimeWarning")⟩, ⟨PyData.keyHash P (Str.ofString "SyntaxWarning"), .str (Str.ofString "SyntaxWarning") 118, (.type "SyntaxWarning")⟩, ⟨PyData.keyHash P (Str.ofString "UnicodeWarning"), .str (Str.ofString "UnicodeWarning") 119, (.type "UnicodeWarning")⟩, ⟨PyData.keyHash P (Str.ofString "UserWarning"), .str (Str.ofString "UserWarning") 120, (.type "UserWarning")⟩, ⟨PyData.keyHash P (Str.ofString "BlockingIOError"), .str (Str.ofString "BlockingIOError") 121, (.type "BlockingIOError")⟩, ⟨PyData.keyHash P (Str.ofString "ChildProcessError"), .str (Str.ofString "ChildProcessError") 122, (.type "ChildProcessError")⟩, ⟨PyData.keyHash P (Str.ofString "ConnectionError"), .str (Str.ofString "ConnectionError") 123, (.type "ConnectionError")⟩, ⟨PyData.keyHash P (Str.ofString "FileExistsError"), .str (Str.ofString "FileExistsError") 124, (.type "FileExistsError")⟩, ⟨PyData.keyHash P (Str.ofString "FileNotFoundError"), .str (Str.ofString "FileNotFoundError") 125, (.type "FileNotFoundError")⟩, ⟨PyData.keyHash P (Str.ofString "InterruptedError"), .str (Str.ofString "InterruptedError") 126, (.type "InterruptedError")⟩, ⟨PyData.keyHash P (Str.ofString "IsADirectoryError"), .str (Str.ofString "IsADirectoryError") 127, (.type "IsADirectoryError")⟩, ⟨PyData.keyHash P (Str.ofString "NotADirectoryError"), .str (Str.ofString "NotADirectoryError") 128, (.type "NotADirectoryError")⟩, ⟨PyData.keyHash P (Str.ofString "PermissionError"), .str (Str.ofString "PermissionError") 129, (.type "PermissionError")⟩, ⟨PyData.keyHash P (Str.ofString "ProcessLookupError"), .str (Str.ofString "ProcessLookupError") 130, (.type "ProcessLookupError")⟩, ⟨PyData.keyHash P (Str.ofString "TimeoutError"), .str (Str.ofString "TimeoutError") 131, (.type "TimeoutError")⟩, ⟨PyData.keyHash P (Str.ofString "IndentationError"), .str (Str.ofString "IndentationError") 132, (.type "IndentationError")⟩, ⟨PyData.keyHash P (Str.ofString "_IncompleteInputError"), .str (Str.ofString "_IncompleteInputError") 133, (.type "_IncompleteInputError")⟩, ⟨PyData.keyHash P (Str.ofString "IndexError"), .str (Str.ofString "IndexError") 134, (.type "IndexError")⟩, ⟨PyData.keyHash P (Str.ofString "KeyError"), .str (Str.ofString "KeyError") 135, (.type "KeyError")⟩, ⟨PyData.keyHash P (Str.ofString "ModuleNotFoundError"), .str (Str.ofString "ModuleNotFoundError") 136, (.type "ModuleNotFoundError")⟩, ⟨PyData.keyHash P (Str.ofString "NotImplementedError"), .str (Str.ofString "NotImplementedError") 137, (.type "NotImplementedError")⟩, ⟨PyData.keyHash P (Str.ofString "PythonFinalizationError"), .str (Str.ofString "PythonFinalizationError") 138, (.type "PythonFinalizationError")⟩, ⟨PyData.keyHash P (Str.ofString "RecursionError"), .str (Str.ofString "RecursionError") 139, (.type "RecursionError")⟩, ⟨PyData.keyHash P (Str.ofString "UnboundLocalError"), .str (Str.ofString "UnboundLocalError") 140, (.type "UnboundLocalError")⟩, ⟨PyData.keyHash P (Str.ofString "UnicodeError"), .str (Str.ofString "UnicodeError") 141, (.type "UnicodeError")⟩, ⟨PyData.keyHash P (Str.ofString "BrokenPipeError"), .str (Str.ofString "BrokenPipeError") 142, (.type "BrokenPipeError")⟩, ⟨PyData.keyHash P (Str.ofString "ConnectionAbortedError"), .str (Str.ofString "ConnectionAbortedError") 143, (.type "ConnectionAbortedError")⟩, ⟨PyData.keyHash P (Str.ofString "ConnectionRefusedError"), .str (Str.ofString "ConnectionRefusedError") 144, (.type "ConnectionRefusedError")⟩, ⟨PyData.keyHash P (Str.ofString "ConnectionResetError"), .str (Str.ofString "ConnectionResetError") 145, (.type "ConnectionResetError")⟩, ⟨PyData.keyHash P (Str.ofString "TabError"), .str (Str.ofString "TabError") 146, (.type "TabError")⟩, ⟨PyData.keyHash P (Str.ofString "UnicodeDecodeError"), .str (Str.ofString "UnicodeDecodeError") 147, (.type "UnicodeDecodeError")⟩, ⟨PyData.keyHash P (Str.ofString "UnicodeEncodeError"), .str (Str.ofString "UnicodeEncodeError") 148, (.type "UnicodeEncodeError")⟩, ⟨PyData.keyHash P (Str.ofString "UnicodeTranslateError"), .str (Str.ofString "UnicodeTranslateError") 149, (.type "UnicodeTranslateError")⟩, ⟨PyData.keyHash P (Str.ofString "ExceptionGroup"), .str (Str.ofString "ExceptionGroup") 150, (.type "ExceptionGroup")⟩, ⟨PyData.keyHash P (Str.ofString "EnvironmentError"), .str (Str.ofString "EnvironmentError") 151, (.type "OSError")⟩, ⟨PyData.keyHash P (Str.ofString "IOError"), .str (Str.ofString "IOError") 152, (.type "OSError")⟩, ⟨PyData.keyHash P (Str.ofString "open"), .str (Str.ofString "open") 153, (.builtin "open")⟩, ⟨PyData.keyHash P (Str.ofString "quit"), .str (Str.ofString "quit") 154, (.builtin "builtins.quit#opaque")⟩, ⟨PyData.keyHash P (Str.ofString "exit"), .str (Str.ofString "exit") 155, (.builtin "builtins.exit#opaque")⟩, ⟨PyData.keyHash P (Str.ofString "copyright"), .str (Str.ofString "copyright") 156, (.builtin "builtins.copyright#opaque")⟩, ⟨PyData.keyHash P (Str.ofString "credits"), .str (Str.ofString "credits") 157, (.builtin "builtins.credits#opaque")⟩, ⟨PyData.keyHash P (Str.ofString "license"), .str (Str.ofString "license") 158, (.builtin "builtins.license#opaque")⟩, ⟨PyData.keyHash P (Str.ofString "help"), .str (Str.ofString "help") 159, (.builtin "builtins.help#opaque")⟩] 159), #[]⟩
noncomputable def p1 (P : Params) : Obj := ⟨(.type "dict"), none, (.dict #[⟨PyData.keyHash P (Str.ofString "builtins"), .str (Str.ofString "builtins") 162, (.ref 4)⟩, ⟨PyData.keyHash P (Str.ofString "__main__"), .str (Str.ofString "__main__") 163, (.ref 5)⟩, ⟨PyData.keyHash P (Str.ofString "_sre"), .str (Str.ofString "_sre") 244, (.ref 12)⟩] 3), #[]⟩
noncomputable def p2 (P : Params) : Obj := ⟨(.type "dict"), none, (.dict #[⟨PyData.keyHash P (Str.ofString "__name__"), .str (Str.ofString "__name__") 165, (.str (Str.ofString "__main__") 164)⟩, ⟨PyData.keyHash P (Str.ofString "__doc__"), .str (Str.ofString "__doc__") 166, .none⟩, ⟨PyData.keyHash P (Str.ofString "__package__"), .str (Str.ofString "__package__") 167, .none⟩, ⟨PyData.keyHash P (Str.ofString "__loader__"), .str (Str.ofString "__loader__") 168, (.builtin "__main__.__loader__#opaque")⟩, ⟨PyData.keyHash P (Str.ofString "__spec__"), .str (Str.ofString "__spec__") 169, .none⟩, ⟨PyData.keyHash P (Str.ofString "__annotations__"), .str (Str.ofString "__annotations__") 170, (.ref 6)⟩, ⟨PyData.keyHash P (Str.ofString "__builtins__"), .str (Str.ofString "__builtins__") 171, (.ref 4)⟩, ⟨PyData.keyHash P (Str.ofString "__file__"), .str (Str.ofString "__file__") 173, (.str (Str.ofString "/claim/cut.py") 172)⟩, ⟨PyData.keyHash P (Str.ofString "__cached__"), .str (Str.ofString "__cached__") 174, .none⟩, ⟨PyData.keyHash P (Str.ofString "_sre"), .str (Str.ofString "_sre") 275, (.ref 12)⟩] 10), #[]⟩
noncomputable def p3 (_ : Params) : Obj := ⟨(.type "module"), (some 0), .plain, #[]⟩
noncomputable def p4 (_ : Params) : Obj := ⟨(.type "module"), (some 3), .plain, #[]⟩
noncomputable def p5 (_ : Params) : Obj := ⟨(.type "dict"), none, (.dict #[] 0), #[]⟩
noncomputable def p6 (_ : Params) : Obj := ⟨.none, none, (.fields #[]), #[]⟩
noncomputable def p7 (_ : Params) : Obj := ⟨(.type "code"), none, (.fields #[(.str (Str.ofString "<module>") 176), (.str (Str.ofString "<module>") 177), (.str (Str.ofString "/claim/cut.py") 178), (.int 1 0), (.int 0 0), (.int 0 0), (.int 0 0), (.int 0 0), (.ref 7), (.bool false), (.int 175 0), (.ref 8), .none, .none, .none, .none, (.int 179 0), (.int 1 0), (.str (Str.ofString "/claim/cut.py") 180)]), #[]⟩
noncomputable def p8 (_ : Params) : Obj := ⟨(.type "frame"), none, .plain, #[(some (.ref 9)), (some (.ref 3)), (some (.ref 3)), none, (some (.str (Str.ofString "__main__") 164)), none, (some (.ref 0))]⟩
noncomputable def p9 (P : Params) : Obj := ⟨(.type "dict"), none, (.dict #[⟨PyData.keyHash P (Str.ofString "__name__"), .str (Str.ofString "__name__") 247, (.str (Str.ofString "_sre") 246)⟩, ⟨PyData.keyHash P (Str.ofString "__doc__"), .str (Str.ofString "__doc__") 248, .none⟩, ⟨PyData.keyHash P (Str.ofString "__package__"), .str (Str.ofString "__package__") 250, (.str (Str.ofString "") 249)⟩, ⟨PyData.keyHash P (Str.ofString "__loader__"), .str (Str.ofString "__loader__") 251, (.ref 14)⟩, ⟨PyData.keyHash P (Str.ofString "__spec__"), .str (Str.ofString "__spec__") 252, (.ref 26)⟩, ⟨PyData.keyHash P (Str.ofString "compile"), .str (Str.ofString "compile") 253, (.builtin "_sre.compile")⟩, ⟨PyData.keyHash P (Str.ofString "template"), .str (Str.ofString "template") 254, (.builtin "_sre.template")⟩, ⟨PyData.keyHash P (Str.ofString "getcodesize"), .str (Str.ofString "getcodesize") 255, (.builtin "_sre.getcodesize")⟩, ⟨PyData.keyHash P (Str.ofString "ascii_iscased"), .str (Str.ofString "ascii_iscased") 256, (.builtin "_sre.ascii_iscased")⟩, ⟨PyData.keyHash P (Str.ofString "unicode_iscased"), .str (Str.ofString "unicode_iscased") 257, (.builtin "_sre.unicode_iscased")⟩, ⟨PyData.keyHash P (Str.ofString "ascii_tolower"), .str (Str.ofString "ascii_tolower") 258, (.builtin "_sre.ascii_tolower")⟩, ⟨PyData.keyHash P (Str.ofString "unicode_tolower"), .str (Str.ofString "unicode_tolower") 259, (.builtin "_sre.unicode_tolower")⟩, ⟨PyData.keyHash P (Str.ofString "MAGIC"), .str (Str.ofString "MAGIC") 261, (.int 20230612 260)⟩, ⟨PyData.keyHash P (Str.ofString "CODESIZE"), .str (Str.ofString "CODESIZE") 263, (.int 4 262)⟩, ⟨PyData.keyHash P (Str.ofString "MAXREPEAT"), .str (Str.ofString "MAXREPEAT") 265, (.int 4294967295 264)⟩, ⟨PyData.keyHash P (Str.ofString "MAXGROUPS"), .str (Str.ofString "MAXGROUPS") 267, (.int 1073741823 266)⟩, ⟨PyData.keyHash P (Str.ofString "copyright"), .str (Str.ofString "copyright") 269, (.str (Str.ofString " SRE 2.2.2 Copyright (c) 1997-2002 by Secret Labs AB ") 268)⟩] 17), #[]⟩
noncomputable def p10 (_ : Params) : Obj := ⟨(.type "module"), (some 11), .plain, #[]⟩
noncomputable def p11 (P : Params) : Obj := ⟨(.type "dict"), none, (.dict #[⟨PyData.keyHash P (Str.ofString "__module__"), .str (Str.ofString "__module__") 189, (.str (Str.ofString "_frozen_importlib") 186)⟩, ⟨PyData.keyHash P (Str.ofString "__firstlineno__"), .str (Str.ofString "__firstlineno__") 190, (.int 971 187)⟩, ⟨PyData.keyHash P (Str.ofString "__doc__"), .str (Str.ofString "__doc__") 191, (.builtin "_frozen_importlib.BuiltinImporter.__doc__:str#opaque")⟩, ⟨PyData.keyHash P (Str.ofString "_ORIGIN"), .str (Str.ofString "_ORIGIN") 192, (.str (Str.ofString "built-in") 188)⟩, ⟨PyData.keyHash P (Str.ofString "find_spec"), .str (Str.ofString "find_spec") 193, (.builtin "_frozen_importlib.BuiltinImporter.find_spec#opaque")⟩, ⟨PyData.keyHash P (Str.ofString "create_module"), .str (Str.ofString "create_module") 194, (.builtin "_frozen_importlib.BuiltinImporter.create_module#opaque")⟩, ⟨PyData.keyHash P (Str.ofString "exec_module"), .str (Str.ofString "exec_module") 195, (.builtin "_frozen_importlib.BuiltinImporter.exec_module#opaque")⟩, ⟨PyData.keyHash P (Str.ofString "get_code"), .str (Str.ofString "get_code") 196, (.builtin "_frozen_importlib.BuiltinImporter.get_code#opaque")⟩, ⟨PyData.keyHash P (Str.ofString "get_source"), .str (Str.ofString "get_source") 197, (.builtin "_frozen_importlib.BuiltinImporter.get_source#opaque")⟩, ⟨PyData.keyHash P (Str.ofString "is_package"), .str (Str.ofString "is_package") 198, (.builtin "_frozen_importlib.BuiltinImporter.is_package#opaque")⟩, ⟨PyData.keyHash P (Str.ofString "load_module"), .str (Str.ofString "load_module") 199, (.builtin "_frozen_importlib.BuiltinImporter.load_module#opaque")⟩, ⟨PyData.keyHash P (Str.ofString "__static_attributes__"), .str (Str.ofString "__static_attributes__") 200, (.ref 15)⟩, ⟨PyData.keyHash P (Str.ofString "__dict__"), .str (Str.ofString "__dict__") 202, (.ref 16)⟩, ⟨PyData.keyHash P (Str.ofString "__weakref__"), .str (Str.ofString "__weakref__") 204, (.ref 17)⟩] 14), #[]⟩
noncomputable def p12 (_ : Params) : Obj := ⟨(.type "type"), none, (.cls { name := (Str.ofString "BuiltinImporter"), bases := [(.type "object")], mro := [(.ref 14), (.type "object")], ns := 13, qualname := (Str.ofString "BuiltinImporter"), hasDict := true, slotNames := [], subclasses := [], abstract := false, collection := none, hasDel := false }), #[]⟩
noncomputable def p13 (_ : Params) : Obj := ⟨(.type "getset_descriptor"), none, (.fields #[(.str (Str.ofString "__dict__") 201), (.ref 14), (.builtin "function.__dict__"), (.builtin "function.__dict__#set")]), #[]⟩
noncomputable def p14 (_ : Params) : Obj := ⟨(.type "getset_descriptor"), none, (.fields #[(.str (Str.ofString "__weakref__") 203), (.ref 14), (.builtin "ExceptionGroup.__weakref__"), .none]), #[]⟩
noncomputable def p15 (_ : Params) : Obj := ⟨.none, none, (.seq #[(.int 13 0), (.str ⟨#[6, 189, 10, 95, 95, 109, 111, 100, 117, 108, 101, 95, 95, 6, 186, 17, 95, 102, 114, 111, 122, 101, 110, 95, 105, 109, 112, 111, 114, 116, 108, 105, 98, 6, 190, 15, 95, 95, 102, 105, 114, 115, 116, 108, 105, 110, 101, 110, 111, 95, 95, 4, 187, 0, 971, 6, 191, 7, 95, 95, 100, 111, 99, 95, 95, 9, 52, 95, 102, 114, 111, 122, 101, 110, 95, 105, 109, 112, 111, 114, 116, 108, 105, 98, 46, 66, 117, 105, 108, 116, 105, 110, 73, 109, 112, 111, 114, 116, 101, 114, 46, 95, 95, 100, 111, 99, 95, 95, 58, 115, 116, 114, 35, 111, 112, 97, 113, 117, 101, 6, 192, 7, 95, 79, 82, 73, 71, 73, 78, 6, 188, 8, 98, 117, 105, 108, 116, 45, 105, 110, 6, 193, 9, 102, 105, 110, 100, 95, 115, 112, 101, 99, 9, 50, 95, 102, 114, 111, 122, 101, 110, 95, 105, 109, 112, 111, 114, 116, 108, 105, 98, 46, 66, 117, 105, 108, 116, 105, 110, 73, 109, 112, 111, 114, 116, 101, 114, 46, 102, 105, 110, 100, 95, 115, 112, 101, 99, 35, 111, 112, 97, 113, 117, 101, 6, 194, 13, 99, 114, 101, 97, 116, 101, 95, 109, 111, 100, 117, 108, 101, 9, 54, 95, 102, 114, 111, 122, 101, 110, 95, 105, 109, 112, 111, 114, 116, 108, 105, 98, 46, 66, 117, 105, 108, 116, 105, 110, 73, 109, 112, 111, 114, 116, 101, 114, 46, 99, 114, 101, 97, 116, 101, 95, 109, 111, 100, 117, 108, 101, 35, 111, 112, 97, 113, 117, 101, 6, 195, 11, 101, 120, 101, 99, 95, 109, 111, 100, 117, 108, 101, 9, 52, 95, 102, 114, 111, 122, 101, 110, 95, 105, 109, 112, 111, 114, 116, 108, 105, 98, 46, 66, 117, 105, 108, 116, 105, 110, 73, 109, 112, 111, 114, 116, 101, 114, 46, 101, 120, 101, 99, 95, 109, 111, 100, 117, 108, 101, 35, 111, 112, 97, 113, 117, 101, 6, 196, 8, 103, 101, 116, 95, 99, 111, 100, 101, 9, 49, 95, 102, 114, 111, 122, 101, 110, 95, 105, 109, 112, 111, 114, 116, 108, 105, 98, 46, 66, 117, 105, 108, 116, 105, 110, 73, 109, 112, 111, 114, 116, 101, 114, 46, 103, 101, 116, 95, 99, 111, 100, 101, 35, 111, 112, 97, 113, 117, 101, 6, 197, 10, 103, 101, 116, 95, 115, 111, 117, 114, 99, 101, 9, 51, 95, 102, 114, 111, 122, 101, 110, 95, 105, 109, 112, 111, 114, 116, 108, 105, 98, 46, 66, 117, 105, 108, 116, 105, 110, 73, 109, 112, 111, 114, 116, 101, 114, 46, 103, 101, 116, 95, 115, 111, 117, 114, 99, 101, 35, 111, 112, 97, 113, 117, 101, 6, 198, 10, 105, 115, 95, 112, 97, 99, 107, 97, 103, 101, 9, 51, 95, 102, 114, 111, 122, 101, 110, 95, 105, 109, 112, 111, 114, 116, 108, 105, 98, 46, 66, 117, 105, 108, 116, 105, 110, 73, 109, 112, 111, 114, 116, 101, 114, 46, 105, 115, 95, 112, 97, 99, 107, 97, 103, 101, 35, 111, 112, 97, 113, 117, 101, 6, 199, 11, 108, 111, 97, 100, 95, 109, 111, 100, 117, 108, 101, 9, 52, 95, 102, 114, 111, 122, 101, 110, 95, 105, 109, 112, 111, 114, 116, 108, 105, 98, 46, 66, 117, 105, 108, 116, 105, 110, 73, 109, 112, 111, 114, 116, 101, 114, 46, 108, 111, 97, 100, 95, 109, 111, 100, 117, 108, 101, 35, 111, 112, 97, 113, 117, 101, 6, 200, 21, 95, 95, 115, 116, 97, 116, 105, 99, 95, 97, 116, 116, 114, 105, 98, 117, 116, 101, 115, 95, 95, 4, 0, 0, 15, 6, 202, 8, 95, 95, 100, 105, 99, 116, 95, 95, 4, 0, 0, 16, 6, 204, 11, 95, 95, 119, 101, 97, 107, 114, 101, 102, 95, 95, 4, 0, 0, 17]⟩ 0), (.bool true), (.bool true), (.str (Str.ofString "") 205), (.int 21 0), (.str ⟨#[6, 227, 10, 95, 95, 109, 111, 100, 117, 108, 101, 95, 95, 6, 217, 17, 95, 102, 114, 111, 122, 101, 110, 95, 105, 109, 112, 111, 114, 116, 108, 105, 98, 6, 228, 15, 95, 95, 102, 105, 114, 115, 116, 108, 105, 110, 101, 110, 111, 95, 95, 4, 218, 0, 562, 6, 229, 7, 95, 95, 100, 111, 99, 95, 95, 9, 47, 95, 102, 114, 111, 122, 101, 110, 95, 105, 109, 112, 111, 114, 116, 108, 105, 98, 46, 77, 111, 100, 117, 108, 101, 83, 112, 101, 99, 46, 95, 95, 100, 111, 99, 95, 95, 58, 115, 116, 114, 35, 111, 112, 97, 113, 117, 101, 6, 230, 8, 95, 95, 105, 110, 105, 116, 95, 95, 9, 44, 95, 102, 114, 111, 122, 101, 110, 95, 105, 109, 112, 111, 114, 116, 108, 105, 98, 46, 77, 111, 100, 117, 108, 101, 83, 112, 101, 99, 46, 95, 95, 105, 110, 105, 116, 95, 95, 35, 111, 112, 97, 113, 117, 101, 6, 231, 8, 95, 95, 114, 101, 112, 114, 95, 95, 9, 44, 95, 102, 114, 111, 122, 101, 110, 95, 105, 109, 112, 111, 114, 116, 108, 105, 98, 46, 77, 111, 100, 117, 108, 101, 83, 112, 101, 99, 46, 95, 95, 114, 101, 112, 114, 95, 95, 35, 111, 112, 97, 113, 117, 101, 6, 232, 6, 95, 95, 101, 113, 95, 95, 9, 42, 95, 102, 114, 111, 122, 101, 110, 95, 105, 109, 112, 111, 114, 116, 108, 105, 98, 46, 77, 111, 100, 117, 108, 101, 83, 112, 101, 99, 46, 95, 95, 101, 113, 95, 95, 35, 111, 112, 97, 113, 117, 101, 6, 233, 6, 99, 97, 99, 104, 101, 100, 9, 42, 95, 102, 114, 111, 122, 101, 110, 95, 105, 109, 112, 111, 114, 116, 108, 105, 98, 46, 77, 111, 100, 117, 108, 101, 83, 112, 101, 99, 46, 99, 97, 99, 104, 101, 100, 35, 111, 112, 97, 113, 117, 101, 6, 234, 6, 112, 97, 114, 101, 110, 116, 9, 42, 95, 102, 114, 111, 122, 101, 110, 95, 105, 109, 112, 111, 114, 116, 108, 105, 98, 46, 77, 111, 100, 117, 108, 101, 83, 112, 101, 99, 46, 112, 97, 114, 101, 110, 116, 35, 111, 112, 97, 113, 117, 101, 6, 235, 12, 104, 97, 115, 95, 108, 111, 99, 97, 116, 105, 111, 110, 9, 48, 95, 102, 114, 111, 122, 101, 110, 95, 105, 109, 112, 111, 114, 116, 108, 105, 98, 46, 77, 111, 100, 117, 108, 101, 83, 112, 101, 99, 46, 104, 97, 115, 95, 108, 111, 99, 97, 116, 105, 111, 110, 35, 111, 112, 97, 113, 117, 101, 6, 236, 21, 95, 95, 115, 116, 97, 116, 105, 99, 95, 97, 116, 116, 114, 105, 98, 117, 116, 101, 115, 95, 95, 4, 0, 0, 23, 6, 238, 8, 95, 95, 100, 105, 99, 116, 95, 95, 4, 0, 0, 24, 6, 240, 11, 95, 95, 119, 101, 97, 107, 114, 101, 102, 95, 95, 4, 0, 0, 25, 6, 241, 8, 95, 95, 104, 97, 115, 104, 95, 95, 0]⟩ 0), (.bool true), (.bool true), (.str (Str.ofString "") 242)] 1), #[]⟩
noncomputable def p16 (_ : Params) : Obj := ⟨(.type "list"), none, (.seq #[] 0), #[]⟩
noncomputable def p17 (P : Params) : Obj := ⟨(.type "dict"), none, (.dict #[⟨PyData.keyHash P (Str.ofString "name"), .str (Str.ofString "name") 208, (.str (Str.ofString "_sre") 207)⟩, ⟨PyData.keyHash P (Str.ofString "loader"), .str (Str.ofString "loader") 209, (.ref 14)⟩, ⟨PyData.keyHash P (Str.ofString "origin"), .str (Str.ofString "origin") 210, (.str (Str.ofString "built-in") 184)⟩, ⟨PyData.keyHash P (Str.ofString "loader_state"), .str (Str.ofString "loader_state") 211, .none⟩, ⟨PyData.keyHash P (Str.ofString "submodule_search_locations"), .str (Str.ofString "submodule_search_locations") 212, .none⟩, ⟨PyData.keyHash P (Str.ofString "_uninitialized_submodules"), .str (Str.ofString "_uninitialized_submodules") 213, (.ref 19)⟩, ⟨PyData.keyHash P (Str.ofString "_set_fileattr"), .str (Str.ofString "_set_fileattr") 214, (.bool false)⟩, ⟨PyData.keyHash P (Str.ofString "_cached"), .str (Str.ofString "_cached") 215, .none⟩, ⟨PyData.keyHash P (Str.ofString "_initializing"), .str (Str.ofString "_initializing") 243, (.bool false)⟩] 9), #[]⟩
noncomputable def p18 (P : Params) : Obj := ⟨(.type "dict"), none, (.dict #[⟨PyData.keyHash P (Str.ofString "__module__"), .str (Str.ofString "__module__") 227, (.str (Str.ofString "_frozen_importlib") 217)⟩, ⟨PyData.keyHash P (Str.ofString "__firstlineno__"), .str (Str.ofString "__firstlineno__") 228, (.int 562 218)⟩, ⟨PyData.keyHash P (Str.ofString "__doc__"), .str (Str.ofString "__doc__") 229, (.builtin "_frozen_importlib.ModuleSpec.__doc__:str#opaque")⟩, ⟨PyData.keyHash P (Str.ofString "__init__"), .str (Str.ofString "__init__") 230, (.builtin "_frozen_importlib.ModuleSpec.__init__#opaque")⟩, ⟨PyData.keyHash P (Str.ofString "__repr__"), .str (Str.ofString "__repr__") 231, (.builtin "_frozen_importlib.ModuleSpec.__repr__#opaque")⟩, ⟨PyData.keyHash P (Str.ofString "__eq__"), .str (Str.ofString "__eq__") 232, (.builtin "_frozen_importlib.ModuleSpec.__eq__#opaque")⟩, ⟨PyData.keyHash P (Str.ofString "cached"), .str (Str.ofString "cached") 233, (.builtin "_frozen_importlib.ModuleSpec.cached#opaque")⟩, ⟨PyData.keyHash P (Str.ofString "parent"), .str (Str.ofString "parent") 234, (.builtin "_frozen_importlib.ModuleSpec.parent#opaque")⟩, ⟨PyData.keyHash P (Str.ofString "has_location"), .str (Str.ofString "has_location") 235, (.builtin "_frozen_importlib.ModuleSpec.has_location#opaque")⟩, ⟨PyData.keyHash P (Str.ofString "__static_attributes__"), .str (Str.ofString "__static_attributes__") 236, (.ref 23)⟩, ⟨PyData.keyHash P (Str.ofString "__dict__"), .str (Str.ofString "__dict__") 238, (.ref 24)⟩, ⟨PyData.keyHash P (Str.ofString "__weakref__"), .str (Str.ofString "__weakref__") 240, (.ref 25)⟩, ⟨PyData.keyHash P (Str.ofString "__hash__"), .str (Str.ofString "__hash__") 241, .none⟩] 13), #[]⟩
noncomputable def p19 (_ : Params) : Obj := ⟨(.type "type"), none, (.cls { name := (Str.ofString "ModuleSpec"), bases := [(.type "object")], mro := [(.ref 22), (.type "object")], ns := 21, qualname := (Str.ofString "ModuleSpec"), hasDict := true, slotNames := [], subclasses := [], abstract := false, collection := none, hasDel := false }), #[]⟩
noncomputable def p20 (_ : Params) : Obj := ⟨(.type "tuple"), none, (.seq #[(.str (Str.ofString "_cached") 219), (.str (Str.ofString "_set_fileattr") 220), (.str (Str.ofString "_uninitialized_submodules") 221), (.str (Str.ofString "loader") 222), (.str (Str.ofString "loader_state") 223), (.str (Str.ofString "name") 224), (.str (Str.ofString "origin") 225), (.str (Str.ofString "submodule_search_locations") 226)] 0), #[]⟩
noncomputable def p21 (_ : Params) : Obj := ⟨(.type "getset_descriptor"), none, (.fields #[(.str (Str.ofString "__dict__") 237), (.ref 22), (.builtin "function.__dict__"), (.builtin "function.__dict__#set")]), #[]⟩
noncomputable def p22 (_ : Params) : Obj := ⟨(.type "getset_descriptor"), none, (.fields #[(.str (Str.ofString "__weakref__") 239), (.ref 22), (.builtin "ExceptionGroup.__weakref__"), .none]), #[]⟩
noncomputable def p23 (_ : Params) : Obj := ⟨(.ref 22), (some 20), .plain, #[]⟩
noncomputable def p24 (_ : Params) : Obj := ⟨.none, none, (.seq #[(.int 11 0), (.str ⟨#[6, 247, 8, 95, 95, 110, 97, 109, 101, 95, 95, 6, 246, 4, 95, 115, 114, 101, 6, 248, 7, 95, 95, 100, 111, 99, 95, 95, 0, 6, 250, 11, 95, 95, 112, 97, 99, 107, 97, 103, 101, 95, 95, 6, 249, 0, 6, 251, 10, 95, 95, 108, 111, 97, 100, 101, 114, 95, 95, 4, 0, 0, 14, 6, 252, 8, 95, 95, 115, 112, 101, 99, 95, 95, 4, 0, 0, 26, 6, 253, 7, 99, 111, 109, 112, 105, 108, 101, 9, 12, 95, 115, 114, 101, 46, 99, 111, 109, 112, 105, 108, 101, 6, 254, 8, 116, 101, 109, 112, 108, 97, 116, 101, 9, 13, 95, 115, 114, 101, 46, 116, 101, 109, 112, 108, 97, 116, 101, 6, 255, 11, 103, 101, 116, 99, 111, 100, 101, 115, 105, 122, 101, 9, 16, 95, 115, 114, 101, 46, 103, 101, 116, 99, 111, 100, 101, 115, 105, 122, 101, 6, 256, 13, 97, 115, 99, 105, 105, 95, 105, 115, 99, 97, 115, 101, 100, 9, 18, 95, 115, 114, 101, 46, 97, 115, 99, 105, 105, 95, 105, 115, 99, 97, 115, 101, 100, 6, 257, 15, 117, 110, 105, 99, 111, 100, 101, 95, 105, 115, 99, 97, 115, 101, 100, 9, 20, 95, 115, 114, 101, 46, 117, 110, 105, 99, 111, 100, 101, 95, 105, 115, 99, 97, 115, 101, 100, 6, 258, 13, 97, 115, 99, 105, 105, 95, 116, 111, 108, 111, 119, 101, 114, 9, 18, 95, 115, 114, 101, 46, 97, 115, 99, 105, 105, 95, 116, 111, 108, 111, 119, 101, 114, 6, 259, 15, 117, 110, 105, 99, 111, 100, 101, 95, 116, 111, 108, 111, 119, 101, 114, 9, 20, 95, 115, 114, 101, 46, 117, 110, 105, 99, 111, 100, 101, 95, 116, 111, 108, 111, 119, 101, 114, 6, 261, 5, 77, 65, 71, 73, 67, 4, 260, 0, 20230612, 6, 263, 8, 67, 79, 68, 69, 83, 73, 90, 69, 4, 262, 0, 4, 6, 265, 9, 77, 65, 88, 82, 69, 80, 69, 65, 84, 4, 264, 0, 4294967295, 6, 267, 9, 77, 65, 88, 71, 82, 79, 85, 80, 83, 4, 266, 0, 1073741823, 6, 269, 9, 99, 111, 112, 121, 114, 105, 103, 104, 116, 6, 268, 53, 32, 83, 82, 69, 32, 50, 46, 50, 46, 50, 32, 67, 111, 112, 121, 114, 105, 103, 104, 116, 32, 40, 99, 41, 32, 49, 57, 57, 55, 45, 50, 48, 48, 50, 32, 98, 121, 32, 83, 101, 99, 114, 101, 116, 32, 76, 97, 98, 115, 32, 65, 66, 32]⟩ 0), (.bool true), (.bool false), (.str (Str.ofString "_sre") 271)] 0), #[]⟩
noncomputable def p25 (P : Params) : Obj := ⟨(.type "dict"), none, (.dict #[⟨PyData.keyHash P (Str.ofString "__name__"), .str (Str.ofString "__name__") 247, (.str (Str.ofString "_sre") 246)⟩, ⟨PyData.keyHash P (Str.ofString "__doc__"), .str (Str.ofString "__doc__") 248, .none⟩, ⟨PyData.keyHash P (Str.ofString "__package__"), .str (Str.ofString "__package__") 250, (.str (Str.ofString "") 249)⟩, ⟨PyData.keyHash P (Str.ofString "__loader__"), .str (Str.ofString "__loader__") 251, (.builtin "off-the-table:_sre.__loader__:shared#opaque")⟩, ⟨PyData.keyHash P (Str.ofString "__spec__"), .str (Str.ofString "__spec__") 252, (.builtin "off-the-table:_sre.__spec__:shared#opaque")⟩, ⟨PyData.keyHash P (Str.ofString "compile"), .str (Str.ofString "compile") 253, (.builtin "_sre.compile")⟩, ⟨PyData.keyHash P (Str.ofString "template"), .str (Str.ofString "template") 254, (.builtin "off-the-table:_sre.template:shared#opaque")⟩, ⟨PyData.keyHash P (Str.ofString "getcodesize"), .str (Str.ofString "getcodesize") 255, (.builtin "off-the-table:_sre.getcodesize:shared#opaque")⟩, ⟨PyData.keyHash P (Str.ofString "ascii_iscased"), .str (Str.ofString "ascii_iscased") 256, (.builtin "off-the-table:_sre.ascii_iscased:shared#opaque")⟩, ⟨PyData.keyHash P (Str.ofString "unicode_iscased"), .str (Str.ofString "unicode_iscased") 257, (.builtin "off-the-table:_sre.unicode_iscased:shared#opaque")⟩, ⟨PyData.keyHash P (Str.ofString "ascii_tolower"), .str (Str.ofString "ascii_tolower") 258, (.builtin "off-the-table:_sre.ascii_tolower:shared#opaque")⟩, ⟨PyData.keyHash P (Str.ofString "unicode_tolower"), .str (Str.ofString "unicode_tolower") 259, (.builtin "off-the-table:_sre.unicode_tolower:shared#opaque")⟩, ⟨PyData.keyHash P (Str.ofString "MAGIC"), .str (Str.ofString "MAGIC") 261, (.int 20230612 260)⟩, ⟨PyData.keyHash P (Str.ofString "CODESIZE"), .str (Str.ofString "CODESIZE") 263, (.int 4 262)⟩, ⟨PyData.keyHash P (Str.ofString "MAXREPEAT"), .str (Str.ofString "MAXREPEAT") 265, (.int 4294967295 264)⟩, ⟨PyData.keyHash P (Str.ofString "MAXGROUPS"), .str (Str.ofString "MAXGROUPS") 267, (.int 1073741823 266)⟩, ⟨PyData.keyHash P (Str.ofString "copyright"), .str (Str.ofString "copyright") 269, (.str (Str.ofString " SRE 2.2.2 Copyright (c) 1997-2002 by Secret Labs AB ") 268)⟩] 17), #[]⟩
noncomputable def p26 (_ : Params) : Obj := ⟨(.type "code"), none, (.fields #[(.str (Str.ofString "<module>") 277), (.str (Str.ofString "<module>") 278), (.str (Str.ofString "/claim/cut.py") 279), (.int 1 0), (.int 0 0), (.int 0 0), (.int 0 0), (.int 0 0), (.ref 28), (.bool false), (.int 276 0), (.ref 29), .none, .none, .none, .none, (.int 280 0), (.int 1 0), (.str (Str.ofString "/claim/cut.py") 281)]), #[]⟩
noncomputable def p27 (_ : Params) : Obj := ⟨(.type "frame"), none, .plain, #[(some (.ref 30)), (some (.ref 3)), (some (.ref 3)), none, (some (.str (Str.ofString "__main__") 164)), none, (some (.ref 0))]⟩
noncomputable def p28 (P : Params) : Obj := ⟨(.type "dict"), none, (.dict #[⟨PyData.keyHash P (Str.ofString "__name__"), .str (Str.ofString "__name__") 165, (.str (Str.ofString "cpy313.stringprep") 335)⟩, ⟨PyData.keyHash P (Str.ofString "__doc__"), .str (Str.ofString "__doc__") 166, .none⟩, ⟨PyData.keyHash P (Str.ofString "__package__"), .str (Str.ofString "__package__") 167, .none⟩, ⟨PyData.keyHash P (Str.ofString "__loader__"), .str (Str.ofString "__loader__") 168, (.builtin "__main__.__loader__#opaque")⟩, ⟨PyData.keyHash P (Str.ofString "__spec__"), .str (Str.ofString "__spec__") 169, .none⟩, ⟨PyData.keyHash P (Str.ofString "__annotations__"), .str (Str.ofString "__annotations__") 170, (.ref 6)⟩, ⟨PyData.keyHash P (Str.ofString "__builtins__"), .str (Str.ofString "__builtins__") 171, (.ref 4)⟩, ⟨PyData.keyHash P (Str.ofString "__file__"), .str (Str.ofString "__file__") 173, (.str (Str.ofString "/claim/cut.py") 172)⟩, ⟨PyData.keyHash P (Str.ofString "__cached__"), .str (Str.ofString "__cached__") 174, .none⟩, ⟨PyData.keyHash P (Str.ofString "_sre"), .str (Str.ofString "_sre") 275, (.ref 12)⟩, ⟨PyData.keyHash P (Str.ofString "_wall"), .str (Str.ofString "_wall") 288, (.ref 38)⟩, ⟨PyData.keyHash P (Str.ofString "_DIV_LIMIT"), .str (Str.ofString "_DIV_LIMIT") 292, (.int 4000 291)⟩, ⟨PyData.keyHash P (Str.ofString "_div2n1n"), .str (Str.ofString "_div2n1n") 309, (.ref 45)⟩, ⟨PyData.keyHash P (Str.ofString "_div3n2n"), .str (Str.ofString "_div3n2n") 323, (.ref 52)⟩, ⟨PyData.keyHash P (Str.ofString "_digits2int"), .str (Str.ofString "_digits2int") 334, (.ref 59)⟩] 15), #[]⟩
noncomputable def p29 (_ : Params) : Obj := ⟨.none, none, (.fields #[(.int 2 0), (.int 0 0), (.ref 37), (.int 7 0), (.int 0 0), (.ref 44), (.int 23 0), (.int 0 0), (.ref 51), (.int 33 0), (.int 0 0), (.ref 58)]), #[]⟩
noncomputable def p30 (_ : Params) : Obj := ⟨.none, none, (.func { name := (Str.ofString "_wall"), qualname := (Str.ofString "_wall"), params := fnArgs (st 1), body := .stmts (fnBody (st 1)), scope := fnScope (st 1), globals := 0, closure := [], defaults := .none, kwdefaults := .none, doc := .none, pyModule := .none, annotations := none, code := .none, closureTuple := .none, builtins := 0 }), #[]⟩
noncomputable def p31 (_ : Params) : Obj := ⟨.none, none, (.func { name := (Str.ofString "_div2n1n"), qualname := (Str.ofString "_div2n1n"), params := fnArgs (st 4), body := .stmts (fnBody (st 4)), scope := fnScope (st 4), globals := 0, closure := [], defaults := .none, kwdefaults := .none, doc := .none, pyModule := .none, annotations := none, code := .none, closureTuple := .none, builtins := 0 }), #[]⟩
noncomputable def p32 (_ : Params) : Obj := ⟨.none, none, (.func { name := (Str.ofString "_div3n2n"), qualname := (Str.ofString "_div3n2n"), params := fnArgs (st 5), body := .stmts (fnBody (st 5)), scope := fnScope (st 5), globals := 0, closure := [], defaults := .none, kwdefaults := .none, doc := .none, pyModule := .none, annotations := none, code := .none, closureTuple := .none, builtins := 0 }), #[]⟩
noncomputable def p33 (_ : Params) : Obj := ⟨.none, none, (.func { name := (Str.ofString "_digits2int"), qualname := (Str.ofString "_digits2int"), params := fnArgs (st 6), body := .stmts (fnBody (st 6)), scope := fnScope (st 6), globals := 0, closure := [], defaults := .none, kwdefaults := .none, doc := .none, pyModule := .none, annotations := none, code := .none, closureTuple := .none, builtins := 0 }), #[]⟩
noncomputable def p34 (P : Params) : Obj := ⟨(.type "dict"), none, (.dict #[⟨PyData.keyHash P (Str.ofString "__name__"), .str (Str.ofString "__name__") 165, (.str (Str.ofString "cpy313.stringprep") 335)⟩, ⟨PyData.keyHash P (Str.ofString "__doc__"), .str (Str.ofString "__doc__") 166, .none⟩, ⟨PyData.keyHash P (Str.ofString "__package__"), .str (Str.ofString "__package__") 167, .none⟩, ⟨PyData.keyHash P (Str.ofString "__loader__"), .str (Str.ofString "__loader__") 168, (.builtin "__main__.__loader__#opaque")⟩, ⟨PyData.keyHash P (Str.ofString "__spec__"), .str (Str.ofString "__spec__") 169, .none⟩, ⟨PyData.keyHash P (Str.ofString "__annotations__"), .str (Str.ofString "__annotations__") 170, (.ref 6)⟩, ⟨PyData.keyHash P (Str.ofString "__builtins__"), .str (Str.ofString "__builtins__") 171, (.ref 4)⟩, ⟨PyData.keyHash P (Str.ofString "__file__"), .str (Str.ofString "__file__") 173, (.str (Str.ofString "/claim/cut.py") 172)⟩, ⟨PyData.keyHash P (Str.ofString "__cached__"), .str (Str.ofString "__cached__") 174, .none⟩, ⟨PyData.keyHash P (Str.ofString "_sre"), .str (Str.ofString "_sre") 275, (.ref 12)⟩, ⟨PyData.keyHash P (Str.ofString "_wall"), .str (Str.ofString "_wall") 288, (.ref 38)⟩, ⟨PyData.keyHash P (Str.ofString "_DIV_LIMIT"), .str (Str.ofString "_DIV_LIMIT") 292, (.int 4000 291)⟩, ⟨PyData.keyHash P (Str.ofString "_div2n1n"), .str (Str.ofString "_div2n1n") 309, (.ref 45)⟩, ⟨PyData.keyHash P (Str.ofString "_div3n2n"), .str (Str.ofString "_div3n2n") 323, (.ref 52)⟩, ⟨PyData.keyHash P (Str.ofString "_digits2int"), .str (Str.ofString "_digits2int") 334, (.ref 59)⟩, ⟨PyData.keyHash P (Str.ofString "c8_set"), .str (Str.ofString "c8_set") 377, (.ref 73)⟩] 16), #[]⟩
noncomputable def p35 (_ : Params) : Obj := ⟨(.type "list"), none, (.seq #[(.int 832 337), (.int 833 338), (.int 8206 339), (.int 8207 340)] 0), #[]⟩
noncomputable def p36 (_ : Params) : Obj := ⟨(.type "range"), none, (.fields #[(.int 8234 341), (.int 8239 342), (.int 1 343)]), #[]⟩
noncomputable def p37 (_ : Params) : Obj := ⟨(.type "list"), none, (.seq #[(.int 8234 346), (.int 8235 347), (.int 8236 348), (.int 8237 349), (.int 8238 350)] 7), #[]⟩
noncomputable def p38 (_ : Params) : Obj := ⟨(.type "range_iterator"), none, (.fields #[(.int 8239 0), (.int 0 0), (.int 1 0)]), #[]⟩
noncomputable def p39 (_ : Params) : Obj := ⟨(.type "StopIteration"), none, (.fields #[(.ref 64), .none, .none, .none, (.bool false), .none]), #[]⟩
noncomputable def p40 (_ : Params) : Obj := ⟨(.type "list"), none, (.seq #[(.int 832 337), (.int 833 338), (.int 8206 339), (.int 8207 340), (.int 8234 346), (.int 8235 347), (.int 8236 348), (.int 8237 349), (.int 8238 350)] 0), #[]⟩
noncomputable def p41 (_ : Params) : Obj := ⟨(.type "range"), none, (.fields #[(.int 8298 351), (.int 8304 352), (.int 1 353)]), #[]⟩
noncomputable def p42 (_ : Params) : Obj := ⟨(.type "list"), none, (.seq #[(.int 8298 356), (.int 8299 357), (.int 8300 358), (.int 8301 359), (.int 8302 360), (.int 8303 361)] 8), #[]⟩
noncomputable def p43 (_ : Params) : Obj := ⟨(.type "range_iterator"), none, (.fields #[(.int 8304 0), (.int 0 0), (.int 1 0)]), #[]⟩
noncomputable def p44 (_ : Params) : Obj := ⟨(.type "StopIteration"), none, (.fields #[(.ref 70), .none, .none, .none, (.bool false), .none]), #[]⟩
noncomputable def p45 (_ : Params) : Obj := ⟨(.type "list"), none, (.seq #[(.int 832 337), (.int 833 338), (.int 8206 339), (.int 8207 340), (.int 8234 346), (.int 8235 347), (.int 8236 348), (.int 8237 349), (.int 8238 350), (.int 8298 356), (.int 8299 357), (.int 8300 358), (.int 8301 359), (.int 8302 360), (.int 8303 361)] 0), #[]⟩
noncomputable def p46 (_ : Params) : Obj := ⟨(.type "list_iterator"), none, (.fields #[.none, (.int 15 0)]), #[]⟩
noncomputable def p47 (_ : Params) : Obj := ⟨(.type "StopIteration"), none, (.fields #[(.ref 75), .none, .none, .none, (.bool false), .none]), #[]⟩
noncomputable def p48 (P : Params) : Obj := ⟨(.type "dict"), none, (.dict #[⟨PyData.keyHash P (Str.ofString "__name__"), .str (Str.ofString "__name__") 165, (.str (Str.ofString "cpy313.tabnanny") 385)⟩, ⟨PyData.keyHash P (Str.ofString "__doc__"), .str (Str.ofString "__doc__") 166, .none⟩, ⟨PyData.keyHash P (Str.ofString "__package__"), .str (Str.ofString "__package__") 167, .none⟩, ⟨PyData.keyHash P (Str.ofString "__loader__"), .str (Str.ofString "__loader__") 168, (.builtin "__main__.__loader__#opaque")⟩, ⟨PyData.keyHash P (Str.ofString "__spec__"), .str (Str.ofString "__spec__") 169, .none⟩, ⟨PyData.keyHash P (Str.ofString "__annotations__"), .str (Str.ofString "__annotations__") 170, (.ref 6)⟩, ⟨PyData.keyHash P (Str.ofString "__builtins__"), .str (Str.ofString "__builtins__") 171, (.ref 4)⟩, ⟨PyData.keyHash P (Str.ofString "__file__"), .str (Str.ofString "__file__") 173, (.str (Str.ofString "/claim/cut.py") 172)⟩, ⟨PyData.keyHash P (Str.ofString "__cached__"), .str (Str.ofString "__cached__") 174, .none⟩, ⟨PyData.keyHash P (Str.ofString "_sre"), .str (Str.ofString "_sre") 275, (.ref 12)⟩, ⟨PyData.keyHash P (Str.ofString "_wall"), .str (Str.ofString "_wall") 288, (.ref 38)⟩, ⟨PyData.keyHash P (Str.ofString "_DIV_LIMIT"), .str (Str.ofString "_DIV_LIMIT") 292, (.int 4000 291)⟩, ⟨PyData.keyHash P (Str.ofString "_div2n1n"), .str (Str.ofString "_div2n1n") 309, (.ref 45)⟩, ⟨PyData.keyHash P (Str.ofString "_div3n2n"), .str (Str.ofString "_div3n2n") 323, (.ref 52)⟩, ⟨PyData.keyHash P (Str.ofString "_digits2int"), .str (Str.ofString "_digits2int") 334, (.ref 59)⟩, ⟨PyData.keyHash P (Str.ofString "c8_set"), .str (Str.ofString "c8_set") 377, (.ref 73)⟩, ⟨PyData.keyHash P (Str.ofString "in_table_c8"), .str (Str.ofString "in_table_c8") 384, (.ref 83)⟩] 17), #[]⟩
noncomputable def p49 (_ : Params) : Obj := ⟨.none, none, (.fields #[(.int 2 0), (.int 0 0), (.ref 37), (.int 7 0), (.int 0 0), (.ref 44), (.int 23 0), (.int 0 0), (.ref 51), (.int 33 0), (.int 0 0), (.ref 58), (.int 44 0), (.int 0 0), (.ref 82)]), #[]⟩
noncomputable def p50 (_ : Params) : Obj := ⟨.none, none, (.func { name := (Str.ofString "in_table_c8"), qualname := (Str.ofString "in_table_c8"), params := fnArgs (st 9), body := .stmts (fnBody (st 9)), scope := fnScope (st 9), globals := 0, closure := [], defaults := .none, kwdefaults := .none, doc := .none, pyModule := .none, annotations := none, code := .none, closureTuple := .none, builtins := 0 }), #[]⟩
noncomputable def p51 (P : Params) : Obj := ⟨(.type "dict"), none, (.dict #[⟨PyData.keyHash P (Str.ofString "__name__"), .str (Str.ofString "__name__") 165, (.str (Str.ofString "cpy313.tabnanny") 385)⟩, ⟨PyData.keyHash P (Str.ofString "__doc__"), .str (Str.ofString "__doc__") 166, .none⟩, ⟨PyData.keyHash P (Str.ofString "__package__"), .str (Str.ofString "__package__") 167, .none⟩, ⟨PyData.keyHash P (Str.ofString "__loader__"), .str (Str.ofString "__loader__") 168, (.builtin "__main__.__loader__#opaque")⟩, ⟨PyData.keyHash P (Str.ofString "__spec__"), .str (Str.ofString "__spec__") 169, .none⟩, ⟨PyData.keyHash P (Str.ofString "__annotations__"), .str (Str.ofString "__annotations__") 170, (.ref 6)⟩, ⟨PyData.keyHash P (Str.ofString "__builtins__"), .str (Str.ofString "__builtins__") 171, (.ref 4)⟩, ⟨PyData.keyHash P (Str.ofString "__file__"), .str (Str.ofString "__file__") 173, (.str (Str.ofString "/claim/cut.py") 172)⟩, ⟨PyData.keyHash P (Str.ofString "__cached__"), .str (Str.ofString "__cached__") 174, .none⟩, ⟨PyData.keyHash P (Str.ofString "_sre"), .str (Str.ofString "_sre") 275, (.ref 12)⟩, ⟨PyData.keyHash P (Str.ofString "_wall"), .str (Str.ofString "_wall") 288, (.ref 38)⟩, ⟨PyData.keyHash P (Str.ofString "_DIV_LIMIT"), .str (Str.ofString "_DIV_LIMIT") 292, (.int 4000 291)⟩, ⟨PyData.keyHash P (Str.ofString "_div2n1n"), .str (Str.ofString "_div2n1n") 309, (.ref 45)⟩, ⟨PyData.keyHash P (Str.ofString "_div3n2n"), .str (Str.ofString "_div3n2n") 323, (.ref 52)⟩, ⟨PyData.keyHash P (Str.ofString "_digits2int"), .str (Str.ofString "_digits2int") 334, (.ref 59)⟩, ⟨PyData.keyHash P (Str.ofString "c8_set"), .str (Str.ofString "c8_set") 377, (.ref 73)⟩, ⟨PyData.keyHash P (Str.ofString "in_table_c8"), .str (Str.ofString "in_table_c8") 384, (.ref 83)⟩, ⟨PyData.keyHash P (Str.ofString "Whitespace"), .str (Str.ofString "Whitespace") 478, (.ref 145)⟩] 18), #[]⟩
noncomputable def p52 (_ : Params) : Obj := ⟨.none, none, (.fields #[(.int 2 0), (.int 0 0), (.ref 37), (.int 7 0), (.int 0 0), (.ref 44), (.int 23 0), (.int 0 0), (.ref 51), (.int 33 0), (.int 0 0), (.ref 58), (.int 44 0), (.int 0 0), (.ref 82), (.int 47 0), (.int 0 0), (.ref 89)]), #[]⟩
noncomputable def p53 (_ : Params) : Obj := ⟨(.type "builtin_function_or_method"), none, (.fields #[(.builtin "type.__prepare__"), (.type "type")]), #[]⟩
noncomputable def p54 (P : Params) : Obj := ⟨(.type "dict"), none, (.dict #[⟨PyData.keyHash P (Str.ofString "__module__"), .str (Str.ofString "__module__") 394, (.str (Str.ofString "cpy313.tabnanny") 385)⟩, ⟨PyData.keyHash P (Str.ofString "__qualname__"), .str (Str.ofString "__qualname__") 396, (.str (Str.ofString "Whitespace") 395)⟩, ⟨PyData.keyHash P (Str.ofString "__firstlineno__"), .str (Str.ofString "__firstlineno__") 398, (.int 47 397)⟩, ⟨PyData.keyHash P (Str.ofString "S"), .str (Str.ofString "S") 402, (.str (Str.ofString " ") 400)⟩, ⟨PyData.keyHash P (Str.ofString "T"), .str (Str.ofString "T") 403, (.str ⟨#[9]⟩ 401)⟩, ⟨PyData.keyHash P (Str.ofString "__init__"), .str (Str.ofString "__init__") 418, (.ref 100)⟩, ⟨PyData.keyHash P (Str.ofString "longest_run_of_spaces"), .str (Str.ofString "longest_run_of_spaces") 425, (.ref 107)⟩, ⟨PyData.keyHash P (Str.ofString "indent_level"), .str (Str.ofString "indent_level") 433, (.ref 114)⟩, ⟨PyData.keyHash P (Str.ofString "equal"), .str (Str.ofString "equal") 441, (.ref 121)⟩, ⟨PyData.keyHash P (Str.ofString "not_equal_witness"), .str (Str.ofString "not_equal_witness") 449, (.ref 128)⟩, ⟨PyData.keyHash P (Str.ofString "less"), .str (Str.ofString "less") 457, (.ref 135)⟩, ⟨PyData.keyHash P (Str.ofString "not_less_witness"), .str (Str.ofString "not_less_witness") 465, (.ref 142)⟩, ⟨PyData.keyHash P (Str.ofString "__static_attributes__"), .str (Str.ofString "__static_attributes__") 471, (.ref 143)⟩] 13), #[]⟩
noncomputable def p55 (_ : Params) : Obj := ⟨.none, none, (.fields #[(.int 50 0), (.int 4 0), (.ref 99), (.int 73 0), (.int 4 0), (.ref 106), (.int 76 0), (.int 4 0), (.ref 113), (.int 79 0), (.int 4 0), (.ref 120), (.int 82 0), (.int 4 0), (.ref 127), (.int 85 0), (.int 4 0), (.ref 134), (.int 88 0), (.int 4 0), (.ref 141)]), #[]⟩
noncomputable def p56 (_ : Params) : Obj := ⟨(.type "code"), none, (.fields #[(.str (Str.ofString "Whitespace") 389), (.str (Str.ofString "Whitespace") 390), (.str (Str.ofString "/claim/cut.py") 391), (.int 47 0), (.int 0 0), (.int 0 0), (.int 0 0), (.int 0 0), (.ref 87), (.bool false), (.int 276 0), (.ref 88), .none, .none, .none, .none, (.int 392 0), (.int 47 0), (.str (Str.ofString "/claim/cut.py") 393)]), #[]⟩
noncomputable def p57 (_ : Params) : Obj := ⟨(.type "frame"), none, .plain, #[(some (.ref 89)), (some (.ref 3)), (some (.ref 86)), none, (some (.str (Str.ofString "cpy313.tabnanny") 385)), none, (some (.ref 0))]⟩
noncomputable def p58 (_ : Params) : Obj := ⟨(.type "str_ascii_iterator"), none, (.fields #[.none, (.int 2 0)]), #[]⟩
noncomputable def p59 (_ : Params) : Obj := ⟨(.type "StopIteration"), none, (.fields #[(.ref 92), .none, .none, .none, (.bool false), .none]), #[]⟩
noncomputable def p60 (_ : Params) : Obj := ⟨.none, none, (.func { name := (Str.ofString "__init__"), qualname := (Str.ofString "Whitespace.__init__"), params := fnArgs (stc 11 1), body := .stmts (fnBody (stc 11 1)), scope := fnScope (stc 11 1), globals := 0, closure := [], defaults := .none, kwdefaults := .none, doc := .none, pyModule := .none, annotations := none, code := .none, closureTuple := .none, builtins := 0 }), #[]⟩
noncomputable def p61 (_ : Params) : Obj := ⟨.none, none, (.func { name := (Str.ofString "longest_run_of_spaces"), qualname := (Str.ofString "Whitespace.longest_run_of_spaces"), params := fnArgs (stc 11 2), body := .stmts (fnBody (stc 11 2)), scope := fnScope (stc 11 2), globals := 0, closure := [], defaults := .none, kwdefaults := .none, doc := .none, pyModule := .none, annotations := none, code := .none, closureTuple := .none, builtins := 0 }), #[]⟩
noncomputable def p62 (_ : Params) : Obj := ⟨.none, none, (.func { name := (Str.ofString "indent_level"), qualname := (Str.ofString "Whitespace.indent_level"), params := fnArgs (stc 11 3), body := .stmts (fnBody (stc 11 3)), scope := fnScope (stc 11 3), globals := 0, closure := [], defaults := .none, kwdefaults := .none, doc := .none, pyModule := .none, annotations := none, code := .none, closureTuple := .none, builtins := 0 }), #[]⟩
noncomputable def p63 (_ : Params) : Obj := ⟨.none, none, (.func { name := (Str.ofString "equal"), qualname := (Str.ofString "Whitespace.equal"), params := fnArgs (stc 11 4), body := .stmts (fnBody (stc 11 4)), scope := fnScope (stc 11 4), globals := 0, closure := [], defaults := .none, kwdefaults := .none, doc := .none, pyModule := .none, annotations := none, code := .none, closureTuple := .none, builtins := 0 }), #[]⟩
noncomputable def p64 (_ : Params) : Obj := ⟨.none, none, (.func { name := (Str.ofString "not_equal_witness"), qualname := (Str.ofString "Whitespace.not_equal_witness"), params := fnArgs (stc 11 5), body := .stmts (fnBody (stc 11 5)), scope := fnScope (stc 11 5), globals := 0, closure := [], defaults := .none, kwdefaults := .none, doc := .none, pyModule := .none, annotations := none, code := .none, closureTuple := .none, builtins := 0 }), #[]⟩
noncomputable def p65 (_ : Params) : Obj := ⟨.none, none, (.func { name := (Str.ofString "less"), qualname := (Str.ofString "Whitespace.less"), params := fnArgs (stc 11 6), body := .stmts (fnBody (stc 11 6)), scope := fnScope (stc 11 6), globals := 0, closure := [], defaults := .none, kwdefaults := .none, doc := .none, pyModule := .none, annotations := none, code := .none, closureTuple := .none, builtins := 0 }), #[]⟩
noncomputable def p66 (_ : Params) : Obj := ⟨.none, none, (.func { name := (Str.ofString "not_less_witness"), qualname := (Str.ofString "Whitespace.not_less_witness"), params := fnArgs (stc 11 7), body := .stmts (fnBody (stc 11 7)), scope := fnScope (stc 11 7), globals := 0, closure := [], defaults := .none, kwdefaults := .none, doc := .none, pyModule := .none, annotations := none, code := .none, closureTuple := .none, builtins := 0 }), #[]⟩
noncomputable def p67 (_ : Params) : Obj := ⟨(.type "super"), none, (.fields #[(.ref 145), (.ref 145), (.ref 145)]), #[]⟩
noncomputable def p68 (_ : Params) : Obj := ⟨(.type "builtin_function_or_method"), none, (.fields #[(.builtin "object.__init_subclass__"), (.ref 145)]), #[]⟩
noncomputable def p69 (P : Params) : Obj := ⟨(.type "dict"), none, (.dict #[⟨PyData.keyHash P (Str.ofString "__name__"), .str (Str.ofString "__name__") 165, (.str (Str.ofString "cpy313.wsgiref.headers") 479)⟩, ⟨PyData.keyHash P (Str.ofString "__doc__"), .str (Str.ofString "__doc__") 166, .none⟩, ⟨PyData.keyHash P (Str.ofString "__package__"), .str (Str.ofString "__package__") 167, .none⟩, ⟨PyData.keyHash P (Str.ofString "__loader__"), .str (Str.ofString "__loader__") 168, (.builtin "__main__.__loader__#opaque")⟩, ⟨PyData.keyHash P (Str.ofString "__spec__"), .str (Str.ofString "__spec__") 169, .none⟩, ⟨PyData.keyHash P (Str.ofString "__annotations__"), .str (Str.ofString "__annotations__") 170, (.ref 6)⟩, ⟨PyData.keyHash P (Str.ofString "__builtins__"), .str (Str.ofString "__builtins__") 171, (.ref 4)⟩, ⟨PyData.keyHash P (Str.ofString "__file__"), .str (Str.ofString "__file__") 173, (.str (Str.ofString "/claim/cut.py") 172)⟩, ⟨PyData.keyHash P (Str.ofString "__cached__"), .str (Str.ofString "__cached__") 174, .none⟩, ⟨PyData.keyHash P (Str.ofString "_sre"), .str (Str.ofString "_sre") 275, (.ref 12)⟩, ⟨PyData.keyHash P (Str.ofString "_wall"), .str (Str.ofString "_wall") 288, (.ref 38)⟩, ⟨PyData.keyHash P (Str.ofString "_DIV_LIMIT"), .str (Str.ofString "_DIV_LIMIT") 292, (.int 4000 291)⟩, ⟨PyData.keyHash P (Str.ofString "_div2n1n"), .str (Str.ofString "_div2n1n") 309, (.ref 45)⟩, ⟨PyData.keyHash P (Str.ofString "_div3n2n"), .str (Str.ofString "_div3n2n") 323, (.ref 52)⟩, ⟨PyData.keyHash P (Str.ofString "_digits2int"), .str (Str.ofString "_digits2int") 334, (.ref 59)⟩, ⟨PyData.keyHash P (Str.ofString "c8_set"), .str (Str.ofString "c8_set") 377, (.ref 73)⟩, ⟨PyData.keyHash P (Str.ofString "in_table_c8"), .str (Str.ofString "in_table_c8") 384, (.ref 83)⟩, ⟨PyData.keyHash P (Str.ofString "Whitespace"), .str (Str.ofString "Whitespace") 478, (.ref 145)⟩, ⟨PyData.keyHash P (Str.ofString "_name_disallowed_re"), .str (Str.ofString "_name_disallowed_re") 506, (.ref 154)⟩, ⟨PyData.keyHash P (Str.ofString "_value_disallowed_re"), .str (Str.ofString "_value_disallowed_re") 540, (.ref 159)⟩] 20), #[]⟩
noncomputable def p70 (_ : Params) : Obj := ⟨(.type "list"), none, (.seq #[(.int 14 484), (.int 10 485), (.int 4 486), (.int 1 487), (.int 1 488), (.int 22 489), (.int 0 490), (.int 31 491), (.int 16 492), (.int 127 493), (.int 0 494), (.int 13 495), (.int 7 496), (.int 22 497), (.int 0 498), (.int 31 499), (.int 16 500), (.int 127 501), (.int 0 502), (.int 1 503)] 0), #[]⟩
noncomputable def p71 (_ : Params) : Obj := ⟨(.type "list"), none, (.seq #[(.int 14 510), (.int 14 511), (.int 4 512), (.int 1 513), (.int 1 514), (.int 9 515), (.int 4294966783 516), (.int 0 517), (.int 0 518), (.int 2147483648 519), (.int 0 520), (.int 0 521), (.int 0 522), (.int 0 523), (.int 0 524), (.int 13 525), (.int 11 526), (.int 9 527), (.int 4294966783 528), (.int 0 529), (.int 0 530), (.int 2147483648 531), (.int 0 532), (.int 0 533), (.int 0 534), (.int 0 535), (.int 0 536), (.int 1 537)] 0), #[]⟩
noncomputable def p72 (P : Params) : Obj := ⟨(.type "dict"), none, (.dict #[⟨PyData.keyHash P (Str.ofString "__name__"), .str (Str.ofString "__name__") 165, (.str (Str.ofString "cpy313.wsgiref.headers") 479)⟩, ⟨PyData.keyHash P (Str.ofString "__doc__"), .str (Str.ofString "__doc__") 166, .none⟩, ⟨PyData.keyHash P (Str.ofString "__package__"), .str (Str.ofString "__package__") 167, .none⟩, ⟨PyData.keyHash P (Str.ofString "__loader__"), .str (Str.ofString "__loader__") 168, (.builtin "__main__.__loader__#opaque")⟩, ⟨PyData.keyHash P (Str.ofString "__spec__"), .str (Str.ofString "__spec__") 169, .none⟩, ⟨PyData.keyHash P (Str.ofString "__annotations__"), .str (Str.ofString "__annotations__") 170, (.ref 6)⟩, ⟨PyData.keyHash P (Str.ofString "__builtins__"), .str (Str.ofString "__builtins__") 171, (.ref 4)⟩, ⟨PyData.keyHash P (Str.ofString "__file__"), .str (Str.ofString "__file__") 173, (.str (Str.ofString "/claim/cut.py") 172)⟩, ⟨PyData.keyHash P (Str.ofString "__cached__"), .str (Str.ofString "__cached__") 174, .none⟩, ⟨PyData.keyHash P (Str.ofString "_sre"), .str (Str.ofString "_sre") 275, (.ref 12)⟩, ⟨PyData.keyHash P (Str.ofString "_wall"), .str (Str.ofString "_wall") 288, (.ref 38)⟩, ⟨PyData.keyHash P (Str.ofString "_DIV_LIMIT"), .str (Str.ofString "_DIV_LIMIT") 292, (.int 4000 291)⟩, ⟨PyData.keyHash P (Str.ofString "_div2n1n"), .str (Str.ofString "_div2n1n") 309, (.ref 45)⟩, ⟨PyData.keyHash P (Str.ofString "_div3n2n"), .str (Str.ofString "_div3n2n") 323, (.ref 52)⟩, ⟨PyData.keyHash P (Str.ofString "_digits2int"), .str (Str.ofString "_digits2int") 334, (.ref 59)⟩, ⟨PyData.keyHash P (Str.ofString "c8_set"), .str (Str.ofString "c8_set") 377, (.ref 73)⟩, ⟨PyData.keyHash P (Str.ofString "in_table_c8"), .str (Str.ofString "in_table_c8") 384, (.ref 83)⟩, ⟨PyData.keyHash P (Str.ofString "Whitespace"), .str (Str.ofString "Whitespace") 478, (.ref 145)⟩, ⟨PyData.keyHash P (Str.ofString "_name_disallowed_re"), .str (Str.ofString "_name_disallowed_re") 506, (.ref 154)⟩, ⟨PyData.keyHash P (Str.ofString "_value_disallowed_re"), .str (Str.ofString "_value_disallowed_re") 540, (.ref 159)⟩, ⟨PyData.keyHash P (Str.ofString "Headers"), .str (Str.ofString "Headers") 697, (.ref 282)⟩] 21), #[]⟩
noncomputable def p73 (_ : Params) : Obj := ⟨.none, none, (.fields #[(.int 2 0), (.int 0 0), (.ref 37), (.int 7 0), (.int 0 0), (.ref 44), (.int 23 0), (.int 0 0), (.ref 51), (.int 33 0), (.int 0 0), (.ref 58), (.int 44 0), (.int 0 0), (.ref 82), (.int 47 0), (.int 0 0), (.ref 89), (.int 93 0), (.int 0 0), (.ref 165)]), #[]⟩
noncomputable def p74 (P : Params) : Obj := ⟨(.type "dict"), none, (.dict #[⟨PyData.keyHash P (Str.ofString "__module__"), .str (Str.ofString "__module__") 548, (.str (Str.ofString "cpy313.wsgiref.headers") 479)⟩, ⟨PyData.keyHash P (Str.ofString "__qualname__"), .str (Str.ofString "__qualname__") 550, (.str (Str.ofString "Headers") 549)⟩, ⟨PyData.keyHash P (Str.ofString "__firstlineno__"), .str (Str.ofString "__firstlineno__") 552, (.int 93 551)⟩, ⟨PyData.keyHash P (Str.ofString "__init__"), .str (Str.ofString "__init__") 562, (.ref 174)⟩, ⟨PyData.keyHash P (Str.ofString "_convert_string_type"), .str (Str.ofString "_convert_string_type") 572, (.ref 181)⟩, ⟨PyData.keyHash P (Str.ofString "__len__"), .str (Str.ofString "__len__") 579, (.ref 188)⟩, ⟨PyData.keyHash P (Str.ofString "__setitem__"), .str (Str.ofString "__setitem__") 588, (.ref 195)⟩, ⟨PyData.keyHash P (Str.ofString "__delitem__"), .str (Str.ofString "__delitem__") 594, (.ref 200)⟩, ⟨PyData.keyHash P (Str.ofString "__getitem__"), .str (Str.ofString "__getitem__") 602, (.ref 207)⟩, ⟨PyData.keyHash P (Str.ofString "__contains__"), .str (Str.ofString "__contains__") 610, (.ref 214)⟩, ⟨PyData.keyHash P (Str.ofString "get_all"), .str (Str.ofString "get_all") 618, (.ref 221)⟩, ⟨PyData.keyHash P (Str.ofString "get"), .str (Str.ofString "get") 629, (.ref 229)⟩, ⟨PyData.keyHash P (Str.ofString "keys"), .str (Str.ofString "keys") 635, (.ref 234)⟩, ⟨PyData.keyHash P (Str.ofString "values"), .str (Str.ofString "values") 641, (.ref 239)⟩, ⟨PyData.keyHash P (Str.ofString "items"), .str (Str.ofString "items") 648, (.ref 246)⟩, ⟨PyData.keyHash P (Str.ofString "__repr__"), .str (Str.ofString "__repr__") 655, (.ref 253)⟩, ⟨PyData.keyHash P (Str.ofString "__str__"), .str (Str.ofString "__str__") 661, (.ref 258)⟩, ⟨PyData.keyHash P (Str.ofString "__bytes__"), .str (Str.ofString "__bytes__") 668, (.ref 265)⟩, ⟨PyData.keyHash P (Str.ofString "setdefault"), .str (Str.ofString "setdefault") 678, (.ref 272)⟩, ⟨PyData.keyHash P (Str.ofString "add_header"), .str (Str.ofString "add_header") 688, (.ref 279)⟩, ⟨PyData.keyHash P (Str.ofString "__static_attributes__"), .str (Str.ofString "__static_attributes__") 690, (.ref 280)⟩] 21), #[]⟩
noncomputable def p75 (_ : Params) : Obj := ⟨.none, none, (.fields #[(.int 95 0), (.int 4 0), (.ref 173), (.int 105 0), (.int 4 0), (.ref 180), (.int 113 0), (.int 4 0), (.ref 187), (.int 116 0), (.int 4 0), (.ref 194), (.int 120 0), (.int 4 0), (.ref 199), (.int 124 0), (.int 4 0), (.ref 206), (.int 127 0), (.int 4 0), (.ref 213), (.int 130 0), (.int 4 0), (.ref 220), (.int 133 0), (.int 4 0), (.ref 228), (.int 140 0), (.int 4 0), (.ref 233), (.int 143 0), (.int 4 0), (.ref 238), (.int 146 0), (.int 4 0), (.ref 245), (.int 149 0), (.int 4 0), (.ref 252), (.int 152 0), (.int 4 0), (.ref 257), (.int 155 0), (.int 4 0), (.ref 264), (.int 158 0), (.int 4 0), (.ref 271), (.int 166 0), (.int 4 0), (.ref 278)]), #[]⟩
noncomputable def p76 (_ : Params) : Obj := ⟨(.type "code"), none, (.fields #[(.str (Str.ofString "Headers") 543), (.str (Str.ofString "Headers") 544), (.str (Str.ofString "/claim/cut.py") 545), (.int 93 0), (.int 0 0), (.int 0 0), (.int 0 0), (.int 0 0), (.ref 163), (.bool false), (.int 276 0), (.ref 164), .none, .none, .none, .none, (.int 546 0), (.int 93 0), (.str (Str.ofString "/claim/cut.py") 547)]), #[]⟩
noncomputable def p77 (_ : Params) : Obj := ⟨(.type "frame"), none, .plain, #[(some (.ref 165)), (some (.ref 3)), (some (.ref 162)), none, (some (.str (Str.ofString "cpy313.wsgiref.headers") 479)), none, (some (.ref 0))]⟩
noncomputable def p78 (_ : Params) : Obj := ⟨.none, none, (.func { name := (Str.ofString "__init__"), qualname := (Str.ofString "Headers.__init__"), params := fnArgs (stc 15 0), body := .stmts (fnBody (stc 15 0)), scope := fnScope (stc 15 0), globals := 0, closure := [], defaults := .none, kwdefaults := .none, doc := .none, pyModule := .none, annotations := none, code := .none, closureTuple := .none, builtins := 0 }), #[]⟩
noncomputable def p79 (_ : Params) : Obj := ⟨.none, none, (.func { name := (Str.ofString "_convert_string_type"), qualname := (Str.ofString "Headers._convert_string_type"), params := fnArgs (stc 15 1), body := .stmts (fnBody (stc 15 1)), scope := fnScope (stc 15 1), globals := 0, closure := [], defaults := .none, kwdefaults := .none, doc := .none, pyModule := .none, annotations := none, code := .none, closureTuple := .none, builtins := 0 }), #[]⟩
noncomputable def p80 (_ : Params) : Obj := ⟨.none, none, (.func { name := (Str.ofString "__len__"), qualname := (Str.ofString "Headers.__len__"), params := fnArgs (stc 15 2), body := .stmts (fnBody (stc 15 2)), scope := fnScope (stc 15 2), globals := 0, closure := [], defaults := .none, kwdefaults := .none, doc := .none, pyModule := .none, annotations := none, code := .none, closureTuple := .none, builtins := 0 }), #[]⟩
noncomputable def p81 (_ : Params) : Obj := ⟨.none, none, (.func { name := (Str.ofString "__setitem__"), qualname := (Str.ofString "Headers.__setitem__"), params := fnArgs (stc 15 3), body := .stmts (fnBody (stc 15 3)), scope := fnScope (stc 15 3), globals := 0, closure := [], defaults := .none, kwdefaults := .none, doc := .none, pyModule := .none, annotations := none, code := .none, closureTuple := .none, builtins := 0 }), #[]⟩
noncomputable def p82 (_ : Params) : Obj := ⟨.none, none, (.func { name := (Str.ofString "__delitem__"), qualname := (Str.ofString "Headers.__delitem__"), params := fnArgs (stc 15 4), body := .stmts (fnBody (stc 15 4)), scope := fnScope (stc 15 4), globals := 0, closure := [], defaults := .none, kwdefaults := .none, doc := .none, pyModule := .none, annotations := none, code := .none, closureTuple := .none, builtins := 0 }), #[]⟩
noncomputable def p83 (_ : Params) : Obj := ⟨.none, none, (.func { name := (Str.ofString "__getitem__"), qualname := (Str.ofString "Headers.__getitem__"), params := fnArgs (stc 15 5), body := .stmts (fnBody (stc 15 5)), scope := fnScope (stc 15 5), globals := 0, closure := [], defaults := .none, kwdefaults := .none, doc := .none, pyModule := .none, annotations := none, code := .none, closureTuple := .none, builtins := 0 }), #[]⟩
noncomputable def p84 (_ : Params) : Obj := ⟨.none, none, (.func { name := (Str.ofString "__contains__"), qualname := (Str.ofString "Headers.__contains__"), params := fnArgs (stc 15 6), body := .stmts (fnBody (stc 15 6)), scope := fnScope (stc 15 6), globals := 0, closure := [], defaults := .none, kwdefaults := .none, doc := .none, pyModule := .none, annotations := none, code := .none, closureTuple := .none, builtins := 0 }), #[]⟩
noncomputable def p85 (_ : Params) : Obj := ⟨.none, none, (.func { name := (Str.ofString "get_all"), qualname := (Str.ofString "Headers.get_all"), params := fnArgs (stc 15 7), body := .stmts (fnBody (stc 15 7)), scope := fnScope (stc 15 7), globals := 0, closure := [], defaults := .none, kwdefaults := .none, doc := .none, pyModule := .none, annotations := none, code := .none, closureTuple := .none, builtins := 0 }), #[]⟩
noncomputable def p86 (_ : Params) : Obj := ⟨.none, none, (.func { name := (Str.ofString "get"), qualname := (Str.ofString "Headers.get"), params := fnArgs (stc 15 8), body := .stmts (fnBody (stc 15 8)), scope := fnScope (stc 15 8), globals := 0, closure := [], defaults := .none, kwdefaults := .none, doc := .none, pyModule := .none, annotations := none, code := .none, closureTuple := .none, builtins := 0 }), #[]⟩
noncomputable def p87 (_ : Params) : Obj := ⟨.none, none, (.func { name := (Str.ofString "keys"), qualname := (Str.ofString "Headers.keys"), params := fnArgs (stc 15 9), body := .stmts (fnBody (stc 15 9)), scope := fnScope (stc 15 9), globals := 0, closure := [], defaults := .none, kwdefaults := .none, doc := .none, pyModule := .none, annotations := none, code := .none, closureTuple := .none, builtins := 0 }), #[]⟩
noncomputable def p88 (_ : Params) : Obj := ⟨.none, none, (.func { name := (Str.ofString "values"), qualname := (Str.ofString "Headers.values"), params := fnArgs (stc 15 10), body := .stmts (fnBody (stc 15 10)), scope := fnScope (stc 15 10), globals := 0, closure := [], defaults := .none, kwdefaults := .none, doc := .none, pyModule := .none, annotations := none, code := .none, closureTuple := .none, builtins := 0 }), #[]⟩
noncomputable def p89 (_ : Params) : Obj := ⟨.none, none, (.func { name := (Str.ofString "items"), qualname := (Str.ofString "Headers.items"), params := fnArgs (stc 15 11), body := .stmts (fnBody (stc 15 11)), scope := fnScope (stc 15 11), globals := 0, closure := [], defaults := .none, kwdefaults := .none, doc := .none, pyModule := .none, annotations := none, code := .none, closureTuple := .none, builtins := 0 }), #[]⟩
noncomputable def p90 (_ : Params) : Obj := ⟨.none, none, (.func { name := (Str.ofString "__repr__"), qualname := (Str.ofString "Headers.__repr__"), params := fnArgs (stc 15 12), body := .stmts (fnBody (stc 15 12)), scope := fnScope (stc 15 12), globals := 0, closure := [], defaults := .none, kwdefaults := .none, doc := .none, pyModule := .none, annotations := none, code := .none, closureTuple := .none, builtins := 0 }), #[]⟩
noncomputable def p91 (_ : Params) : Obj := ⟨.none, none, (.func { name := (Str.ofString "__str__"), qualname := (Str.ofString "Headers.__str__"), params := fnArgs (stc 15 13), body := .stmts (fnBody (stc 15 13)), scope := fnScope (stc 15 13), globals := 0, closure := [], defaults := .none, kwdefaults := .none, doc := .none, pyModule := .none, annotations := none, code := .none, closureTuple := .none, builtins := 0 }), #[]⟩
noncomputable def p92 (_ : Params) : Obj := ⟨.none, none, (.func { name := (Str.ofString "__bytes__"), qualname := (Str.ofString "Headers.__bytes__"), params := fnArgs (stc 15 14), body := .stmts (fnBody (stc 15 14)), scope := fnScope (stc 15 14), globals := 0, closure := [], defaults := .none, kwdefaults := .none, doc := .none, pyModule := .none, annotations := none, code := .none, closureTuple := .none, builtins := 0 }), #[]⟩
noncomputable def p93 (_ : Params) : Obj := ⟨.none, none, (.func { name := (Str.ofString "setdefault"), qualname := (Str.ofString "Headers.setdefault"), params := fnArgs (stc 15 15), body := .stmts (fnBody (stc 15 15)), scope := fnScope (stc 15 15), globals := 0, closure := [], defaults := .none, kwdefaults := .none, doc := .none, pyModule := .none, annotations := none, code := .none, closureTuple := .none, builtins := 0 }), #[]⟩
noncomputable def p94 (_ : Params) : Obj := ⟨.none, none, (.func { name := (Str.ofString "add_header"), qualname := (Str.ofString "Headers.add_header"), params := fnArgs (stc 15 16), body := .stmts (fnBody (stc 15 16)), scope := fnScope (stc 15 16), globals := 0, closure := [], defaults := .none, kwdefaults := .none, doc := .none, pyModule := .none, annotations := none, code := .none, closureTuple := .none, builtins := 0 }), #[]⟩
noncomputable def p95 (_ : Params) : Obj := ⟨(.type "super"), none, (.fields #[(.ref 282), (.ref 282), (.ref 282)]), #[]⟩
noncomputable def p96 (_ : Params) : Obj := ⟨(.type "builtin_function_or_method"), none, (.fields #[(.builtin "object.__init_subclass__"), (.ref 282)]), #[]⟩
noncomputable def p97 (_ : Params) : Obj := ⟨.none, none, (.fields #[(.int 2 0), (.int 0 0), (.ref 37), (.int 7 0), (.int 0 0), (.ref 44), (.int 23 0), (.int 0 0), (.ref 51), (.int 33 0), (.int 0 0), (.ref 58), (.int 44 0), (.int 0 0), (.ref 82), (.int 47 0), (.int 0 0), (.ref 89), (.int 93 0), (.int 0 0), (.ref 165), (.int 169 0), (.int 0 0), (.ref 290), (.int 172 0), (.int 0 0), (.ref 295), (.int 177 0), (.int 0 0), (.ref 302), (.int 193 0), (.int 0 0), (.ref 309), (.int 203 0), (.int 0 0), (.ref 314), (.int 206 0), (.int 0 0), (.ref 319), (.int 223 0), (.int 0 0), (.ref 326), (.int 236 0), (.int 0 0), (.ref 331)]), #[]⟩
noncomputable def p98 (_ : Params) : Obj := ⟨.none, none, (.func { name := (Str.ofString "_law_cells"), qualname := (Str.ofString "_law_cells"), params := fnArgs (st 17), body := .stmts (fnBody (st 17)), scope := fnScope (st 17), globals := 0, closure := [], defaults := .none, kwdefaults := .none, doc := .none, pyModule := .none, annotations := none, code := .none, closureTuple := .none, builtins := 0 }), #[]⟩
noncomputable def p99 (_ : Params) : Obj := ⟨.none, none, (.func { name := (Str.ofString "_law_row"), qualname := (Str.ofString "_law_row"), params := fnArgs (st 18), body := .stmts (fnBody (st 18)), scope := fnScope (st 18), globals := 0, closure := [], defaults := .none, kwdefaults := .none, doc := .none, pyModule := .none, annotations := none, code := .none, closureTuple := .none, builtins := 0 }), #[]⟩
noncomputable def p100 (_ : Params) : Obj := ⟨.none, none, (.func { name := (Str.ofString "_law_round"), qualname := (Str.ofString "_law_round"), params := fnArgs (st 19), body := .stmts (fnBody (st 19)), scope := fnScope (st 19), globals := 0, closure := [], defaults := .none, kwdefaults := .none, doc := .none, pyModule := .none, annotations := none, code := .none, closureTuple := .none, builtins := 0 }), #[]⟩
noncomputable def p101 (_ : Params) : Obj := ⟨.none, none, (.func { name := (Str.ofString "_law_alone"), qualname := (Str.ofString "_law_alone"), params := fnArgs (st 20), body := .stmts (fnBody (st 20)), scope := fnScope (st 20), globals := 0, closure := [], defaults := .none, kwdefaults := .none, doc := .none, pyModule := .none, annotations := none, code := .none, closureTuple := .none, builtins := 0 }), #[]⟩
noncomputable def p102 (_ : Params) : Obj := ⟨.none, none, (.func { name := (Str.ofString "_law_lead"), qualname := (Str.ofString "_law_lead"), params := fnArgs (st 21), body := .stmts (fnBody (st 21)), scope := fnScope (st 21), globals := 0, closure := [], defaults := .none, kwdefaults := .none, doc := .none, pyModule := .none, annotations := none, code := .none, closureTuple := .none, builtins := 0 }), #[]⟩
noncomputable def p103 (_ : Params) : Obj := ⟨.none, none, (.func { name := (Str.ofString "_law_run"), qualname := (Str.ofString "_law_run"), params := fnArgs (st 22), body := .stmts (fnBody (st 22)), scope := fnScope (st 22), globals := 0, closure := [], defaults := .none, kwdefaults := .none, doc := .none, pyModule := .none, annotations := none, code := .none, closureTuple := .none, builtins := 0 }), #[]⟩
noncomputable def p104 (_ : Params) : Obj := ⟨.none, none, (.func { name := (Str.ofString "_law_rests"), qualname := (Str.ofString "_law_rests"), params := fnArgs (st 23), body := .stmts (fnBody (st 23)), scope := fnScope (st 23), globals := 0, closure := [], defaults := .none, kwdefaults := .none, doc := .none, pyModule := .none, annotations := none, code := .none, closureTuple := .none, builtins := 0 }), #[]⟩
noncomputable def p105 (_ : Params) : Obj := ⟨.none, none, (.func { name := (Str.ofString "law"), qualname := (Str.ofString "law"), params := fnArgs (st 24), body := .stmts (fnBody (st 24)), scope := fnScope (st 24), globals := 0, closure := [], defaults := .none, kwdefaults := .none, doc := .none, pyModule := .none, annotations := none, code := .none, closureTuple := .none, builtins := 0 }), #[]⟩
noncomputable def He (P : Params) : Heap := ⟨#[p0 P, p1 P, o2 P, p2 P, p3 P, p4 P, p5 P, o32 P, p6 P, p7 P, p8 P, p9 P, p10 P, p11 P, p12 P, o32 P, p13 P, p14 P, p15 P, p16 P, p17 P, p18 P, p19 P, p20 P, p21 P, p22 P, p23 P, p24 P], {}⟩
noncomputable def H0 (P : Params) : Heap := ⟨#[p0 P, p1 P, o2 P, p2 P, p3 P, p4 P, p5 P, o32 P, p6 P, p7 P, p8 P, p25 P, p10 P, p11 P, p12 P, o32 P, p13 P, p14 P, p15 P, p16 P, p17 P, p18 P, p19 P, p20 P, p21 P, p22 P, p23 P, p24 P], {}⟩
noncomputable def Ha (P : Params) : Heap := ⟨#[p0 P, p1 P, o2 P, p2 P, p3 P, p4 P, p5 P, o32 P, p6 P, p7 P, p8 P, p25 P, p10 P, p11 P, p12 P, o32 P, p13 P, p14 P, p15 P, p16 P, p17 P, p18 P, p19 P, p20 P, p21 P, p22 P, p23 P, p24 P, o32 P, p6 P, p26 P, p27 P], {}⟩
noncomputable def T0 (P : Params) : BT := (.node (p0 P) (.node (p1 P) (.node (p2 P) (.node (o32 P) (.node (o32 P) (.node (p27 P) .nil .nil) .nil) (.node (p20 P) .nil .nil)) (.node (p25 P) (.node (p16 P) .nil .nil) (.node (p24 P) .nil .nil))) (.node (p4 P) (.node (p7 P) (.node (p14 P) .nil .nil) (.node (p22 P) .nil .nil)) (.node (p11 P) (.node (p18 P) .nil .nil) (.node (p6 P) .nil .nil)))) (.node (o2 P) (.node (p3 P) (.node (p6 P) (.node (p13 P) .nil .nil) (.node (p21 P) .nil .nil)) (.node (p10 P) (.node (p17 P) .nil .nil) (.node (o32 P) .nil .nil))) (.node (p5 P) (.node (p8 P) (.node (p15 P) .nil .nil) (.node (p23 P) .nil .nil)) (.node (p12 P) (.node (p19 P) .nil .nil) (.node (p26 P) .nil .nil)))))
noncomputable def env0 : Env := { scope := P0.main.scope, locals := mainNs, globals := mainNs, cells := [], code := (.ref 30), frame := some 31 }
noncomputable abbrev cE : Code := .body (behindTheImports P0) env0
noncomputable abbrev B0 : List Frame := [topFrame ⟨0, 0, 0, 0⟩]
noncomputable def T1 (P : Params) : BT := (.node (p0 P) (.node (p1 P) (.node (p28 P) (.node (o32 P) (.node (o32 P) (.node (p27 P) .nil .nil) (.node (p6 P) .nil .nil)) (.node (p20 P) (.node (o32 P) .nil .nil) (.node (o55 P) .nil .nil))) (.node (p25 P) (.node (p16 P) (.node (o32 P) .nil .nil) (.node (o51 P) .nil .nil)) (.node (p24 P) (.node (p31 P) .nil .nil) (.node (o59 P) .nil .nil)))) (.node (p4 P) (.node (p7 P) (.node (p14 P) (.node (p6 P) .nil .nil) (.node (o32 P) .nil .nil)) (.node (p22 P) (.node (o41 P) .nil .nil) (.node (p33 P) .nil .nil))) (.node (p11 P) (.node (p18 P) (.node (o37 P) .nil .nil) (.node (o32 P) .nil .nil)) (.node (p29 P) (.node (o45 P) .nil .nil) .nil)))) (.node (o2 P) (.node (p3 P) (.node (p6 P) (.node (p13 P) (.node (o32 P) .nil .nil) (.node (o48 P) .nil .nil)) (.node (p21 P) (.node (p6 P) .nil .nil) (.node (o56 P) .nil .nil))) (.node (p10 P) (.node (p17 P) (.node (p30 P) .nil .nil) (.node (o52 P) .nil .nil)) (.node (o32 P) (.node (o44 P) .nil .nil) .nil))) (.node (p5 P) (.node (p8 P) (.node (p15 P) (.node (o34 P) .nil .nil) (.node (p32 P) .nil .nil)) (.node (p23 P) (.node (o32 P) .nil .nil) (.node (o58 P) .nil .nil))) (.node (p12 P) (.node (p19 P) (.node (o38 P) .nil .nil) (.node (p6 P) .nil .nil)) (.node (p26 P) (.node (o32 P) .nil .nil) .nil)))))
noncomputable def g1 : List Stmt := [st 1, st 2, st 3, st 4, st 5, st 6, st 7]
noncomputable def T2 (P : Params) : BT := (.node (p0 P) (.node (p1 P) (.node (p34 P) (.node (o32 P) (.node (o32 P) (.node (p27 P) (.node (p38 P) .nil .nil) .nil) (.node (p6 P) .nil .nil)) (.node (p20 P) (.node (o32 P) (.node (p44 P) .nil .nil) .nil) (.node (o55 P) .nil .nil))) (.node (p25 P) (.node (p16 P) (.node (o32 P) (.node (p41 P) .nil .nil) .nil) (.node (o51 P) .nil .nil)) (.node (p24 P) (.node (p31 P) (.node (o32 P) .nil .nil) .nil) (.node (o59 P) .nil .nil)))) (.node (p4 P) (.node (p7 P) (.node (p14 P) (.node (p6 P) (.node (p39 P) .nil .nil) .nil) (.node (o32 P) .nil .nil)) (.node (p22 P) (.node (o41 P) (.node (o73 P) .nil .nil) .nil) (.node (p33 P) .nil .nil))) (.node (p11 P) (.node (p18 P) (.node (o37 P) (.node (p43 P) .nil .nil) .nil) (.node (o32 P) .nil .nil)) (.node (p29 P) (.node (o45 P) .nil .nil) (.node (p36 P) .nil .nil))))) (.node (o2 P) (.node (p3 P) (.node (p6 P) (.node (p13 P) (.node (o32 P) (.node (o32 P) .nil .nil) .nil) (.node (o48 P) .nil .nil)) (.node (p21 P) (.node (p6 P) (.node (p45 P) .nil .nil) .nil) (.node (o56 P) .nil .nil))) (.node (p10 P) (.node (p17 P) (.node (p30 P) (.node (p42 P) .nil .nil) .nil) (.node (o52 P) .nil .nil)) (.node (o32 P) (.node (o44 P) (.node (p47 P) .nil .nil) .nil) (.node (p35 P) .nil .nil)))) (.node (p5 P) (.node (p8 P) (.node (p15 P) (.node (o34 P) (.node (p40 P) .nil .nil) .nil) (.node (p32 P) .nil .nil)) (.node (p23 P) (.node (o32 P) (.node (p46 P) .nil .nil) .nil) (.node (o58 P) .nil .nil))) (.node (p12 P) (.node (p19 P) (.node (o38 P) (.node (o32 P) .nil .nil) .nil) (.node (p6 P) .nil .nil)) (.node (p26 P) (.node (o32 P) .nil .nil) (.node (p37 P) .nil .nil))))))
noncomputable def g2 : List Stmt := [st 8]
noncomputable def T3 (P : Params) : BT := (.node (p0 P) (.node (p1 P) (.node (p48 P) (.node (o32 P) (.node (o32 P) (.node (p27 P) (.node (p38 P) .nil .nil) .nil) (.node (p6 P) (.node (o79 P) .nil .nil) .nil)) (.node (p20 P) (.node (o32 P) (.node (p44 P) .nil .nil) .nil) (.node (o55 P) .nil .nil))) (.node (p25 P) (.node (p16 P) (.node (o32 P) (.node (p41 P) .nil .nil) .nil) (.node (o51 P) (.node (o83 P) .nil .nil) .nil)) (.node (p24 P) (.node (p31 P) (.node (o32 P) .nil .nil) .nil) (.node (o59 P) .nil .nil)))) (.node (p4 P) (.node (p7 P) (.node (p14 P) (.node (p6 P) (.node (p39 P) .nil .nil) .nil) (.node (o32 P) (.node (p50 P) .nil .nil) .nil)) (.node (p22 P) (.node (o41 P) (.node (o73 P) .nil .nil) .nil) (.node (p33 P) .nil .nil))) (.node (p11 P) (.node (p18 P) (.node (o37 P) (.node (p43 P) .nil .nil) .nil) (.node (o32 P) .nil .nil)) (.node (p49 P) (.node (o45 P) (.node (o32 P) .nil .nil) .nil) (.node (p36 P) .nil .nil))))) (.node (o2 P) (.node (p3 P) (.node (p6 P) (.node (p13 P) (.node (o32 P) (.node (o32 P) .nil .nil) .nil) (.node (o48 P) (.node (o32 P) .nil .nil) .nil)) (.node (p21 P) (.node (p6 P) (.node (p45 P) .nil .nil) .nil) (.node (o56 P) .nil .nil))) (.node (p10 P) (.node (p17 P) (.node (p30 P) (.node (p42 P) .nil .nil) .nil) (.node (o52 P) .nil .nil)) (.node (o32 P) (.node (o44 P) (.node (p47 P) .nil .nil) .nil) (.node (p35 P) .nil .nil)))) (.node (p5 P) (.node (p8 P) (.node (p15 P) (.node (o34 P) (.node (p40 P) .nil .nil) .nil) (.node (p32 P) (.node (o82 P) .nil .nil) .nil)) (.node (p23 P) (.node (o32 P) (.node (p46 P) .nil .nil) .nil) (.node (o58 P) .nil .nil))) (.node (p12 P) (.node (p19 P) (.node (o38 P) (.node (o32 P) .nil .nil) .nil) (.node (p6 P) .nil .nil)) (.node (p26 P) (.node (o32 P) (.node (p6 P) .nil .nil) .nil) (.node (p37 P) .nil .nil))))))
noncomputable def g3 : List Stmt := [st 9, st 10]
noncomputable def T4 (P : Params) : BT := (.node (p0 P) (.node (p1 P) (.node (p51 P) (.node (o32 P) (.node (o32 P) (.node (p27 P) (.node (p38 P) (.node (o127 P) .nil .nil) .nil) (.node (p6 P) .nil .nil)) (.node (p6 P) (.node (o79 P) (.node (o143 P) .nil .nil) .nil) (.node (o32 P) .nil .nil))) (.node (p20 P) (.node (o32 P) (.node (p44 P) (.node (o135 P) .nil .nil) .nil) (.node (o103 P) .nil .nil)) (.node (o55 P) (.node (o32 P) .nil .nil) (.node (p63 P) .nil .nil)))) (.node (p25 P) (.node (p16 P) (.node (o32 P) (.node (p41 P) (.node (o131 P) .nil .nil) .nil) (.node (o99 P) .nil .nil)) (.node (o51 P) (.node (o83 P) (.node (o147 P) .nil .nil) .nil) (.node (o32 P) .nil .nil))) (.node (p24 P) (.node (p31 P) (.node (o32 P) (.node (o32 P) .nil .nil) .nil) (.node (o107 P) .nil .nil)) (.node (o59 P) (.node (p58 P) .nil .nil) (.node (p6 P) .nil .nil))))) (.node (p4 P) (.node (p7 P) (.node (p14 P) (.node (p6 P) (.node (p39 P) (.node (o32 P) .nil .nil) .nil) (.node (o32 P) .nil .nil)) (.node (o32 P) (.node (p50 P) (.node (o145 P) .nil .nil) .nil) (.node (o113 P) .nil .nil))) (.node (p22 P) (.node (o41 P) (.node (o73 P) (.node (p6 P) .nil .nil) .nil) (.node (p61 P) .nil .nil)) (.node (p33 P) (.node (p56 P) .nil .nil) (.node (o121 P) .nil .nil)))) (.node (p11 P) (.node (p18 P) (.node (o37 P) (.node (p43 P) (.node (p65 P) .nil .nil) .nil) (.node (o32 P) .nil .nil)) (.node (o32 P) (.node (p53 P) (.node (p68 P) .nil .nil) .nil) (.node (o117 P) .nil .nil))) (.node (p52 P) (.node (o45 P) (.node (o32 P) (.node (o141 P) .nil .nil) .nil) (.node (p6 P) .nil .nil)) (.node (p36 P) (.node (p59 P) .nil .nil) (.node (o32 P) .nil .nil)))))) (.node (o2 P) (.node (p3 P) (.node (p6 P) (.node (p13 P) (.node (o32 P) (.node (o32 P) (.node (o128 P) .nil .nil) .nil) (.node (o96 P) .nil .nil)) (.node (o48 P) (.node (o32 P) (.node (o144 P) .nil .nil) .nil) (.node (p62 P) .nil .nil))) (.node (p21 P) (.node (p6 P) (.node (p45 P) (.node (o32 P) .nil .nil) .nil) (.node (o32 P) .nil .nil)) (.node (o56 P) (.node (p55 P) .nil .nil) (.node (o120 P) .nil .nil)))) (.node (p10 P) (.node (p17 P) (.node (p30 P) (.node (p42 P) (.node (o32 P) .nil .nil) .nil) (.node (o100 P) .nil .nil)) (.node (o52 P) (.node (o32 P) (.node (p67 P) .nil .nil) .nil) (.node (p6 P) .nil .nil))) (.node (o32 P) (.node (o44 P) (.node (p47 P) (.node (p66 P) .nil .nil) .nil) (.node (o32 P) .nil .nil)) (.node (p35 P) (.node (o32 P) .nil .nil) (.node (o124 P) .nil .nil))))) (.node (p5 P) (.node (p8 P) (.node (p15 P) (.node (o34 P) (.node (p40 P) (.node (p6 P) .nil .nil) .nil) (.node (p60 P) .nil .nil)) (.node (p32 P) (.node (o82 P) (.node (o146 P) .nil .nil) .nil) (.node (o114 P) .nil .nil))) (.node (p23 P) (.node (o32 P) (.node (p46 P) (.node (o138 P) .nil .nil) .nil) (.node (o106 P) .nil .nil)) (.node (o58 P) (.node (p57 P) .nil .nil) (.node (o32 P) .nil .nil)))) (.node (p12 P) (.node (p19 P) (.node (o38 P) (.node (o32 P) (.node (o134 P) .nil .nil) .nil) (.node (p6 P) .nil .nil)) (.node (p6 P) (.node (p54 P) .nil .nil) (.node (o32 P) .nil .nil))) (.node (p26 P) (.node (o32 P) (.node (p6 P) (.node (o142 P) .nil .nil) .nil) (.node (o110 P) .nil .nil)) (.node (p37 P) (.node (o32 P) .nil .nil) (.node (p64 P) .nil .nil)))))))
noncomputable def g4 : List Stmt := [st 11]
noncomputable def T5 (P : Params) : BT := (.node (p0 P) (.node (p1 P) (.node (p69 P) (.node (o32 P) (.node (o32 P) (.node (p27 P) (.node (p38 P) (.node (o127 P) .nil .nil) .nil) (.node (p6 P) (.node (o159 P) .nil .nil) .nil)) (.node (p6 P) (.node (o79 P) (.node (o143 P) .nil .nil) .nil) (.node (o32 P) .nil .nil))) (.node (p20 P) (.node (o32 P) (.node (p44 P) (.node (o135 P) .nil .nil) .nil) (.node (o103 P) .nil .nil)) (.node (o55 P) (.node (o32 P) (.node (p5 P) .nil .nil) .nil) (.node (p63 P) .nil .nil)))) (.node (p25 P) (.node (p16 P) (.node (o32 P) (.node (p41 P) (.node (o131 P) .nil .nil) .nil) (.node (o99 P) .nil .nil)) (.node (o51 P) (.node (o83 P) (.node (o147 P) .nil .nil) .nil) (.node (o32 P) .nil .nil))) (.node (p24 P) (.node (p31 P) (.node (o32 P) (.node (o32 P) .nil .nil) .nil) (.node (o107 P) .nil .nil)) (.node (o59 P) (.node (p58 P) (.node (p71 P) .nil .nil) .nil) (.node (p6 P) .nil .nil))))) (.node (p4 P) (.node (p7 P) (.node (p14 P) (.node (p6 P) (.node (p39 P) (.node (o32 P) .nil .nil) .nil) (.node (o32 P) .nil .nil)) (.node (o32 P) (.node (p50 P) (.node (o145 P) .nil .nil) .nil) (.node (o113 P) .nil .nil))) (.node (p22 P) (.node (o41 P) (.node (o73 P) (.node (p6 P) .nil .nil) .nil) (.node (p61 P) .nil .nil)) (.node (p33 P) (.node (p56 P) (.node (o153 P) .nil .nil) .nil) (.node (o121 P) .nil .nil)))) (.node (p11 P) (.node (p18 P) (.node (o37 P) (.node (p43 P) (.node (p65 P) .nil .nil) .nil) (.node (o32 P) .nil .nil)) (.node (o32 P) (.node (p53 P) (.node (p68 P) .nil .nil) .nil) (.node (o117 P) .nil .nil))) (.node (p52 P) (.node (o45 P) (.node (o32 P) (.node (o141 P) .nil .nil) .nil) (.node (p6 P) .nil .nil)) (.node (p36 P) (.node (p59 P) (.node (o167 P) .nil .nil) .nil) (.node (o32 P) .nil .nil)))))) (.node (o2 P) (.node (p3 P) (.node (p6 P) (.node (p13 P) (.node (o32 P) (.node (o32 P) (.node (o128 P) .nil .nil) .nil) (.node (o96 P) .nil .nil)) (.node (o48 P) (.node (o32 P) (.node (o144 P) .nil .nil) .nil) (.node (p62 P) .nil .nil))) (.node (p21 P) (.node (p6 P) (.node (p45 P) (.node (o32 P) .nil .nil) .nil) (.node (o32 P) .nil .nil)) (.node (o56 P) (.node (p55 P) (.node (o167 P) .nil .nil) .nil) (.node (o120 P) .nil .nil)))) (.node (p10 P) (.node (p17 P) (.node (p30 P) (.node (p42 P) (.node (o32 P) .nil .nil) .nil) (.node (o100 P) .nil .nil)) (.node (o52 P) (.node (o32 P) (.node (p67 P) .nil .nil) .nil) (.node (p6 P) .nil .nil))) (.node (o32 P) (.node (o44 P) (.node (p47 P) (.node (p66 P) .nil .nil) .nil) (.node (o32 P) .nil .nil)) (.node (p35 P) (.node (o32 P) (.node (p5 P) .nil .nil) .nil) (.node (o124 P) .nil .nil))))) (.node (p5 P) (.node (p8 P) (.node (p15 P) (.node (o34 P) (.node (p40 P) (.node (p6 P) .nil .nil) .nil) (.node (p60 P) .nil .nil)) (.node (p32 P) (.node (o82 P) (.node (o146 P) .nil .nil) .nil) (.node (o114 P) .nil .nil))) (.node (p23 P) (.node (o32 P) (.node (p46 P) (.node (o138 P) .nil .nil) .nil) (.node (o106 P) .nil .nil)) (.node (o58 P) (.node (p57 P) (.node (o154 P) .nil .nil) .nil) (.node (o32 P) .nil .nil)))) (.node (p12 P) (.node (p19 P) (.node (o38 P) (.node (o32 P) (.node (o134 P) .nil .nil) .nil) (.node (p6 P) .nil .nil)) (.node (p6 P) (.node (p54 P) (.node (p70 P) .nil .nil) .nil) (.node (o32 P) .nil .nil))) (.node (p26 P) (.node (o32 P) (.node (p6 P) (.node (o142 P) .nil .nil) .nil) (.node (o110 P) .nil .nil)) (.node (p37 P) (.node (o32 P) (.node (o158 P) .nil .nil) .nil) (.node (p64 P) .nil .nil)))))))
noncomputable def g5 : List Stmt := [st 12, st 13, st 14]
noncomputable def T6 (P : Params) : BT := (.node (p0 P) (.node (p1 P) (.node (p72 P) (.node (o32 P) (.node (o32 P) (.node (p27 P) (.node (p38 P) (.node (o127 P) (.node (p6 P) .nil .nil) .nil) (.node (o191 P) .nil .nil)) (.node (p6 P) (.node (o159 P) .nil .nil) (.node (o32 P) .nil .nil))) (.node (p6 P) (.node (o79 P) (.node (o143 P) (.node (o271 P) .nil .nil) .nil) (.node (o207 P) .nil .nil)) (.node (o32 P) (.node (o32 P) .nil .nil) (.node (o239 P) .nil .nil)))) (.node (p20 P) (.node (o32 P) (.node (p44 P) (.node (o135 P) (.node (p92 P) .nil .nil) .nil) (.node (o199 P) .nil .nil)) (.node (o103 P) (.node (o167 P) .nil .nil) (.node (p6 P) .nil .nil))) (.node (o55 P) (.node (o32 P) (.node (p5 P) (.node (o279 P) .nil .nil) .nil) (.node (o32 P) .nil .nil)) (.node (p63 P) (.node (p6 P) .nil .nil) (.node (o32 P) .nil .nil))))) (.node (p25 P) (.node (p16 P) (.node (o32 P) (.node (p41 P) (.node (o131 P) (.node (o32 P) .nil .nil) .nil) (.node (o195 P) .nil .nil)) (.node (o99 P) (.node (o32 P) .nil .nil) (.node (p86 P) .nil .nil))) (.node (o51 P) (.node (o83 P) (.node (o147 P) (.node (o275 P) .nil .nil) .nil) (.node (o32 P) .nil .nil)) (.node (o32 P) (.node (p79 P) .nil .nil) (.node (o32 P) .nil .nil)))) (.node (p24 P) (.node (p31 P) (.node (o32 P) (.node (o32 P) (.node (p6 P) .nil .nil) .nil) (.node (o203 P) .nil .nil)) (.node (o107 P) (.node (o32 P) .nil .nil) (.node (o32 P) .nil .nil))) (.node (o59 P) (.node (p58 P) (.node (p71 P) (.node (o283 P) .nil .nil) .nil) (.node (p85 P) .nil .nil)) (.node (p6 P) (.node (o187 P) .nil .nil) (.node (p90 P) .nil .nil)))))) (.node (p4 P) (.node (p7 P) (.node (p14 P) (.node (p6 P) (.node (p39 P) (.node (o32 P) (.node (o257 P) .nil .nil) .nil) (.node (p81 P) .nil .nil)) (.node (o32 P) (.node (p53 P) .nil .nil) (.node (o225 P) .nil .nil))) (.node (o32 P) (.node (p50 P) (.node (o145 P) (.node (o32 P) .nil .nil) .nil) (.node (p6 P) .nil .nil)) (.node (o113 P) (.node (o177 P) .nil .nil) (.node (p6 P) .nil .nil)))) (.node (p22 P) (.node (o41 P) (.node (o73 P) (.node (p6 P) (.node (o265 P) .nil .nil) .nil) (.node (o32 P) .nil .nil)) (.node (p61 P) (.node (p6 P) .nil .nil) (.node (o233 P) .nil .nil))) (.node (p33 P) (.node (p56 P) (.node (o153 P) (.node (o281 P) .nil .nil) .nil) (.node (o217 P) .nil .nil)) (.node (o121 P) (.node (o32 P) .nil .nil) (.node (o249 P) .nil .nil))))) (.node (p11 P) (.node (p18 P) (.node (o37 P) (.node (p43 P) (.node (p65 P) (.node (o261 P) .nil .nil) .nil) (.node (p6 P) .nil .nil)) (.node (o32 P) (.node (p76 P) .nil .nil) (.node (o229 P) .nil .nil))) (.node (o32 P) (.node (p53 P) (.node (p68 P) (.node (p94 P) .nil .nil) .nil) (.node (o213 P) .nil .nil)) (.node (o117 P) (.node (o181 P) .nil .nil) (.node (o245 P) .nil .nil)))) (.node (p73 P) (.node (o45 P) (.node (o32 P) (.node (o141 P) (.node (o32 P) .nil .nil) .nil) (.node (p83 P) .nil .nil)) (.node (p6 P) (.node (o173 P) .nil .nil) (.node (p88 P) .nil .nil))) (.node (p36 P) (.node (p59 P) (.node (o167 P) (.node (p95 P) .nil .nil) .nil) (.node (o221 P) .nil .nil)) (.node (o32 P) (.node (o32 P) .nil .nil) (.node (o253 P) .nil .nil))))))) (.node (o2 P) (.node (p3 P) (.node (p6 P) (.node (p13 P) (.node (o32 P) (.node (o32 P) (.node (o128 P) (.node (p91 P) .nil .nil) .nil) (.node (o32 P) .nil .nil)) (.node (o96 P) (.node (o32 P) .nil .nil) (.node (p6 P) .nil .nil))) (.node (o48 P) (.node (o32 P) (.node (o144 P) (.node (o272 P) .nil .nil) .nil) (.node (o32 P) .nil .nil)) (.node (p62 P) (.node (p6 P) .nil .nil) (.node (o32 P) .nil .nil)))) (.node (p21 P) (.node (p6 P) (.node (p45 P) (.node (o32 P) (.node (o264 P) .nil .nil) .nil) (.node (o200 P) .nil .nil)) (.node (o32 P) (.node (o32 P) .nil .nil) (.node (p87 P) .nil .nil))) (.node (o56 P) (.node (p55 P) (.node (o167 P) (.node (o280 P) .nil .nil) .nil) (.node (p6 P) .nil .nil)) (.node (o120 P) (.node (o184 P) .nil .nil) (.node (p6 P) .nil .nil))))) (.node (p10 P) (.node (p17 P) (.node (p30 P) (.node (p42 P) (.node (o32 P) (.node (p6 P) .nil .nil) .nil) (.node (o32 P) .nil .nil)) (.node (o100 P) (.node (p75 P) .nil .nil) (.node (o228 P) .nil .nil))) (.node (o52 P) (.node (o32 P) (.node (p67 P) (.node (o32 P) .nil .nil) .nil) (.node (p84 P) .nil .nil)) (.node (p6 P) (.node (o180 P) .nil .nil) (.node (p89 P) .nil .nil)))) (.node (o32 P) (.node (o44 P) (.node (p47 P) (.node (p66 P) (.node (o268 P) .nil .nil) .nil) (.node (o32 P) .nil .nil)) (.node (o32 P) (.node (p78 P) .nil .nil) (.node (p6 P) .nil .nil))) (.node (p35 P) (.node (o32 P) (.node (p5 P) (.node (o284 P) .nil .nil) .nil) (.node (o220 P) .nil .nil)) (.node (o124 P) (.node (o188 P) .nil .nil) (.node (o252 P) .nil .nil)))))) (.node (p5 P) (.node (p8 P) (.node (p15 P) (.node (o34 P) (.node (p40 P) (.node (p6 P) (.node (o258 P) .nil .nil) .nil) (.node (o194 P) .nil .nil)) (.node (p60 P) (.node (p74 P) .nil .nil) (.node (o32 P) .nil .nil))) (.node (p32 P) (.node (o82 P) (.node (o146 P) (.node (p6 P) .nil .nil) .nil) (.node (o210 P) .nil .nil)) (.node (o114 P) (.node (o32 P) .nil .nil) (.node (o242 P) .nil .nil)))) (.node (p23 P) (.node (o32 P) (.node (p46 P) (.node (o138 P) (.node (o32 P) .nil .nil) .nil) (.node (p6 P) .nil .nil)) (.node (o106 P) (.node (o170 P) .nil .nil) (.node (o234 P) .nil .nil))) (.node (o58 P) (.node (p57 P) (.node (o154 P) (.node (o282 P) .nil .nil) .nil) (.node (o32 P) .nil .nil)) (.node (o32 P) (.node (p80 P) .nil .nil) (.node (o32 P) .nil .nil))))) (.node (p12 P) (.node (p19 P) (.node (o38 P) (.node (o32 P) (.node (o134 P) (.node (o32 P) .nil .nil) .nil) (.node (p82 P) .nil .nil)) (.node (p6 P) (.node (p77 P) .nil .nil) (.node (o32 P) .nil .nil))) (.node (p6 P) (.node (p54 P) (.node (p70 P) (.node (o278 P) .nil .nil) .nil) (.node (o214 P) .nil .nil)) (.node (o32 P) (.node (o32 P) .nil .nil) (.node (o246 P) .nil .nil)))) (.node (p26 P) (.node (o32 P) (.node (p6 P) (.node (o142 P) (.node (p93 P) .nil .nil) .nil) (.node (o206 P) .nil .nil)) (.node (o110 P) (.node (o174 P) .nil .nil) (.node (o238 P) .nil .nil))) (.node (p37 P) (.node (o32 P) (.node (o158 P) (.node (p96 P) .nil .nil) .nil) (.node (o167 P) .nil .nil)) (.node (p64 P) (.node (p6 P) .nil .nil) (.node (o32 P) .nil .nil))))))))
noncomputable def g6 : List Stmt := [st 15]
noncomputable def T7 (P : Params) : BT := (.node (p0 P) (.node (p1 P) (.node (o3 P) (.node (o32 P) (.node (o32 P) (.node (p27 P) (.node (p38 P) (.node (o127 P) (.node (p6 P) .nil .nil) .nil) (.node (o191 P) (.node (o319 P) .nil .nil) .nil)) (.node (p6 P) (.node (o159 P) (.node (o32 P) .nil .nil) .nil) (.node (o32 P) .nil .nil))) (.node (p6 P) (.node (o79 P) (.node (o143 P) (.node (o271 P) .nil .nil) .nil) (.node (o207 P) .nil .nil)) (.node (o32 P) (.node (o32 P) (.node (o303 P) .nil .nil) .nil) (.node (o239 P) .nil .nil)))) (.node (p20 P) (.node (o32 P) (.node (p44 P) (.node (o135 P) (.node (p92 P) .nil .nil) .nil) (.node (o199 P) (.node (o327 P) .nil .nil) .nil)) (.node (o103 P) (.node (o167 P) (.node (o295 P) .nil .nil) .nil) (.node (p6 P) .nil .nil))) (.node (o55 P) (.node (o32 P) (.node (p5 P) (.node (o279 P) .nil .nil) .nil) (.node (o32 P) .nil .nil)) (.node (p63 P) (.node (p6 P) (.node (o32 P) .nil .nil) .nil) (.node (o32 P) .nil .nil))))) (.node (p25 P) (.node (p16 P) (.node (o32 P) (.node (p41 P) (.node (o131 P) (.node (o32 P) .nil .nil) .nil) (.node (o195 P) (.node (o323 P) .nil .nil) .nil)) (.node (o99 P) (.node (o32 P) (.node (o291 P) .nil .nil) .nil) (.node (p86 P) .nil .nil))) (.node (o51 P) (.node (o83 P) (.node (o147 P) (.node (o275 P) .nil .nil) .nil) (.node (o32 P) .nil .nil)) (.node (o32 P) (.node (p79 P) (.node (o32 P) .nil .nil) .nil) (.node (o32 P) .nil .nil)))) (.node (p24 P) (.node (p31 P) (.node (o32 P) (.node (o32 P) (.node (p6 P) .nil .nil) .nil) (.node (o203 P) (.node (o331 P) .nil .nil) .nil)) (.node (o107 P) (.node (o32 P) (.node (o299 P) .nil .nil) .nil) (.node (o32 P) .nil .nil))) (.node (o59 P) (.node (p58 P) (.node (p71 P) (.node (o283 P) .nil .nil) .nil) (.node (p85 P) .nil .nil)) (.node (p6 P) (.node (o187 P) (.node (o315 P) .nil .nil) .nil) (.node (p90 P) .nil .nil)))))) (.node (p4 P) (.node (p7 P) (.node (p14 P) (.node (p6 P) (.node (p39 P) (.node (o32 P) (.node (o257 P) .nil .nil) .nil) (.node (p81 P) (.node (o32 P) .nil .nil) .nil)) (.node (o32 P) (.node (p53 P) (.node (p98 P) .nil .nil) .nil) (.node (o225 P) .nil .nil))) (.node (o32 P) (.node (p50 P) (.node (o145 P) (.node (o32 P) .nil .nil) .nil) (.node (p6 P) .nil .nil)) (.node (o113 P) (.node (o177 P) (.node (p6 P) .nil .nil) .nil) (.node (p6 P) .nil .nil)))) (.node (p22 P) (.node (o41 P) (.node (o73 P) (.node (p6 P) (.node (o265 P) .nil .nil) .nil) (.node (o32 P) (.node (p6 P) .nil .nil) .nil)) (.node (p61 P) (.node (p6 P) (.node (o32 P) .nil .nil) .nil) (.node (o233 P) .nil .nil))) (.node (p33 P) (.node (p56 P) (.node (o153 P) (.node (o281 P) .nil .nil) .nil) (.node (o217 P) .nil .nil)) (.node (o121 P) (.node (o32 P) (.node (p102 P) .nil .nil) .nil) (.node (o249 P) .nil .nil))))) (.node (p11 P) (.node (p18 P) (.node (o37 P) (.node (p43 P) (.node (p65 P) (.node (o261 P) .nil .nil) .nil) (.node (p6 P) (.node (p104 P) .nil .nil) .nil)) (.node (o32 P) (.node (p76 P) (.node (p6 P) .nil .nil) .nil) (.node (o229 P) .nil .nil))) (.node (o32 P) (.node (p53 P) (.node (p68 P) (.node (p94 P) .nil .nil) .nil) (.node (o213 P) .nil .nil)) (.node (o117 P) (.node (o181 P) (.node (o309 P) .nil .nil) .nil) (.node (o245 P) .nil .nil)))) (.node (p97 P) (.node (o45 P) (.node (o32 P) (.node (o141 P) (.node (o32 P) .nil .nil) .nil) (.node (p83 P) .nil .nil)) (.node (p6 P) (.node (o173 P) (.node (p100 P) .nil .nil) .nil) (.node (p88 P) .nil .nil))) (.node (p36 P) (.node (p59 P) (.node (o167 P) (.node (p95 P) .nil .nil) .nil) (.node (o221 P) .nil .nil)) (.node (o32 P) (.node (o32 P) (.node (p6 P) .nil .nil) .nil) (.node (o253 P) .nil .nil))))))) (.node (o2 P) (.node (p3 P) (.node (p6 P) (.node (p13 P) (.node (o32 P) (.node (o32 P) (.node (o128 P) (.node (p91 P) .nil .nil) .nil) (.node (o32 P) (.node (o320 P) .nil .nil) .nil)) (.node (o96 P) (.node (o32 P) (.node (p6 P) .nil .nil) .nil) (.node (p6 P) .nil .nil))) (.node (o48 P) (.node (o32 P) (.node (o144 P) (.node (o272 P) .nil .nil) .nil) (.node (o32 P) .nil .nil)) (.node (p62 P) (.node (p6 P) (.node (o32 P) .nil .nil) .nil) (.node (o32 P) .nil .nil)))) (.node (p21 P) (.node (p6 P) (.node (p45 P) (.node (o32 P) (.node (o264 P) .nil .nil) .nil) (.node (o200 P) (.node (o32 P) .nil .nil) .nil)) (.node (o32 P) (.node (o32 P) (.node (o296 P) .nil .nil) .nil) (.node (p87 P) .nil .nil))) (.node (o56 P) (.node (p55 P) (.node (o167 P) (.node (o280 P) .nil .nil) .nil) (.node (p6 P) .nil .nil)) (.node (o120 P) (.node (o184 P) (.node (p6 P) .nil .nil) .nil) (.node (p6 P) .nil .nil))))) (.node (p10 P) (.node (p17 P) (.node (p30 P) (.node (p42 P) (.node (o32 P) (.node (p6 P) .nil .nil) .nil) (.node (o32 P) (.node (o32 P) .nil .nil) .nil)) (.node (o100 P) (.node (p75 P) (.node (o32 P) .nil .nil) .nil) (.node (o228 P) .nil .nil))) (.node (o52 P) (.node (o32 P) (.node (p67 P) (.node (o32 P) .nil .nil) .nil) (.node (p84 P) .nil .nil)) (.node (p6 P) (.node (o180 P) (.node (p101 P) .nil .nil) .nil) (.node (p89 P) .nil .nil)))) (.node (o32 P) (.node (o44 P) (.node (p47 P) (.node (p66 P) (.node (o268 P) .nil .nil) .nil) (.node (o32 P) (.node (o332 P) .nil .nil) .nil)) (.node (o32 P) (.node (p78 P) (.node (o32 P) .nil .nil) .nil) (.node (p6 P) .nil .nil))) (.node (p35 P) (.node (o32 P) (.node (p5 P) (.node (o284 P) .nil .nil) .nil) (.node (o220 P) .nil .nil)) (.node (o124 P) (.node (o188 P) (.node (o32 P) .nil .nil) .nil) (.node (o252 P) .nil .nil)))))) (.node (p5 P) (.node (p8 P) (.node (p15 P) (.node (o34 P) (.node (p40 P) (.node (p6 P) (.node (o258 P) .nil .nil) .nil) (.node (o194 P) (.node (p6 P) .nil .nil) .nil)) (.node (p60 P) (.node (p74 P) (.node (o290 P) .nil .nil) .nil) (.node (o32 P) .nil .nil))) (.node (p32 P) (.node (o82 P) (.node (o146 P) (.node (p6 P) .nil .nil) .nil) (.node (o210 P) .nil .nil)) (.node (o114 P) (.node (o32 P) (.node (o306 P) .nil .nil) .nil) (.node (o242 P) .nil .nil)))) (.node (p23 P) (.node (o32 P) (.node (p46 P) (.node (o138 P) (.node (o32 P) .nil .nil) .nil) (.node (p6 P) (.node (p105 P) .nil .nil) .nil)) (.node (o106 P) (.node (o170 P) (.node (p6 P) .nil .nil) .nil) (.node (o234 P) .nil .nil))) (.node (o58 P) (.node (p57 P) (.node (o154 P) (.node (o282 P) .nil .nil) .nil) (.node (o32 P) .nil .nil)) (.node (o32 P) (.node (p80 P) (.node (o314 P) .nil .nil) .nil) (.node (o32 P) .nil .nil))))) (.node (p12 P) (.node (p19 P) (.node (o38 P) (.node (o32 P) (.node (o134 P) (.node (o32 P) .nil .nil) .nil) (.node (p82 P) (.node (o326 P) .nil .nil) .nil)) (.node (p6 P) (.node (p77 P) (.node (p99 P) .nil .nil) .nil) (.node (o32 P) .nil .nil))) (.node (p6 P) (.node (p54 P) (.node (p70 P) (.node (o278 P) .nil .nil) .nil) (.node (o214 P) .nil .nil)) (.node (o32 P) (.node (o32 P) (.node (o310 P) .nil .nil) .nil) (.node (o246 P) .nil .nil)))) (.node (p26 P) (.node (o32 P) (.node (p6 P) (.node (o142 P) (.node (p93 P) .nil .nil) .nil) (.node (o206 P) .nil .nil)) (.node (o110 P) (.node (o174 P) (.node (o302 P) .nil .nil) .nil) (.node (o238 P) .nil .nil))) (.node (p37 P) (.node (o32 P) (.node (o158 P) (.node (p96 P) .nil .nil) .nil) (.node (o167 P) .nil .nil)) (.node (p64 P) (.node (p6 P) (.node (p103 P) .nil .nil) .nil) (.node (o32 P) .nil .nil))))))))
noncomputable def g7 : List Stmt := [st 16, st 17, st 18, st 19, st 20, st 21, st 22, st 23, st 24]
noncomputable def H1 (P : Params) : Heap := ⟨#[p0 P, p1 P, o2 P, o3 P, p3 P, p4 P, p5 P, o32 P, p6 P, p7 P, p8 P, p25 P, p10 P, p11 P, p12 P, o32 P, p13 P, p14 P, p15 P, p16 P, p17 P, p18 P, p19 P, p20 P, p21 P, p22 P, p23 P, p24 P, o32 P, p97 P, p26 P, p27 P, o32 P, p6 P, o34 P, o32 P, p30 P, o37 P, o38 P, o32 P, p6 P, o41 P, o32 P, p31 P, o44 P, o45 P, o32 P, p6 P, o48 P, o32 P, p32 P, o51 P, o52 P, o32 P, p6 P, o55 P, o56 P, p33 P, o58 P, o59 P, p35 P, p36 P, p37 P, p38 P, o32 P, p39 P, p40 P, p41 P, p42 P, p43 P, o32 P, p44 P, p45 P, o73 P, p46 P, o32 P, p47 P, o32 P, p6 P, o79 P, o32 P, p50 P, o82 P, o83 P, o32 P, p53 P, p54 P, o32 P, p55 P, p56 P, p57 P, p58 P, o32 P, p59 P, o32 P, p6 P, o96 P, o32 P, p60 P, o99 P, o100 P, o32 P, p6 P, o103 P, o32 P, p61 P, o106 P, o107 P, o32 P, p6 P, o110 P, o32 P, p62 P, o113 P, o114 P, o32 P, p6 P, o117 P, o32 P, p63 P, o120 P, o121 P, o32 P, p6 P, o124 P, o32 P, p64 P, o127 P, o128 P, o32 P, p6 P, o131 P, o32 P, p65 P, o134 P, o135 P, o32 P, p6 P, o138 P, o32 P, p66 P, o141 P, o142 P, o143 P, o144 P, o145 P, o146 P, o147 P, p67 P, p68 P, p70 P, p5 P, o167 P, o153 P, o154 P, p71 P, p5 P, o167 P, o158 P, o159 P, o32 P, p53 P, p74 P, o32 P, p75 P, p76 P, p77 P, o167 P, o32 P, p6 P, o170 P, o32 P, p78 P, o173 P, o174 P, o32 P, p6 P, o177 P, o32 P, p79 P, o180 P, o181 P, o32 P, p6 P, o184 P, o32 P, p80 P, o187 P, o188 P, o32 P, p6 P, o191 P, o32 P, p81 P, o194 P, o195 P, o32 P, p6 P, p82 P, o199 P, o200 P, o32 P, p6 P, o203 P, o32 P, p83 P, o206 P, o207 P, o32 P, p6 P, o210 P, o32 P, p84 P, o213 P, o214 P, o32 P, p6 P, o217 P, o32 P, p85 P, o220 P, o221 P, o167 P, o32 P, p6 P, o225 P, o32 P, p86 P, o228 P, o229 P, o32 P, p6 P, p87 P, o233 P, o234 P, o32 P, p6 P, p88 P, o238 P, o239 P, o32 P, p6 P, o242 P, o32 P, p89 P, o245 P, o246 P, o32 P, p6 P, o249 P, o32 P, p90 P, o252 P, o253 P, o32 P, p6 P, p91 P, o257 P, o258 P, o32 P, p6 P, o261 P, o32 P, p92 P, o264 P, o265 P, o32 P, p6 P, o268 P, o32 P, p93 P, o271 P, o272 P, o32 P, p6 P, o275 P, o32 P, p94 P, o278 P, o279 P, o280 P, o281 P, o282 P, o283 P, o284 P, p95 P, p96 P, o32 P, p6 P, p98 P, o290 P, o291 P, o32 P, p6 P, p99 P, o295 P, o296 P, o32 P, p6 P, o299 P, o32 P, p100 P, o302 P, o303 P, o32 P, p6 P, o306 P, o32 P, p101 P, o309 P, o310 P, o32 P, p6 P, p102 P, o314 P, o315 P, o32 P, p6 P, p103 P, o319 P, o320 P, o32 P, p6 P, o323 P, o32 P, p104 P, o326 P, o327 P, o32 P, p6 P, p105 P, o331 P, o332 P], {}⟩

end Mine
end
section
open PySem PySem.W PyProof.Rows PySem.W.Fast
set_option maxHeartbeats 0
namespace Mine
theorem hrun1 (w : World) : (fun os => segRunT treeTable P0 w 28 (some (.ref 6)) 1 165 ⟨T0 w.params, 32, {}, #[], {}, 282, os⟩ (piecesOf g1 env0 cE ⟨0, 0, 0, 0⟩ B0)) = fun os => some (.next, ⟨T1 w.params, 60, {}, #[], {}, 337, os⟩, cE, ⟨42, 0, 42, 8⟩) := by
  rw [te10110043849684766642, te14364793385576792824]
  kernel_rfl
theorem hrun2 (w : World) : (fun os => segRunT treeTable P0 w 28 (some (.ref 6)) 1 775 ⟨T1 w.params, 60, {}, #[], {}, 337, os⟩ (piecesOf g2 env0 cE ⟨42, 0, 42, 8⟩ B0)) = fun os => some (.next, ⟨T2 w.params, 77, {}, #[], {}, 378, os⟩, cE, ⟨43, 0, 43, 6⟩) := by
  revert w
  refine byRow2 "set-order" (fun w => ?_) (fun w => ?_)
  · revert w
    refine byRow2 "special-get-raises" (fun w => ?_) (fun w => ?_)
    · rw [te10110043849684766642, te14364793385576792824]
      kernel_rfl
    · rw [te10110043849684766642, te14364793385576792824]
      kernel_rfl
  · revert w
    refine byRow2 "special-get-raises" (fun w => ?_) (fun w => ?_)
    · rw [te10110043849684766642, te14364793385576792824]
      kernel_rfl
    · rw [te10110043849684766642, te14364793385576792824]
      kernel_rfl
theorem hrun3 (w : World) : (fun os => segRunT treeTable P0 w 28 (some (.ref 6)) 1 39 ⟨T2 w.params, 77, {}, #[], {}, 378, os⟩ (piecesOf g3 env0 cE ⟨43, 0, 43, 6⟩ B0)) = fun os => some (.next, ⟨T3 w.params, 84, {}, #[], {}, 387, os⟩, cE, ⟨46, 0, 46, 8⟩) := by
  rw [te10110043849684766642, te14364793385576792824]
  kernel_rfl
theorem hrun4 (w : World) : (fun os => segRunT treeTable P0 w 28 (some (.ref 6)) 1 485 ⟨T3 w.params, 84, {}, #[], {}, 387, os⟩ (piecesOf g4 env0 cE ⟨46, 0, 46, 8⟩ B0)) = fun os => some (.next, ⟨T4 w.params, 150, {}, #[], {}, 479, os⟩, cE, ⟨47, 0, 89, 16⟩) := by
  revert w
  refine byRow2 "special-get-raises" (fun w => ?_) (fun w => ?_)
  · rw [te10110043849684766642, te14364793385576792824]
    kernel_rfl
  · rw [te10110043849684766642, te14364793385576792824]
    kernel_rfl
theorem hrun5 (w : World) : (fun os => segRunT treeTable P0 w 28 (some (.ref 6)) 1 156 ⟨T4 w.params, 150, {}, #[], {}, 479, os⟩ (piecesOf g5 env0 cE ⟨47, 0, 89, 16⟩ B0)) = fun os => some (.next, ⟨T5 w.params, 160, {}, #[], {}, 541, os⟩, cE, ⟨92, 0, 92, 20⟩) := by
  rw [te10110043849684766642, te14364793385576792824]
  kernel_rfl
theorem hrun6 (w : World) : (fun os => segRunT treeTable P0 w 28 (some (.ref 6)) 1 729 ⟨T5 w.params, 160, {}, #[], {}, 541, os⟩ (piecesOf g6 env0 cE ⟨92, 0, 92, 20⟩ B0)) = fun os => some (.next, ⟨T6 w.params, 287, {}, #[], {}, 698, os⟩, cE, ⟨93, 0, 167, 16⟩) := by
  rw [te10110043849684766642, te14364793385576792824]
  kernel_rfl
theorem hrun7 (w : World) : (fun os => segRunT treeTable P0 w 28 (some (.ref 6)) 1 248 ⟨T6 w.params, 287, {}, #[], {}, 698, os⟩ (piecesOf g7 env0 cE ⟨93, 0, 167, 16⟩ B0)) = fun os => some (.next, ⟨T7 w.params, 333, {}, #[], {}, 772, os⟩, cE, ⟨236, 0, 246, 48⟩) := by
  rw [te10110043849684766642, te14364793385576792824]
  kernel_rfl

end Mine
end
section
open PySem PySem.W PyProof.Rows PySem.W.Fast
set_option maxHeartbeats 0
namespace Mine
noncomputable def parts (s : Shared) : List Obj × Life × List GenState × Drawn × Nat × OsState := (s.heap.objs.toList, s.heap.life, s.gens.toList, s.drawn, s.toks, s.os)
theorem openE' (w : World) : (importEnds treeTable (opening P0) w 799 (start (opening P0)).1 (start (opening P0)).2).map parts = some ((He w.params).objs.toList, {}, [], {}, 276, (start (opening P0)).1.os) := by
  rw [te10274390034422433532, te14364793385576792824]
  kernel_rfl
theorem openE (w : World) : importEnds treeTable (opening P0) w 799 (start (opening P0)).1 (start (opening P0)).2 = some ⟨He w.params, #[], {}, 276, (start (opening P0)).1.os⟩ := by
  have h := openE' w
  cases e : importEnds treeTable (opening P0) w 799 (start (opening P0)).1 (start (opening P0)).2 with
  | none => rw [e] at h; cases h
  | some s =>
    rw [e] at h
    obtain ⟨⟨objs, life⟩, gens, drawn, toks, os⟩ := s
    simp only [parts, Option.map_some, Option.some.injEq, Prod.mk.injEq] at h
    obtain ⟨h1, h2, h3, h4, h5, h6⟩ := h
    have g1 : objs = (He w.params).objs := Array.toList_inj.mp h1
    have g3 : gens = #[] := Array.toList_inj.mp h3
    subst h2 g3 h4 h5 h6 g1
    rfl
end Mine
end
section
open PySem PySem.W PyProof.Rows PySem.W.Fast
set_option maxHeartbeats 0
namespace Mine
noncomputable abbrev H2 : Hook := kmHook K as as_eq [54]

noncomputable abbrev Sx (T : Params → BT) (n k : Nat) (w : World) (os : OsState) : SharedT := ⟨T w.params, n, {}, #[], {}, k, os⟩
theorem body_eq : behindTheImports P0 = g1 ++ (g2 ++ (g3 ++ (g4 ++ (g5 ++ (g6 ++ (g7 ++ [])))))) := by kernel_rfl
theorem runPre (w : World) : (fun os => topGo treeTable P0 w 28 (some (.ref 6)) 12 ⟨H0 w.params, #[], {}, 276, os⟩ (topStub P0)) = fun os => some (⟨Ha w.params, #[], {}, 282, os⟩, ⟨denote treeTable cE, cE, ⟨0, 0, 0, 0⟩, B0⟩) := by
  kernel_rfl
theorem runBlock (w : World) : (fun os => segRun treeTable P0 w 28 (some (.ref 6)) 1 1 ⟨Ha w.params, #[], {}, 282, os⟩ (blockOf (behindTheImports P0) env0 cE ⟨0, 0, 0, 0⟩ B0)) = fun os => some (.next, (Sx T0 32 282 w os).abs, cE, ⟨0, 0, 0, 0⟩) := by
  kernel_rfl
theorem runFin (w : World) : (fun os => topRun treeTable P0 w 28 (some (.ref 6)) 2 (Sx T7 333 772 w os).abs ⟨doneF .next, cE, ⟨236, 0, 246, 48⟩, B0⟩) = fun os => some ⟨H1 w.params, #[], {}, 772, os⟩ := by
  kernel_rfl
theorem runAll (w : World) (os : OsState) : topRun treeTable P0 w 28 (some (.ref 6)) (12 + (1 + (165 + (775 + (39 + (485 + (156 + (729 + (248 + 2))))))))) ⟨H0 w.params, #[], {}, 276, os⟩ (topStub P0) = some ⟨H1 w.params, #[], {}, 772, os⟩ := by
  refine go_top (congrFun (runPre w) os) (piece_block (congrFun (runBlock w) os) ?_)
  rw [body_eq]
  exact piece_app (segRun_of (congrFun (hrun1 w) os)) (piece_app (segRun_of (congrFun (hrun2 w) os)) (piece_app (segRun_of (congrFun (hrun3 w) os)) (piece_app (segRun_of (congrFun (hrun4 w) os)) (piece_app (segRun_of (congrFun (hrun5 w) os)) (piece_app (segRun_of (congrFun (hrun6 w) os)) (piece_app (segRun_of (congrFun (hrun7 w) os)) (piece_nil (congrFun (runFin w) os))))))))
theorem fenceE (w : World) : (fun os => (fenceModules? P0 ⟨He w.params, #[], {}, 276, os⟩).map (fun s => (s.heap, s.gens, s.drawn, s.toks))) = fun _ => some (H0 w.params, #[], {}, 276) := by
  kernel_rfl
theorem openAll : ∀ w : World, (fencedOpening treeTable P0 w 6000).map (fun s => (s.heap, s.gens, s.drawn, s.toks)) = some (H0 w.params, #[], {}, 276) :=
  open_cut openE (by decide) fenceE
theorem sizeE (w : World) : ((H0 w.params).isNs mainGlobals && (#[] : Array GenState).size == 0, (H0 w.params).objs.size, (H0 w.params).nsMap mainGlobals "__annotations__") = (true, 28, some (.ref 6)) := by
  kernel_rfl

noncomputable abbrev S1 (w : World) (os : OsState) : Shared := ⟨H1 w.params, #[], {}, 772, os⟩
theorem look1 (w : World) : (fun os => (staticsOk (importedModules P0.main.body) (H0 w.params) (H1 w.params) && namesBound P0 (H1 w.params) && gensDone (S1 w os) && laidKept (H0 w.params) (H1 w.params))) = fun _ => true := by
  kernel_rfl
theorem look2 (w : World) : (fun os => openSeen qv loose (importedModules P0.main.body) (fun s => xlAt qv [] s && recOk [] s) true (S1 w os)) = fun _ => openGood qv loose := by
  rw [te4187177175401517315]
  kernel_rfl
theorem look3 (w : World) : (fun os => Hook.obs H2 (S1 w os)) = fun _ => Hook.val H2 w := by
  kernel_rfl
theorem left : LeftO P0 qv loose (fun s => xlAt qv [] s && recOk [] s) (Hook.obs H2) (Hook.val H2) 6000 :=
  LeftO.of_pieces openAll sizeE runAll (by rfl) (fun w => funext fun os => looks_pair (congrFun (look1 w) os) (looks_pair (congrFun (look2 w) os) (congrFun (look3 w) os)))

end Mine
end
open PySem PySem.W PyProof.Rows PySem.Calls
namespace Mine
theorem margin : callerA.depth + 1 ≤ 400 := by decide +kernel
/-- the law's body is walked from the claim's caller -/
theorem from_caller {α : Type} {M : Model} {cn : Str} {cs : Scope} {L a : Addr} {ccd : Value} {t : Sem α} {Q : α → Shared → Prop} {E : Value → Shared → Prop} {s : Shared}
    (h : wpAny M (ktrTop 400 10 (some []) cn cs L a ccd [] []) t Q (fun _ _ => False) s) : wpAny M (callerA.deeper (envOf cn cs L a ccd)) t Q E s := by
  refine wpAny_mono (E := fun _ _ => False) ?_ (fun _ _ q => q) fun _ _ q => q.elim
  intro Γ p hΓ
  exact h Γ p ⟨hΓ.1, Nat.le_trans hΓ.2.1 margin, hΓ.2.2.1, hΓ.2.2.2.1, Nat.le_trans hΓ.2.2.2.2 (show 4 + 3 ≤ 10 by decide)⟩
end Mine
set_option maxHeartbeats 8000000 in
theorem PySem.Challenge.cw_tp0056_01_holds : PySem.Challenge.rw_tp0056_01.Holds := by
  w_on
  o_law
  refine holds_open (q := Mine.qv) (loose := Mine.loose) (Xt := fun s => xlAt Mine.qv [] s && recOk [] s) (XP := XL Mine.qv []) (Yf := Hook.obs Mine.H2) (Ya := Hook.val Mine.H2) (YP := Hook.says Mine.H2) (N := 6000) Mine.left (Hook.of Mine.H2) (Hook.keeps Mine.H2) (fun s e => xl_of s (Bool.and_eq_true_iff.mp e).1) XL.keeps (by rfl) (by rfl) (by rfl) (fun s e => recFacts_of (Bool.and_eq_true_iff.mp e).2) (by rfl) (by first | assumption | decide +kernel) (by decide +kernel) ⟨rfl, rfl, rfl, rfl, rfl, by decide +kernel⟩ ?hw ?hc
  case hw => w_witness2
  case hc =>
    k_fill
    intro w s₀ s₁ mg mb G Y fa o pm cd doc dV kV ho hd hcd hD hmg hg args vals as hpre hlay hrd hwl hlo
    have X0 := km_in_of Y
    have hT9 : TabsAt [(58, 54)] s₁.heap := List.forall_mem_cons.mpr ⟨⟨codeHd_of_K (c := 58) (P := 54) X0 (by kernel_rfl), km_tabs_of Y 54 (.head _)⟩, fun _ h => nomatch h⟩
    have V := (Ground.X G).2
    refine Ground.open G ?_
    intro T B D TE TW
    try (refine guard_noD D (by decide +kernel) ?_; clear D)
    clear hmg
    wrow_args hpre hlay hrd hwl hlo
    refine enter_call ?_
    w_top on
    kn_posts
    w_call any ho hd hcd hD T F
    clear hd
    kn_ghosts F T
    k_drop
    rename Fr _ _ _ _ => F1
    rename News _ _ _ _ => N1
    rename CodeHd _ _ _ => C1
    rename Below _ _ _ _ => B1
    rename Top _ _ _ _ _ _ => T1
    rename Frag.In _ (ghostOf _ _) => X1
    rename IntsAre _ _ => hI
    rename Heap.IsList (ghostOf _ _) _ _ => hL
    refine Mine.from_caller ?_
    refine wpAny_mono (Mine.law_walk w B1 X1 T1 C1 F1 N1 rfl hL hI (by omega) ?_) (fun _ _ q => q) (fun _ _ q => q)
    intro h' tk m' ps new F2 N2
    dsimp only
    refine ⟨?_, ⟨ps, (N2 _ (List.mem_append_right _ (.head _))).1⟩, trivial⟩
    k_steps
    trace_state
