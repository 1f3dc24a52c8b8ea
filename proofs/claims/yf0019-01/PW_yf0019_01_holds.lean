import PyProof.Rows.All
import Wide.All
import OpenK.AllK
import Wide.FinOn
import PySem.Challenge.RW_yf0019_01
open PySem PySem.W PyProof.Rows
set_option Elab.async false
set_option maxRecDepth 100000
set_option maxHeartbeats 8000000
set_option linter.all false
namespace Mine
noncomputable def hd.view_39 : Program := PySem.W.view PySem.Challenge.pw_yf0019_01 ([1, 2, 3, 4, 6, 7, 8, 9, 10] ++ (List.range 54).map (· + 12) ++ [67, 68, 69, 70, 71, 72, 73, 74, 75, 76, 77])
noncomputable def hd.heap_39 : Params → Frag := by
  refine (?f : PySem.Challenge.pw_yf0019_01.main.body = (?s_0 :: Stmt.FunctionDef ?n_1 ?qp_1 ?qb_1 ?d_1 ?r_1 ?t_1 ?qs_1 ?c_1 ?y_1 ?z_1 :: Stmt.FunctionDef ?n_2 ?qp_2 ?qb_2 ?d_2 ?r_2 ?t_2 ?qs_2 ?c_2 ?y_2 ?z_2 :: Stmt.FunctionDef ?n_3 ?qp_3 ?qb_3 ?d_3 ?r_3 ?t_3 ?qs_3 ?c_3 ?y_3 ?z_3 :: Stmt.FunctionDef ?n_4 ?qp_4 ?qb_4 ?d_4 ?r_4 ?t_4 ?qs_4 ?c_4 ?y_4 ?z_4 :: ?s_5 :: ?s_6 :: ?s_7 :: ?s_8 :: Stmt.FunctionDef ?n_9 ?qp_9 ?qb_9 ?d_9 ?r_9 ?t_9 ?qs_9 ?c_9 ?y_9 ?z_9 :: Stmt.FunctionDef ?n_10 ?qp_10 ?qb_10 ?d_10 ?r_10 ?t_10 ?qs_10 ?c_10 ?y_10 ?z_10 :: ?s_11 :: ?s_12 :: ?s_13 :: ?s_14 :: ?s_15 :: ?s_16 :: ?s_17 :: ?s_18 :: ?s_19 :: ?s_20 :: ?s_21 :: ?s_22 :: ?s_23 :: ?s_24 :: ?s_25 :: ?s_26 :: ?s_27 :: ?s_28 :: ?s_29 :: ?s_30 :: ?s_31 :: ?s_32 :: ?s_33 :: ?s_34 :: ?s_35 :: ?s_36 :: ?s_37 :: ?s_38 :: ?s_39 :: ?s_40 :: ?s_41 :: ?s_42 :: ?s_43 :: ?s_44 :: ?s_45 :: ?s_46 :: ?s_47 :: ?s_48 :: ?s_49 :: ?s_50 :: ?s_51 :: ?s_52 :: ?s_53 :: ?s_54 :: ?s_55 :: ?s_56 :: ?s_57 :: ?s_58 :: ?s_59 :: ?s_60 :: ?s_61 :: ?s_62 :: Stmt.FunctionDef ?n_63 ?qp_63 ?qb_63 ?d_63 ?r_63 ?t_63 ?qs_63 ?c_63 ?y_63 ?z_63 :: Stmt.FunctionDef ?n_64 ?qp_64 ?qb_64 ?d_64 ?r_64 ?t_64 ?qs_64 ?c_64 ?y_64 ?z_64 :: Stmt.FunctionDef ?n_65 ?qp_65 ?qb_65 ?d_65 ?r_65 ?t_65 ?qs_65 ?c_65 ?y_65 ?z_65 :: ?s_66 :: Stmt.FunctionDef ?n_67 ?qp_67 ?qb_67 ?d_67 ?r_67 ?t_67 ?qs_67 ?c_67 ?y_67 ?z_67 :: Stmt.FunctionDef ?n_68 ?qp_68 ?qb_68 ?d_68 ?r_68 ?t_68 ?qs_68 ?c_68 ?y_68 ?z_68 :: Stmt.FunctionDef ?n_69 ?qp_69 ?qb_69 ?d_69 ?r_69 ?t_69 ?qs_69 ?c_69 ?y_69 ?z_69 :: Stmt.FunctionDef ?n_70 ?qp_70 ?qb_70 ?d_70 ?r_70 ?t_70 ?qs_70 ?c_70 ?y_70 ?z_70 :: Stmt.FunctionDef ?n_71 ?qp_71 ?qb_71 ?d_71 ?r_71 ?t_71 ?qs_71 ?c_71 ?y_71 ?z_71 :: Stmt.FunctionDef ?n_72 ?qp_72 ?qb_72 ?d_72 ?r_72 ?t_72 ?qs_72 ?c_72 ?y_72 ?z_72 :: Stmt.FunctionDef ?n_73 ?qp_73 ?qb_73 ?d_73 ?r_73 ?t_73 ?qs_73 ?c_73 ?y_73 ?z_73 :: Stmt.FunctionDef ?n_74 ?qp_74 ?qb_74 ?d_74 ?r_74 ?t_74 ?qs_74 ?c_74 ?y_74 ?z_74 :: Stmt.FunctionDef ?n_75 ?qp_75 ?qb_75 ?d_75 ?r_75 ?t_75 ?qs_75 ?c_75 ?y_75 ?z_75 :: Stmt.FunctionDef ?n_76 ?qp_76 ?qb_76 ?d_76 ?r_76 ?t_76 ?qs_76 ?c_76 ?y_76 ?z_76 :: Stmt.FunctionDef ?n_77 ?qp_77 ?qb_77 ?d_77 ?r_77 ?t_77 ?qs_77 ?c_77 ?y_77 ?z_77 :: []) → Params → Frag) ?h
  case h => dsimp only [PySem.Challenge.pw_yf0019_01]; exact rfl
  case f =>
    exact fun _ => fun P =>
      ((nat_lit 2, { cls := Value.none, data := Data.dict #[{ hash := PyData.keyHash P (Str.ofString "type.__subclasses__.Exception.0"), key := Value.str (Str.ofString "type.__subclasses__.Exception.0") 239, val := Value.int 52 0 }, { hash := PyData.keyHash P (Str.ofString "type.__subclasses__.Exception.n"), key := Value.str (Str.ofString "type.__subclasses__.Exception.n") 240, val := Value.int 1 0 }] 2 }) ::
      (nat_lit 3, { cls := Value.type "dict", data := Data.dict (List.toArray ({ hash := PyData.keyHash P (Str.ofString "__name__"), key := Value.str (Str.ofString "__name__") 165, val := Value.str (Str.ofString "law_yf0019_01") 519 } :: { hash := PyData.keyHash P (Str.ofString "__doc__"), key := Value.str (Str.ofString "__doc__") 166, val := Value.none } :: { hash := PyData.keyHash P (Str.ofString "__package__"), key := Value.str (Str.ofString "__package__") 167, val := Value.none } :: { hash := PyData.keyHash P (Str.ofString "__loader__"), key := Value.str (Str.ofString "__loader__") 168, val := Value.builtin "__main__.__loader__#opaque" } :: { hash := PyData.keyHash P (Str.ofString "__spec__"), key := Value.str (Str.ofString "__spec__") 169, val := Value.none } :: { hash := PyData.keyHash P (Str.ofString "__annotations__"), key := Value.str (Str.ofString "__annotations__") 170, val := Value.ref 6 } :: { hash := PyData.keyHash P (Str.ofString "__builtins__"), key := Value.str (Str.ofString "__builtins__") 171, val := Value.ref 4 } :: { hash := PyData.keyHash P (Str.ofString "__file__"), key := Value.str (Str.ofString "__file__") 173, val := Value.str (Str.ofString "/claim/cut.py") 172 } :: { hash := PyData.keyHash P (Str.ofString "__cached__"), key := Value.str (Str.ofString "__cached__") 174, val := Value.none } :: { hash := PyData.keyHash P (Str.ofString "lshift"), key := Value.str (Str.ofString "lshift") 196, val := Value.ref 21 } :: { hash := PyData.keyHash P (Str.ofString "xor"), key := Value.str (Str.ofString "xor") 204, val := Value.ref 28 } :: { hash := PyData.keyHash P (Str.ofString "contains"), key := Value.str (Str.ofString "contains") 212, val := Value.ref 35 } :: { hash := PyData.keyHash P (Str.ofString "ixor"), key := Value.str (Str.ofString "ixor") 220, val := Value.ref 42 } :: { hash := PyData.keyHash P (Str.ofString "Error"), key := Value.str (Str.ofString "Error") 242, val := Value.ref 52 } :: { hash := PyData.keyHash P (Str.ofString "error_reply"), key := Value.str (Str.ofString "error_reply") 258, val := Value.ref 65 } :: { hash := PyData.keyHash P (Str.ofString "error_proto"), key := Value.str (Str.ofString "error_proto") 274, val := Value.ref 77 } :: { hash := PyData.keyHash P (Str.ofString "parse229"), key := Value.str (Str.ofString "parse229") 287, val := Value.ref 86 } :: { hash := PyData.keyHash P (Str.ofString "parse257"), key := Value.str (Str.ofString "parse257") 298, val := Value.ref 93 } :: { hash := PyData.keyHash P (Str.ofString "ENDMARKER"), key := Value.str (Str.ofString "ENDMARKER") 302, val := Value.int 0 301 } :: { hash := PyData.keyHash P (Str.ofString "LPAR"), key := Value.str (Str.ofString "LPAR") 304, val := Value.int 7 303 } :: { hash := PyData.keyHash P (Str.ofString "RPAR"), key := Value.str (Str.ofString "RPAR") 306, val := Value.int 8 305 } :: { hash := PyData.keyHash P (Str.ofString "LSQB"), key := Value.str (Str.ofString "LSQB") 308, val := Value.int 9 307 } :: { hash := PyData.keyHash P (Str.ofString "RSQB"), key := Value.str (Str.ofString "RSQB") 310, val := Value.int 10 309 } :: { hash := PyData.keyHash P (Str.ofString "COLON"), key := Value.str (Str.ofString "COLON") 312, val := Value.int 11 311 } :: { hash := PyData.keyHash P (Str.ofString "COMMA"), key := Value.str (Str.ofString "COMMA") 314, val := Value.int 12 313 } :: { hash := PyData.keyHash P (Str.ofString "SEMI"), key := Value.str (Str.ofString "SEMI") 316, val := Value.int 13 315 } :: { hash := PyData.keyHash P (Str.ofString "PLUS"), key := Value.str (Str.ofString "PLUS") 318, val := Value.int 14 317 } :: { hash := PyData.keyHash P (Str.ofString "MINUS"), key := Value.str (Str.ofString "MINUS") 320, val := Value.int 15 319 } :: { hash := PyData.keyHash P (Str.ofString "STAR"), key := Value.str (Str.ofString "STAR") 322, val := Value.int 16 321 } :: { hash := PyData.keyHash P (Str.ofString "SLASH"), key := Value.str (Str.ofString "SLASH") 324, val := Value.int 17 323 } :: { hash := PyData.keyHash P (Str.ofString "VBAR"), key := Value.str (Str.ofString "VBAR") 326, val := Value.int 18 325 } :: { hash := PyData.keyHash P (Str.ofString "AMPER"), key := Value.str (Str.ofString "AMPER") 328, val := Value.int 19 327 } :: { hash := PyData.keyHash P (Str.ofString "LESS"), key := Value.str (Str.ofString "LESS") 330, val := Value.int 20 329 } :: { hash := PyData.keyHash P (Str.ofString "GREATER"), key := Value.str (Str.ofString "GREATER") 332, val := Value.int 21 331 } :: { hash := PyData.keyHash P (Str.ofString "EQUAL"), key := Value.str (Str.ofString "EQUAL") 334, val := Value.int 22 333 } :: { hash := PyData.keyHash P (Str.ofString "DOT"), key := Value.str (Str.ofString "DOT") 336, val := Value.int 23 335 } :: { hash := PyData.keyHash P (Str.ofString "PERCENT"), key := Value.str (Str.ofString "PERCENT") 338, val := Value.int 24 337 } :: { hash := PyData.keyHash P (Str.ofString "LBRACE"), key := Value.str (Str.ofString "LBRACE") 340, val := Value.int 25 339 } :: { hash := PyData.keyHash P (Str.ofString "RBRACE"), key := Value.str (Str.ofString "RBRACE") 342, val := Value.int 26 341 } :: { hash := PyData.keyHash P (Str.ofString "EQEQUAL"), key := Value.str (Str.ofString "EQEQUAL") 344, val := Value.int 27 343 } :: { hash := PyData.keyHash P (Str.ofString "NOTEQUAL"), key := Value.str (Str.ofString "NOTEQUAL") 346, val := Value.int 28 345 } :: { hash := PyData.keyHash P (Str.ofString "LESSEQUAL"), key := Value.str (Str.ofString "LESSEQUAL") 348, val := Value.int 29 347 } :: { hash := PyData.keyHash P (Str.ofString "GREATEREQUAL"), key := Value.str (Str.ofString "GREATEREQUAL") 350, val := Value.int 30 349 } :: { hash := PyData.keyHash P (Str.ofString "TILDE"), key := Value.str (Str.ofString "TILDE") 352, val := Value.int 31 351 } :: { hash := PyData.keyHash P (Str.ofString "CIRCUMFLEX"), key := Value.str (Str.ofString "CIRCUMFLEX") 354, val := Value.int 32 353 } :: { hash := PyData.keyHash P (Str.ofString "LEFTSHIFT"), key := Value.str (Str.ofString "LEFTSHIFT") 356, val := Value.int 33 355 } :: { hash := PyData.keyHash P (Str.ofString "RIGHTSHIFT"), key := Value.str (Str.ofString "RIGHTSHIFT") 358, val := Value.int 34 357 } :: { hash := PyData.keyHash P (Str.ofString "DOUBLESTAR"), key := Value.str (Str.ofString "DOUBLESTAR") 360, val := Value.int 35 359 } :: { hash := PyData.keyHash P (Str.ofString "PLUSEQUAL"), key := Value.str (Str.ofString "PLUSEQUAL") 362, val := Value.int 36 361 } :: { hash := PyData.keyHash P (Str.ofString "MINEQUAL"), key := Value.str (Str.ofString "MINEQUAL") 364, val := Value.int 37 363 } :: { hash := PyData.keyHash P (Str.ofString "STAREQUAL"), key := Value.str (Str.ofString "STAREQUAL") 366, val := Value.int 38 365 } :: { hash := PyData.keyHash P (Str.ofString "SLASHEQUAL"), key := Value.str (Str.ofString "SLASHEQUAL") 368, val := Value.int 39 367 } :: { hash := PyData.keyHash P (Str.ofString "PERCENTEQUAL"), key := Value.str (Str.ofString "PERCENTEQUAL") 370, val := Value.int 40 369 } :: { hash := PyData.keyHash P (Str.ofString "AMPEREQUAL"), key := Value.str (Str.ofString "AMPEREQUAL") 372, val := Value.int 41 371 } :: { hash := PyData.keyHash P (Str.ofString "VBAREQUAL"), key := Value.str (Str.ofString "VBAREQUAL") 374, val := Value.int 42 373 } :: { hash := PyData.keyHash P (Str.ofString "CIRCUMFLEXEQUAL"), key := Value.str (Str.ofString "CIRCUMFLEXEQUAL") 376, val := Value.int 43 375 } :: { hash := PyData.keyHash P (Str.ofString "LEFTSHIFTEQUAL"), key := Value.str (Str.ofString "LEFTSHIFTEQUAL") 378, val := Value.int 44 377 } :: { hash := PyData.keyHash P (Str.ofString "RIGHTSHIFTEQUAL"), key := Value.str (Str.ofString "RIGHTSHIFTEQUAL") 380, val := Value.int 45 379 } :: { hash := PyData.keyHash P (Str.ofString "DOUBLESTAREQUAL"), key := Value.str (Str.ofString "DOUBLESTAREQUAL") 382, val := Value.int 46 381 } :: { hash := PyData.keyHash P (Str.ofString "DOUBLESLASH"), key := Value.str (Str.ofString "DOUBLESLASH") 384, val := Value.int 47 383 } :: { hash := PyData.keyHash P (Str.ofString "DOUBLESLASHEQUAL"), key := Value.str (Str.ofString "DOUBLESLASHEQUAL") 386, val := Value.int 48 385 } :: { hash := PyData.keyHash P (Str.ofString "AT"), key := Value.str (Str.ofString "AT") 388, val := Value.int 49 387 } :: { hash := PyData.keyHash P (Str.ofString "ATEQUAL"), key := Value.str (Str.ofString "ATEQUAL") 390, val := Value.int 50 389 } :: { hash := PyData.keyHash P (Str.ofString "RARROW"), key := Value.str (Str.ofString "RARROW") 392, val := Value.int 51 391 } :: { hash := PyData.keyHash P (Str.ofString "ELLIPSIS"), key := Value.str (Str.ofString "ELLIPSIS") 394, val := Value.int 52 393 } :: { hash := PyData.keyHash P (Str.ofString "COLONEQUAL"), key := Value.str (Str.ofString "COLONEQUAL") 396, val := Value.int 53 395 } :: { hash := PyData.keyHash P (Str.ofString "EXCLAMATION"), key := Value.str (Str.ofString "EXCLAMATION") 398, val := Value.int 54 397 } :: { hash := PyData.keyHash P (Str.ofString "NT_OFFSET"), key := Value.str (Str.ofString "NT_OFFSET") 400, val := Value.int 256 399 } :: { hash := PyData.keyHash P (Str.ofString "EXACT_TOKEN_TYPES"), key := Value.str (Str.ofString "EXACT_TOKEN_TYPES") 497, val := Value.ref 94 } :: { hash := PyData.keyHash P (Str.ofString "ISTERMINAL"), key := Value.str (Str.ofString "ISTERMINAL") 504, val := Value.ref 103 } :: { hash := PyData.keyHash P (Str.ofString "ISNONTERMINAL"), key := Value.str (Str.ofString "ISNONTERMINAL") 511, val := Value.ref 110 } :: { hash := PyData.keyHash P (Str.ofString "ISEOF"), key := Value.str (Str.ofString "ISEOF") 518, val := Value.ref 117 } :: { hash := PyData.keyHash P (Str.ofString "_law_cells"), key := Value.str (Str.ofString "_law_cells") 529, val := Value.ref 124 } :: { hash := PyData.keyHash P (Str.ofString "_law_shape"), key := Value.str (Str.ofString "_law_shape") 538, val := Value.ref 131 } :: { hash := PyData.keyHash P (Str.ofString "_law_reply"), key := Value.str (Str.ofString "_law_reply") 551, val := Value.ref 138 } :: { hash := PyData.keyHash P (Str.ofString "_law_heard"), key := Value.str (Str.ofString "_law_heard") 560, val := Value.ref 145 } :: { hash := PyData.keyHash P (Str.ofString "_law_worth"), key := Value.str (Str.ofString "_law_worth") 571, val := Value.ref 152 } :: { hash := PyData.keyHash P (Str.ofString "_law_symbols"), key := Value.str (Str.ofString "_law_symbols") 582, val := Value.ref 159 } :: { hash := PyData.keyHash P (Str.ofString "_law_times"), key := Value.str (Str.ofString "_law_times") 595, val := Value.ref 166 } :: { hash := PyData.keyHash P (Str.ofString "_law_worked"), key := Value.str (Str.ofString "_law_worked") 608, val := Value.ref 173 } :: { hash := PyData.keyHash P (Str.ofString "_law_turned"), key := Value.str (Str.ofString "_law_turned") 614, val := Value.ref 178 } :: { hash := PyData.keyHash P (Str.ofString "_law_board"), key := Value.str (Str.ofString "_law_board") 620, val := Value.ref 183 } :: { hash := PyData.keyHash P (Str.ofString "law"), key := Value.str (Str.ofString "law") 626, val := Value.ref 188 } :: [])) 83 }) ::
      (nat_lit 15, { cls := Value.type "tuple", data := Data.seq #[] }) ::
      (nat_lit 17, { cls := Value.type "tuple", data := Data.seq #[Value.str (Str.ofString "a") 192, Value.str (Str.ofString "b") 193] }) ::
      (nat_lit 18, { cls := Value.type "tuple", data := Data.seq #[] }) ::
      (nat_lit 20, { cls := Value.type "code", data := Data.fields #[Value.str (Str.ofString "lshift") 189, Value.str (Str.ofString "lshift") 190, Value.str (Str.ofString "/claim/cut.py") 191, Value.int 2 0, Value.int 2 0, Value.int 0 0, Value.int 0 0, Value.int 3 0, Value.ref 15, Value.bool true, Value.int 181 0, Value.ref 16, Value.none, Value.ref 17, Value.ref 18, Value.ref 19, Value.int 194 0, Value.int 2 0, Value.str (Str.ofString "/claim/cut.py") 195] }) ::
      (nat_lit 21, { cls := Value.type "function", data := Data.func { name := Str.ofString "lshift", qualname := Str.ofString "lshift", params := ?qp_1, body := FuncBody.stmts ?qb_1, scope := ?qs_1, globals := 3, closure := [], defaults := Value.none, kwdefaults := Value.none, pyModule := Value.str (Str.ofString "cpy313.operator") 187, code := Value.ref 20 } }) ::
      (nat_lit 22, { cls := Value.type "tuple", data := Data.seq #[] }) ::
      (nat_lit 24, { cls := Value.type "tuple", data := Data.seq #[Value.str (Str.ofString "a") 200, Value.str (Str.ofString "b") 201] }) ::
      (nat_lit 25, { cls := Value.type "tuple", data := Data.seq #[] }) ::
      (nat_lit 27, { cls := Value.type "code", data := Data.fields #[Value.str (Str.ofString "xor") 197, Value.str (Str.ofString "xor") 198, Value.str (Str.ofString "/claim/cut.py") 199, Value.int 4 0, Value.int 2 0, Value.int 0 0, Value.int 0 0, Value.int 3 0, Value.ref 22, Value.bool true, Value.int 181 0, Value.ref 23, Value.none, Value.ref 24, Value.ref 25, Value.ref 26, Value.int 202 0, Value.int 4 0, Value.str (Str.ofString "/claim/cut.py") 203] }) ::
      (nat_lit 28, { cls := Value.type "function", data := Data.func { name := Str.ofString "xor", qualname := Str.ofString "xor", params := ?qp_2, body := FuncBody.stmts ?qb_2, scope := ?qs_2, globals := 3, closure := [], defaults := Value.none, kwdefaults := Value.none, pyModule := Value.str (Str.ofString "cpy313.operator") 187, code := Value.ref 27 } }) ::
      (nat_lit 29, { cls := Value.type "tuple", data := Data.seq #[] }) ::
      (nat_lit 31, { cls := Value.type "tuple", data := Data.seq #[Value.str (Str.ofString "a") 208, Value.str (Str.ofString "b") 209] }) ::
      (nat_lit 32, { cls := Value.type "tuple", data := Data.seq #[] }) ::
      (nat_lit 34, { cls := Value.type "code", data := Data.fields #[Value.str (Str.ofString "contains") 205, Value.str (Str.ofString "contains") 206, Value.str (Str.ofString "/claim/cut.py") 207, Value.int 6 0, Value.int 2 0, Value.int 0 0, Value.int 0 0, Value.int 3 0, Value.ref 29, Value.bool true, Value.int 181 0, Value.ref 30, Value.none, Value.ref 31, Value.ref 32, Value.ref 33, Value.int 210 0, Value.int 6 0, Value.str (Str.ofString "/claim/cut.py") 211] }) ::
      (nat_lit 35, { cls := Value.type "function", data := Data.func { name := Str.ofString "contains", qualname := Str.ofString "contains", params := ?qp_3, body := FuncBody.stmts ?qb_3, scope := ?qs_3, globals := 3, closure := [], defaults := Value.none, kwdefaults := Value.none, pyModule := Value.str (Str.ofString "cpy313.operator") 187, code := Value.ref 34 } }) ::
      (nat_lit 36, { cls := Value.type "tuple", data := Data.seq #[] }) ::
      (nat_lit 38, { cls := Value.type "tuple", data := Data.seq #[Value.str (Str.ofString "a") 216, Value.str (Str.ofString "b") 217] }) ::
      (nat_lit 39, { cls := Value.type "tuple", data := Data.seq #[] }) ::
      (nat_lit 41, { cls := Value.type "code", data := Data.fields #[Value.str (Str.ofString "ixor") 213, Value.str (Str.ofString "ixor") 214, Value.str (Str.ofString "/claim/cut.py") 215, Value.int 8 0, Value.int 2 0, Value.int 0 0, Value.int 0 0, Value.int 3 0, Value.ref 36, Value.bool true, Value.int 181 0, Value.ref 37, Value.none, Value.ref 38, Value.ref 39, Value.ref 40, Value.int 218 0, Value.int 8 0, Value.str (Str.ofString "/claim/cut.py") 219] }) ::
      (nat_lit 42, { cls := Value.type "function", data := Data.func { name := Str.ofString "ixor", qualname := Str.ofString "ixor", params := ?qp_4, body := FuncBody.stmts ?qb_4, scope := ?qs_4, globals := 3, closure := [], defaults := Value.none, kwdefaults := Value.none, pyModule := Value.str (Str.ofString "cpy313.operator") 187, code := Value.ref 41 } }) ::
      (nat_lit 43, { cls := Value.type "tuple", data := Data.seq #[Value.type "Exception"] }) ::
      (nat_lit 50, { cls := Value.type "tuple", data := Data.seq #[] }) ::
      (nat_lit 51, { cls := Value.type "dict", data := Data.dict #[{ hash := PyData.keyHash P (Str.ofString "__module__"), key := Value.str (Str.ofString "__module__") 230, val := Value.str (Str.ofString "cpy313.ftplib") 221 }, { hash := PyData.keyHash P (Str.ofString "__firstlineno__"), key := Value.str (Str.ofString "__firstlineno__") 234, val := Value.int 12 233 }, { hash := PyData.keyHash P (Str.ofString "__static_attributes__"), key := Value.str (Str.ofString "__static_attributes__") 235, val := Value.ref 50 }, { hash := PyData.keyHash P (Str.ofString "__weakref__"), key := Value.str (Str.ofString "__weakref__") 237, val := Value.ref 53 }, { hash := PyData.keyHash P (Str.ofString "__doc__"), key := Value.str (Str.ofString "__doc__") 238, val := Value.none }] 3 }) ::
      (nat_lit 52, { cls := Value.type "type", data := Data.cls { name := Str.ofString "Error", bases := [Value.type "Exception"], mro := [Value.ref 52, Value.type "Exception", Value.type "BaseException", Value.type "object"], ns := 51, qualname := Str.ofString "Error", subclasses := [Value.ref 65, Value.ref 77] }, slots := #[some (Value.ref 43), none, some (Value.str (Str.ofString "Error") 223), some (Value.str (Str.ofString "Error") 231), some (Value.builtin "Exception.__new__"), some (Value.bool true)] }) ::
      (nat_lit 53, { cls := Value.type "getset_descriptor", data := Data.fields #[Value.str (Str.ofString "__weakref__") 236, Value.ref 52, Value.builtin "ExceptionGroup.__weakref__", Value.none] }) ::
      (nat_lit 56, { cls := Value.type "tuple", data := Data.seq #[Value.ref 52] }) ::
      (nat_lit 63, { cls := Value.type "tuple", data := Data.seq #[] }) ::
      (nat_lit 64, { cls := Value.type "dict", data := Data.dict #[{ hash := PyData.keyHash P (Str.ofString "__module__"), key := Value.str (Str.ofString "__module__") 250, val := Value.str (Str.ofString "cpy313.ftplib") 221 }, { hash := PyData.keyHash P (Str.ofString "__firstlineno__"), key := Value.str (Str.ofString "__firstlineno__") 254, val := Value.int 14 253 }, { hash := PyData.keyHash P (Str.ofString "__static_attributes__"), key := Value.str (Str.ofString "__static_attributes__") 255, val := Value.ref 63 }, { hash := PyData.keyHash P (Str.ofString "__doc__"), key := Value.str (Str.ofString "__doc__") 256, val := Value.none }] 2 }) ::
      (nat_lit 65, { cls := Value.type "type", data := Data.cls { name := Str.ofString "error_reply", bases := [Value.ref 52], mro := [Value.ref 65, Value.ref 52, Value.type "Exception", Value.type "BaseException", Value.type "object"], ns := 64, qualname := Str.ofString "error_reply" }, slots := #[some (Value.ref 56), none, some (Value.str (Str.ofString "error_reply") 243), some (Value.str (Str.ofString "error_reply") 251), some (Value.builtin "Exception.__new__"), some (Value.bool true)] }) ::
      (nat_lit 68, { cls := Value.type "tuple", data := Data.seq #[Value.ref 52] }) ::
      (nat_lit 75, { cls := Value.type "tuple", data := Data.seq #[] }) ::
      (nat_lit 76, { cls := Value.type "dict", data := Data.dict #[{ hash := PyData.keyHash P (Str.ofString "__module__"), key := Value.str (Str.ofString "__module__") 266, val := Value.str (Str.ofString "cpy313.ftplib") 221 }, { hash := PyData.keyHash P (Str.ofString "__firstlineno__"), key := Value.str (Str.ofString "__firstlineno__") 270, val := Value.int 16 269 }, { hash := PyData.keyHash P (Str.ofString "__static_attributes__"), key := Value.str (Str.ofString "__static_attributes__") 271, val := Value.ref 75 }, { hash := PyData.keyHash P (Str.ofString "__doc__"), key := Value.str (Str.ofString "__doc__") 272, val := Value.none }] 2 }) ::
      (nat_lit 77, { cls := Value.type "type", data := Data.cls { name := Str.ofString "error_proto", bases := [Value.ref 52], mro := [Value.ref 77, Value.ref 52, Value.type "Exception", Value.type "BaseException", Value.type "object"], ns := 76, qualname := Str.ofString "error_proto" }, slots := #[some (Value.ref 68), none, some (Value.str (Str.ofString "error_proto") 259), some (Value.str (Str.ofString "error_proto") 267), some (Value.builtin "Exception.__new__"), some (Value.bool true)] }) ::
      (nat_lit 80, { cls := Value.type "tuple", data := Data.seq #[] }) ::
      (nat_lit 82, { cls := Value.type "tuple", data := Data.seq #[Value.str (Str.ofString "resp") 278, Value.str (Str.ofString "peer") 279, Value.str (Str.ofString "left") 280, Value.str (Str.ofString "right") 281, Value.str (Str.ofString "parts") 282, Value.str (Str.ofString "host") 283, Value.str (Str.ofString "port") 284] }) ::
      (nat_lit 83, { cls := Value.type "tuple", data := Data.seq #[] }) ::
      (nat_lit 85, { cls := Value.type "code", data := Data.fields #[Value.str (Str.ofString "parse229") 275, Value.str (Str.ofString "parse229") 276, Value.str (Str.ofString "/claim/cut.py") 277, Value.int 18 0, Value.int 2 0, Value.int 0 0, Value.int 0 0, Value.int 3 0, Value.ref 80, Value.bool true, Value.int 181 0, Value.ref 81, Value.none, Value.ref 82, Value.ref 83, Value.ref 84, Value.int 285 0, Value.int 18 0, Value.str (Str.ofString "/claim/cut.py") 286] }) ::
      (nat_lit 86, { cls := Value.type "function", data := Data.func { name := Str.ofString "parse229", qualname := Str.ofString "parse229", params := ?qp_9, body := FuncBody.stmts ?qb_9, scope := ?qs_9, globals := 3, closure := [], defaults := Value.none, kwdefaults := Value.none, pyModule := Value.str (Str.ofString "cpy313.ftplib") 221, code := Value.ref 85 } }) ::
      (nat_lit 87, { cls := Value.type "tuple", data := Data.seq #[] }) ::
      (nat_lit 89, { cls := Value.type "tuple", data := Data.seq #[Value.str (Str.ofString "resp") 291, Value.str (Str.ofString "dirname") 292, Value.str (Str.ofString "i") 293, Value.str (Str.ofString "n") 294, Value.str (Str.ofString "c") 295] }) ::
      (nat_lit 90, { cls := Value.type "tuple", data := Data.seq #[] }) ::
      (nat_lit 92, { cls := Value.type "code", data := Data.fields #[Value.str (Str.ofString "parse257") 288, Value.str (Str.ofString "parse257") 289, Value.str (Str.ofString "/claim/cut.py") 290, Value.int 35 0, Value.int 1 0, Value.int 0 0, Value.int 0 0, Value.int 3 0, Value.ref 87, Value.bool true, Value.int 181 0, Value.ref 88, Value.none, Value.ref 89, Value.ref 90, Value.ref 91, Value.int 296 0, Value.int 35 0, Value.str (Str.ofString "/claim/cut.py") 297] }) ::
      (nat_lit 93, { cls := Value.type "function", data := Data.func { name := Str.ofString "parse257", qualname := Str.ofString "parse257", params := ?qp_10, body := FuncBody.stmts ?qb_10, scope := ?qs_10, globals := 3, closure := [], defaults := Value.none, kwdefaults := Value.none, pyModule := Value.str (Str.ofString "cpy313.ftplib") 221, code := Value.ref 92 } }) ::
      (nat_lit 94, { cls := Value.type "dict", data := Data.dict #[{ hash := PyData.keyHash P (Str.ofString "!"), key := Value.str (Str.ofString "!") 401, val := Value.int 54 397 }, { hash := PyData.keyHash P (Str.ofString "!="), key := Value.str (Str.ofString "!=") 403, val := Value.int 28 345 }, { hash := PyData.keyHash P (Str.ofString "%"), key := Value.str (Str.ofString "%") 405, val := Value.int 24 337 }, { hash := PyData.keyHash P (Str.ofString "%="), key := Value.str (Str.ofString "%=") 407, val := Value.int 40 369 }, { hash := PyData.keyHash P (Str.ofString "&"), key := Value.str (Str.ofString "&") 409, val := Value.int 19 327 }, { hash := PyData.keyHash P (Str.ofString "&="), key := Value.str (Str.ofString "&=") 411, val := Value.int 41 371 }, { hash := PyData.keyHash P (Str.ofString "("), key := Value.str (Str.ofString "(") 413, val := Value.int 7 303 }, { hash := PyData.keyHash P (Str.ofString ")"), key := Value.str (Str.ofString ")") 415, val := Value.int 8 305 }, { hash := PyData.keyHash P (Str.ofString "*"), key := Value.str (Str.ofString "*") 417, val := Value.int 16 321 }, { hash := PyData.keyHash P (Str.ofString "**"), key := Value.str (Str.ofString "**") 419, val := Value.int 35 359 }, { hash := PyData.keyHash P (Str.ofString "**="), key := Value.str (Str.ofString "**=") 421, val := Value.int 46 381 }, { hash := PyData.keyHash P (Str.ofString "*="), key := Value.str (Str.ofString "*=") 423, val := Value.int 38 365 }, { hash := PyData.keyHash P (Str.ofString "+"), key := Value.str (Str.ofString "+") 425, val := Value.int 14 317 }, { hash := PyData.keyHash P (Str.ofString "+="), key := Value.str (Str.ofString "+=") 427, val := Value.int 36 361 }, { hash := PyData.keyHash P (Str.ofString ","), key := Value.str (Str.ofString ",") 429, val := Value.int 12 313 }, { hash := PyData.keyHash P (Str.ofString "-"), key := Value.str (Str.ofString "-") 431, val := Value.int 15 319 }, { hash := PyData.keyHash P (Str.ofString "-="), key := Value.str (Str.ofString "-=") 433, val := Value.int 37 363 }, { hash := PyData.keyHash P (Str.ofString "->"), key := Value.str (Str.ofString "->") 435, val := Value.int 51 391 }, { hash := PyData.keyHash P (Str.ofString "."), key := Value.str (Str.ofString ".") 437, val := Value.int 23 335 }, { hash := PyData.keyHash P (Str.ofString "..."), key := Value.str (Str.ofString "...") 439, val := Value.int 52 393 }, { hash := PyData.keyHash P (Str.ofString "/"), key := Value.str (Str.ofString "/") 441, val := Value.int 17 323 }, { hash := PyData.keyHash P (Str.ofString "//"), key := Value.str (Str.ofString "//") 443, val := Value.int 47 383 }, { hash := PyData.keyHash P (Str.ofString "//="), key := Value.str (Str.ofString "//=") 445, val := Value.int 48 385 }, { hash := PyData.keyHash P (Str.ofString "/="), key := Value.str (Str.ofString "/=") 447, val := Value.int 39 367 }, { hash := PyData.keyHash P (Str.ofString ":"), key := Value.str (Str.ofString ":") 449, val := Value.int 11 311 }, { hash := PyData.keyHash P (Str.ofString ":="), key := Value.str (Str.ofString ":=") 451, val := Value.int 53 395 }, { hash := PyData.keyHash P (Str.ofString ";"), key := Value.str (Str.ofString ";") 453, val := Value.int 13 315 }, { hash := PyData.keyHash P (Str.ofString "<"), key := Value.str (Str.ofString "<") 455, val := Value.int 20 329 }, { hash := PyData.keyHash P (Str.ofString "<<"), key := Value.str (Str.ofString "<<") 457, val := Value.int 33 355 }, { hash := PyData.keyHash P (Str.ofString "<<="), key := Value.str (Str.ofString "<<=") 459, val := Value.int 44 377 }, { hash := PyData.keyHash P (Str.ofString "<="), key := Value.str (Str.ofString "<=") 461, val := Value.int 29 347 }, { hash := PyData.keyHash P (Str.ofString "="), key := Value.str (Str.ofString "=") 463, val := Value.int 22 333 }, { hash := PyData.keyHash P (Str.ofString "=="), key := Value.str (Str.ofString "==") 465, val := Value.int 27 343 }, { hash := PyData.keyHash P (Str.ofString ">"), key := Value.str (Str.ofString ">") 467, val := Value.int 21 331 }, { hash := PyData.keyHash P (Str.ofString ">="), key := Value.str (Str.ofString ">=") 469, val := Value.int 30 349 }, { hash := PyData.keyHash P (Str.ofString ">>"), key := Value.str (Str.ofString ">>") 470, val := Value.int 34 357 }, { hash := PyData.keyHash P (Str.ofString ">>="), key := Value.str (Str.ofString ">>=") 471, val := Value.int 45 379 }, { hash := PyData.keyHash P (Str.ofString "@"), key := Value.str (Str.ofString "@") 472, val := Value.int 49 387 }, { hash := PyData.keyHash P (Str.ofString "@="), key := Value.str (Str.ofString "@=") 473, val := Value.int 50 389 }, { hash := PyData.keyHash P (Str.ofString "["), key := Value.str (Str.ofString "[") 474, val := Value.int 9 307 }, { hash := PyData.keyHash P (Str.ofString "]"), key := Value.str (Str.ofString "]") 475, val := Value.int 10 309 }, { hash := PyData.keyHash P (Str.ofString "^"), key := Value.str (Str.ofString "^") 476, val := Value.int 32 353 }, { hash := PyData.keyHash P (Str.ofString "^="), key := Value.str (Str.ofString "^=") 477, val := Value.int 43 375 }, { hash := PyData.keyHash P (Str.ofString "{"), key := Value.str (Str.ofString "{") 478, val := Value.int 25 339 }, { hash := PyData.keyHash P (Str.ofString "|"), key := Value.str (Str.ofString "|") 479, val := Value.int 18 325 }, { hash := PyData.keyHash P (Str.ofString "|="), key := Value.str (Str.ofString "|=") 480, val := Value.int 42 373 }, { hash := PyData.keyHash P (Str.ofString "}"), key := Value.str (Str.ofString "}") 481, val := Value.int 26 341 }, { hash := PyData.keyHash P (Str.ofString "~"), key := Value.str (Str.ofString "~") 482, val := Value.int 31 351 }] 48 }) ::
      (nat_lit 97, { cls := Value.type "tuple", data := Data.seq #[] }) ::
      (nat_lit 99, { cls := Value.type "tuple", data := Data.seq #[Value.str (Str.ofString "x") 501] }) ::
      (nat_lit 100, { cls := Value.type "tuple", data := Data.seq #[] }) ::
      (nat_lit 102, { cls := Value.type "code", data := Data.fields #[Value.str (Str.ofString "ISTERMINAL") 498, Value.str (Str.ofString "ISTERMINAL") 499, Value.str (Str.ofString "/claim/cut.py") 500, Value.int 104 0, Value.int 1 0, Value.int 0 0, Value.int 0 0, Value.int 3 0, Value.ref 97, Value.bool true, Value.int 181 0, Value.ref 98, Value.none, Value.ref 99, Value.ref 100, Value.ref 101, Value.int 502 0, Value.int 104 0, Value.str (Str.ofString "/claim/cut.py") 503] }) ::
      (nat_lit 103, { cls := Value.type "function", data := Data.func { name := Str.ofString "ISTERMINAL", qualname := Str.ofString "ISTERMINAL", params := ?qp_63, body := FuncBody.stmts ?qb_63, scope := ?qs_63, globals := 3, closure := [], defaults := Value.none, kwdefaults := Value.none, pyModule := Value.str (Str.ofString "cpy313.token") 299, code := Value.ref 102 } }) ::
      (nat_lit 104, { cls := Value.type "tuple", data := Data.seq #[] }) ::
      (nat_lit 106, { cls := Value.type "tuple", data := Data.seq #[Value.str (Str.ofString "x") 508] }) ::
      (nat_lit 107, { cls := Value.type "tuple", data := Data.seq #[] }) ::
      (nat_lit 109, { cls := Value.type "code", data := Data.fields #[Value.str (Str.ofString "ISNONTERMINAL") 505, Value.str (Str.ofString "ISNONTERMINAL") 506, Value.str (Str.ofString "/claim/cut.py") 507, Value.int 106 0, Value.int 1 0, Value.int 0 0, Value.int 0 0, Value.int 3 0, Value.ref 104, Value.bool true, Value.int 181 0, Value.ref 105, Value.none, Value.ref 106, Value.ref 107, Value.ref 108, Value.int 509 0, Value.int 106 0, Value.str (Str.ofString "/claim/cut.py") 510] }) ::
      (nat_lit 110, { cls := Value.type "function", data := Data.func { name := Str.ofString "ISNONTERMINAL", qualname := Str.ofString "ISNONTERMINAL", params := ?qp_64, body := FuncBody.stmts ?qb_64, scope := ?qs_64, globals := 3, closure := [], defaults := Value.none, kwdefaults := Value.none, pyModule := Value.str (Str.ofString "cpy313.token") 299, code := Value.ref 109 } }) ::
      (nat_lit 111, { cls := Value.type "tuple", data := Data.seq #[] }) ::
      (nat_lit 113, { cls := Value.type "tuple", data := Data.seq #[Value.str (Str.ofString "x") 515] }) ::
      (nat_lit 114, { cls := Value.type "tuple", data := Data.seq #[] }) ::
      (nat_lit 116, { cls := Value.type "code", data := Data.fields #[Value.str (Str.ofString "ISEOF") 512, Value.str (Str.ofString "ISEOF") 513, Value.str (Str.ofString "/claim/cut.py") 514, Value.int 108 0, Value.int 1 0, Value.int 0 0, Value.int 0 0, Value.int 3 0, Value.ref 111, Value.bool true, Value.int 181 0, Value.ref 112, Value.none, Value.ref 113, Value.ref 114, Value.ref 115, Value.int 516 0, Value.int 108 0, Value.str (Str.ofString "/claim/cut.py") 517] }) ::
      (nat_lit 117, { cls := Value.type "function", data := Data.func { name := Str.ofString "ISEOF", qualname := Str.ofString "ISEOF", params := ?qp_65, body := FuncBody.stmts ?qb_65, scope := ?qs_65, globals := 3, closure := [], defaults := Value.none, kwdefaults := Value.none, pyModule := Value.str (Str.ofString "cpy313.token") 299, code := Value.ref 116 } }) ::
      (nat_lit 118, { cls := Value.type "tuple", data := Data.seq #[] }) ::
      (nat_lit 120, { cls := Value.type "tuple", data := Data.seq #[Value.str (Str.ofString "script") 524, Value.str (Str.ofString "cells") 525, Value.str (Str.ofString "place") 526] }) ::
      (nat_lit 121, { cls := Value.type "tuple", data := Data.seq #[] }) ::
      (nat_lit 123, { cls := Value.type "code", data := Data.fields #[Value.str (Str.ofString "_law_cells") 521, Value.str (Str.ofString "_law_cells") 522, Value.str (Str.ofString "/claim/cut.py") 523, Value.int 111 0, Value.int 1 0, Value.int 0 0, Value.int 0 0, Value.int 3 0, Value.ref 118, Value.bool true, Value.int 181 0, Value.ref 119, Value.none, Value.ref 120, Value.ref 121, Value.ref 122, Value.int 527 0, Value.int 111 0, Value.str (Str.ofString "/claim/cut.py") 528] }) ::
      (nat_lit 124, { cls := Value.type "function", data := Data.func { name := Str.ofString "_law_cells", qualname := Str.ofString "_law_cells", params := ?qp_67, body := FuncBody.stmts ?qb_67, scope := ?qs_67, globals := 3, closure := [], defaults := Value.none, kwdefaults := Value.none, pyModule := Value.str (Str.ofString "law_yf0019_01") 519, code := Value.ref 123 } }) ::
      (nat_lit 125, { cls := Value.type "tuple", data := Data.seq #[] }) ::
      (nat_lit 127, { cls := Value.type "tuple", data := Data.seq #[Value.str (Str.ofString "kind") 533, Value.str (Str.ofString "texts") 534, Value.str (Str.ofString "coins") 535] }) ::
      (nat_lit 128, { cls := Value.type "tuple", data := Data.seq #[] }) ::
      (nat_lit 130, { cls := Value.type "code", data := Data.fields #[Value.str (Str.ofString "_law_shape") 530, Value.str (Str.ofString "_law_shape") 531, Value.str (Str.ofString "/claim/cut.py") 532, Value.int 116 0, Value.int 1 0, Value.int 0 0, Value.int 0 0, Value.int 3 0, Value.ref 125, Value.bool true, Value.int 181 0, Value.ref 126, Value.none, Value.ref 127, Value.ref 128, Value.ref 129, Value.int 536 0, Value.int 116 0, Value.str (Str.ofString "/claim/cut.py") 537] }) ::
      (nat_lit 131, { cls := Value.type "function", data := Data.func { name := Str.ofString "_law_shape", qualname := Str.ofString "_law_shape", params := ?qp_68, body := FuncBody.stmts ?qb_68, scope := ?qs_68, globals := 3, closure := [], defaults := Value.none, kwdefaults := Value.none, pyModule := Value.str (Str.ofString "law_yf0019_01") 519, code := Value.ref 130 } }) ::
      (nat_lit 132, { cls := Value.type "tuple", data := Data.seq #[] }) ::
      (nat_lit 134, { cls := Value.type "tuple", data := Data.seq #[Value.str (Str.ofString "name") 542, Value.str (Str.ofString "number") 543, Value.str (Str.ofString "cell") 544, Value.str (Str.ofString "fields") 545, Value.str (Str.ofString "mark") 546, Value.str (Str.ofString "ahead") 547, Value.str (Str.ofString "port") 548] }) ::
      (nat_lit 135, { cls := Value.type "tuple", data := Data.seq #[] }) ::
      (nat_lit 137, { cls := Value.type "code", data := Data.fields #[Value.str (Str.ofString "_law_reply") 539, Value.str (Str.ofString "_law_reply") 540, Value.str (Str.ofString "/claim/cut.py") 541, Value.int 121 0, Value.int 3 0, Value.int 0 0, Value.int 0 0, Value.int 3 0, Value.ref 132, Value.bool true, Value.int 181 0, Value.ref 133, Value.none, Value.ref 134, Value.ref 135, Value.ref 136, Value.int 549 0, Value.int 121 0, Value.str (Str.ofString "/claim/cut.py") 550] }) ::
      (nat_lit 138, { cls := Value.type "function", data := Data.func { name := Str.ofString "_law_reply", qualname := Str.ofString "_law_reply", params := ?qp_69, body := FuncBody.stmts ?qb_69, scope := ?qs_69, globals := 3, closure := [], defaults := Value.none, kwdefaults := Value.none, pyModule := Value.str (Str.ofString "law_yf0019_01") 519, code := Value.ref 137 } }) ::
      (nat_lit 139, { cls := Value.type "tuple", data := Data.seq #[] }) ::
      (nat_lit 141, { cls := Value.type "tuple", data := Data.seq #[Value.str (Str.ofString "reply") 555, Value.str (Str.ofString "peer") 556, Value.str (Str.ofString "refusal") 557] }) ::
      (nat_lit 142, { cls := Value.type "tuple", data := Data.seq #[] }) ::
      (nat_lit 144, { cls := Value.type "code", data := Data.fields #[Value.str (Str.ofString "_law_heard") 552, Value.str (Str.ofString "_law_heard") 553, Value.str (Str.ofString "/claim/cut.py") 554, Value.int 127 0, Value.int 2 0, Value.int 0 0, Value.int 0 0, Value.int 3 0, Value.ref 139, Value.bool true, Value.int 181 0, Value.ref 140, Value.none, Value.ref 141, Value.ref 142, Value.ref 143, Value.int 558 0, Value.int 127 0, Value.str (Str.ofString "/claim/cut.py") 559] }) ::
      (nat_lit 145, { cls := Value.type "function", data := Data.func { name := Str.ofString "_law_heard", qualname := Str.ofString "_law_heard", params := ?qp_70, body := FuncBody.stmts ?qb_70, scope := ?qs_70, globals := 3, closure := [], defaults := Value.none, kwdefaults := Value.none, pyModule := Value.str (Str.ofString "law_yf0019_01") 519, code := Value.ref 144 } }) ::
      (nat_lit 146, { cls := Value.type "tuple", data := Data.seq #[] }) ::
      (nat_lit 148, { cls := Value.type "tuple", data := Data.seq #[Value.str (Str.ofString "kind") 564, Value.str (Str.ofString "port") 565, Value.str (Str.ofString "end") 566, Value.str (Str.ofString "said") 567, Value.str (Str.ofString "step") 568] }) ::
      (nat_lit 149, { cls := Value.type "tuple", data := Data.seq #[] }) ::
      (nat_lit 151, { cls := Value.type "code", data := Data.fields #[Value.str (Str.ofString "_law_worth") 561, Value.str (Str.ofString "_law_worth") 562, Value.str (Str.ofString "/claim/cut.py") 563, Value.int 136 0, Value.int 3 0, Value.int 0 0, Value.int 0 0, Value.int 3 0, Value.ref 146, Value.bool true, Value.int 181 0, Value.ref 147, Value.none, Value.ref 148, Value.ref 149, Value.ref 150, Value.int 569 0, Value.int 136 0, Value.str (Str.ofString "/claim/cut.py") 570] }) ::
      (nat_lit 152, { cls := Value.type "function", data := Data.func { name := Str.ofString "_law_worth", qualname := Str.ofString "_law_worth", params := ?qp_71, body := FuncBody.stmts ?qb_71, scope := ?qs_71, globals := 3, closure := [], defaults := Value.none, kwdefaults := Value.none, pyModule := Value.str (Str.ofString "law_yf0019_01") 519, code := Value.ref 151 } }) ::
      (nat_lit 153, { cls := Value.type "tuple", data := Data.seq #[] }) ::
      (nat_lit 155, { cls := Value.type "tuple", data := Data.seq #[Value.str (Str.ofString "text") 575, Value.str (Str.ofString "symbols") 576, Value.str (Str.ofString "at") 577, Value.str (Str.ofString "size") 578, Value.str (Str.ofString "piece") 579] }) ::
      (nat_lit 156, { cls := Value.type "tuple", data := Data.seq #[] }) ::
      (nat_lit 158, { cls := Value.type "code", data := Data.fields #[Value.str (Str.ofString "_law_symbols") 572, Value.str (Str.ofString "_law_symbols") 573, Value.str (Str.ofString "/claim/cut.py") 574, Value.int 147 0, Value.int 1 0, Value.int 0 0, Value.int 0 0, Value.int 3 0, Value.ref 153, Value.bool true, Value.int 181 0, Value.ref 154, Value.none, Value.ref 155, Value.ref 156, Value.ref 157, Value.int 580 0, Value.int 147 0, Value.str (Str.ofString "/claim/cut.py") 581] }) ::
      (nat_lit 159, { cls := Value.type "function", data := Data.func { name := Str.ofString "_law_symbols", qualname := Str.ofString "_law_symbols", params := ?qp_72, body := FuncBody.stmts ?qb_72, scope := ?qs_72, globals := 3, closure := [], defaults := Value.none, kwdefaults := Value.none, pyModule := Value.str (Str.ofString "law_yf0019_01") 519, code := Value.ref 158 } }) ::
      (nat_lit 160, { cls := Value.type "tuple", data := Data.seq #[] }) ::
      (nat_lit 162, { cls := Value.type "tuple", data := Data.seq #[Value.str (Str.ofString "one") 586, Value.str (Str.ofString "other") 587, Value.str (Str.ofString "half") 588, Value.str (Str.ofString "small") 589, Value.str (Str.ofString "low") 590, Value.str (Str.ofString "high") 591, Value.str (Str.ofString "cross") 592] }) ::
      (nat_lit 163, { cls := Value.type "tuple", data := Data.seq #[] }) ::
      (nat_lit 165, { cls := Value.type "code", data := Data.fields #[Value.str (Str.ofString "_law_times") 583, Value.str (Str.ofString "_law_times") 584, Value.str (Str.ofString "/claim/cut.py") 585, Value.int 161 0, Value.int 3 0, Value.int 0 0, Value.int 0 0, Value.int 3 0, Value.ref 160, Value.bool true, Value.int 181 0, Value.ref 161, Value.none, Value.ref 162, Value.ref 163, Value.ref 164, Value.int 593 0, Value.int 161 0, Value.str (Str.ofString "/claim/cut.py") 594] }) ::
      (nat_lit 166, { cls := Value.type "function", data := Data.func { name := Str.ofString "_law_times", qualname := Str.ofString "_law_times", params := ?qp_73, body := FuncBody.stmts ?qb_73, scope := ?qs_73, globals := 3, closure := [], defaults := Value.none, kwdefaults := Value.none, pyModule := Value.str (Str.ofString "law_yf0019_01") 519, code := Value.ref 165 } }) ::
      (nat_lit 167, { cls := Value.type "tuple", data := Data.seq #[] }) ::
      (nat_lit 169, { cls := Value.type "tuple", data := Data.seq #[Value.str (Str.ofString "symbols") 599, Value.str (Str.ofString "worths") 600, Value.str (Str.ofString "rank") 601, Value.str (Str.ofString "ranks") 602, Value.str (Str.ofString "symbol") 603, Value.str (Str.ofString "told") 604, Value.str (Str.ofString "right") 605] }) ::
      (nat_lit 170, { cls := Value.type "tuple", data := Data.seq #[] }) ::
      (nat_lit 172, { cls := Value.type "code", data := Data.fields #[Value.str (Str.ofString "_law_worked") 596, Value.str (Str.ofString "_law_worked") 597, Value.str (Str.ofString "/claim/cut.py") 598, Value.int 169 0, Value.int 3 0, Value.int 0 0, Value.int 0 0, Value.int 3 0, Value.ref 167, Value.bool true, Value.int 181 0, Value.ref 168, Value.none, Value.ref 169, Value.ref 170, Value.ref 171, Value.int 606 0, Value.int 169 0, Value.str (Str.ofString "/claim/cut.py") 607] }) ::
      (nat_lit 173, { cls := Value.type "function", data := Data.func { name := Str.ofString "_law_worked", qualname := Str.ofString "_law_worked", params := ?qp_74, body := FuncBody.stmts ?qb_74, scope := ?qs_74, globals := 3, closure := [], defaults := Value.none, kwdefaults := Value.none, pyModule := Value.str (Str.ofString "law_yf0019_01") 519, code := Value.ref 172 } }) ::
      (nat_lit 174, { cls := Value.type "tuple", data := Data.seq #[] }) ::
      (nat_lit 177, { cls := Value.type "code", data := Data.fields #[Value.str (Str.ofString "_law_turned") 609, Value.str (Str.ofString "_law_turned") 610, Value.str (Str.ofString "/claim/cut.py") 611, Value.int 186 0, Value.int 2 0, Value.int 0 0, Value.int 0 0, Value.int 3 0, Value.ref 174, Value.bool true, Value.int 181 0, Value.ref 175, Value.none, Value.none, Value.none, Value.ref 176, Value.int 612 0, Value.int 186 0, Value.str (Str.ofString "/claim/cut.py") 613] }) ::
      (nat_lit 178, { cls := Value.type "function", data := Data.func { name := Str.ofString "_law_turned", qualname := Str.ofString "_law_turned", params := ?qp_75, body := FuncBody.stmts ?qb_75, scope := ?qs_75, globals := 3, closure := [], defaults := Value.none, kwdefaults := Value.none, pyModule := Value.str (Str.ofString "law_yf0019_01") 519, code := Value.ref 177 } }) ::
      (nat_lit 179, { cls := Value.type "tuple", data := Data.seq #[] }) ::
      (nat_lit 182, { cls := Value.type "code", data := Data.fields #[Value.str (Str.ofString "_law_board") 615, Value.str (Str.ofString "_law_board") 616, Value.str (Str.ofString "/claim/cut.py") 617, Value.int 193 0, Value.int 3 0, Value.int 0 0, Value.int 0 0, Value.int 3 0, Value.ref 179, Value.bool true, Value.int 181 0, Value.ref 180, Value.none, Value.none, Value.none, Value.ref 181, Value.int 618 0, Value.int 193 0, Value.str (Str.ofString "/claim/cut.py") 619] }) ::
      (nat_lit 183, { cls := Value.type "function", data := Data.func { name := Str.ofString "_law_board", qualname := Str.ofString "_law_board", params := ?qp_76, body := FuncBody.stmts ?qb_76, scope := ?qs_76, globals := 3, closure := [], defaults := Value.none, kwdefaults := Value.none, pyModule := Value.str (Str.ofString "law_yf0019_01") 519, code := Value.ref 182 } }) ::
      (nat_lit 184, { cls := Value.type "tuple", data := Data.seq #[] }) ::
      (nat_lit 187, { cls := Value.type "code", data := Data.fields #[Value.str (Str.ofString "law") 621, Value.str (Str.ofString "law") 622, Value.str (Str.ofString "/claim/cut.py") 623, Value.int 211 0, Value.int 1 0, Value.int 0 0, Value.int 0 0, Value.int 3 0, Value.ref 184, Value.bool true, Value.int 181 0, Value.ref 185, Value.none, Value.none, Value.none, Value.ref 186, Value.int 624 0, Value.int 211 0, Value.str (Str.ofString "/claim/cut.py") 625] }) ::
      (nat_lit 188, { cls := Value.type "function", data := Data.func { name := Str.ofString "law", qualname := Str.ofString "law", params := ?qp_77, body := FuncBody.stmts ?qb_77, scope := ?qs_77, globals := 3, closure := [], defaults := Value.none, kwdefaults := Value.none, pyModule := Value.str (Str.ofString "law_yf0019_01") 519, code := Value.ref 187 } }) ::
      [])
noncomputable def keysAt : List Addr := (nat_lit 2 :: nat_lit 3 :: nat_lit 15 :: nat_lit 17 :: nat_lit 18 :: nat_lit 20 :: nat_lit 21 :: nat_lit 22 :: nat_lit 24 :: nat_lit 25 :: nat_lit 27 :: nat_lit 28 :: nat_lit 29 :: nat_lit 31 :: nat_lit 32 :: nat_lit 34 :: nat_lit 35 :: nat_lit 36 :: nat_lit 38 :: nat_lit 39 :: nat_lit 41 :: nat_lit 42 :: nat_lit 43 :: nat_lit 50 :: nat_lit 51 :: nat_lit 52 :: nat_lit 53 :: nat_lit 56 :: nat_lit 63 :: nat_lit 64 :: nat_lit 65 :: nat_lit 68 :: nat_lit 75 :: nat_lit 76 :: nat_lit 77 :: nat_lit 80 :: nat_lit 82 :: nat_lit 83 :: nat_lit 85 :: nat_lit 86 :: nat_lit 87 :: nat_lit 89 :: nat_lit 90 :: nat_lit 92 :: nat_lit 93 :: nat_lit 94 :: nat_lit 97 :: nat_lit 99 :: nat_lit 100 :: nat_lit 102 :: nat_lit 103 :: nat_lit 104 :: nat_lit 106 :: nat_lit 107 :: nat_lit 109 :: nat_lit 110 :: nat_lit 111 :: nat_lit 113 :: nat_lit 114 :: nat_lit 116 :: nat_lit 117 :: nat_lit 118 :: nat_lit 120 :: nat_lit 121 :: nat_lit 123 :: nat_lit 124 :: nat_lit 125 :: nat_lit 127 :: nat_lit 128 :: nat_lit 130 :: nat_lit 131 :: nat_lit 132 :: nat_lit 134 :: nat_lit 135 :: nat_lit 137 :: nat_lit 138 :: nat_lit 139 :: nat_lit 141 :: nat_lit 142 :: nat_lit 144 :: nat_lit 145 :: nat_lit 146 :: nat_lit 148 :: nat_lit 149 :: nat_lit 151 :: nat_lit 152 :: nat_lit 153 :: nat_lit 155 :: nat_lit 156 :: nat_lit 158 :: nat_lit 159 :: nat_lit 160 :: nat_lit 162 :: nat_lit 163 :: nat_lit 165 :: nat_lit 166 :: nat_lit 167 :: nat_lit 169 :: nat_lit 170 :: nat_lit 172 :: nat_lit 173 :: nat_lit 174 :: nat_lit 177 :: nat_lit 178 :: nat_lit 179 :: nat_lit 182 :: nat_lit 183 :: nat_lit 184 :: nat_lit 187 :: nat_lit 188 :: [])
noncomputable def nthO (P : Params) (n : Nat) : Obj := @List.rec (Addr × Obj) (fun _ => Obj) default (fun x _ _ => x.2) ((hd.heap_39 P).drop n)
noncomputable def heapF : Params → Heap := by
  refine (?f : PySem.Challenge.pw_yf0019_01.main.body = (?s_0 :: Stmt.FunctionDef ?n_1 ?qp_1 ?qb_1 ?d_1 ?r_1 ?t_1 ?qs_1 ?c_1 ?y_1 ?z_1 :: Stmt.FunctionDef ?n_2 ?qp_2 ?qb_2 ?d_2 ?r_2 ?t_2 ?qs_2 ?c_2 ?y_2 ?z_2 :: Stmt.FunctionDef ?n_3 ?qp_3 ?qb_3 ?d_3 ?r_3 ?t_3 ?qs_3 ?c_3 ?y_3 ?z_3 :: Stmt.FunctionDef ?n_4 ?qp_4 ?qb_4 ?d_4 ?r_4 ?t_4 ?qs_4 ?c_4 ?y_4 ?z_4 :: ?s_5 :: ?s_6 :: ?s_7 :: ?s_8 :: Stmt.FunctionDef ?n_9 ?qp_9 ?qb_9 ?d_9 ?r_9 ?t_9 ?qs_9 ?c_9 ?y_9 ?z_9 :: Stmt.FunctionDef ?n_10 ?qp_10 ?qb_10 ?d_10 ?r_10 ?t_10 ?qs_10 ?c_10 ?y_10 ?z_10 :: ?s_11 :: ?s_12 :: ?s_13 :: ?s_14 :: ?s_15 :: ?s_16 :: ?s_17 :: ?s_18 :: ?s_19 :: ?s_20 :: ?s_21 :: ?s_22 :: ?s_23 :: ?s_24 :: ?s_25 :: ?s_26 :: ?s_27 :: ?s_28 :: ?s_29 :: ?s_30 :: ?s_31 :: ?s_32 :: ?s_33 :: ?s_34 :: ?s_35 :: ?s_36 :: ?s_37 :: ?s_38 :: ?s_39 :: ?s_40 :: ?s_41 :: ?s_42 :: ?s_43 :: ?s_44 :: ?s_45 :: ?s_46 :: ?s_47 :: ?s_48 :: ?s_49 :: ?s_50 :: ?s_51 :: ?s_52 :: ?s_53 :: ?s_54 :: ?s_55 :: ?s_56 :: ?s_57 :: ?s_58 :: ?s_59 :: ?s_60 :: ?s_61 :: ?s_62 :: Stmt.FunctionDef ?n_63 ?qp_63 ?qb_63 ?d_63 ?r_63 ?t_63 ?qs_63 ?c_63 ?y_63 ?z_63 :: Stmt.FunctionDef ?n_64 ?qp_64 ?qb_64 ?d_64 ?r_64 ?t_64 ?qs_64 ?c_64 ?y_64 ?z_64 :: Stmt.FunctionDef ?n_65 ?qp_65 ?qb_65 ?d_65 ?r_65 ?t_65 ?qs_65 ?c_65 ?y_65 ?z_65 :: ?s_66 :: Stmt.FunctionDef ?n_67 ?qp_67 ?qb_67 ?d_67 ?r_67 ?t_67 ?qs_67 ?c_67 ?y_67 ?z_67 :: Stmt.FunctionDef ?n_68 ?qp_68 ?qb_68 ?d_68 ?r_68 ?t_68 ?qs_68 ?c_68 ?y_68 ?z_68 :: Stmt.FunctionDef ?n_69 ?qp_69 ?qb_69 ?d_69 ?r_69 ?t_69 ?qs_69 ?c_69 ?y_69 ?z_69 :: Stmt.FunctionDef ?n_70 ?qp_70 ?qb_70 ?d_70 ?r_70 ?t_70 ?qs_70 ?c_70 ?y_70 ?z_70 :: Stmt.FunctionDef ?n_71 ?qp_71 ?qb_71 ?d_71 ?r_71 ?t_71 ?qs_71 ?c_71 ?y_71 ?z_71 :: Stmt.FunctionDef ?n_72 ?qp_72 ?qb_72 ?d_72 ?r_72 ?t_72 ?qs_72 ?c_72 ?y_72 ?z_72 :: Stmt.FunctionDef ?n_73 ?qp_73 ?qb_73 ?d_73 ?r_73 ?t_73 ?qs_73 ?c_73 ?y_73 ?z_73 :: Stmt.FunctionDef ?n_74 ?qp_74 ?qb_74 ?d_74 ?r_74 ?t_74 ?qs_74 ?c_74 ?y_74 ?z_74 :: Stmt.FunctionDef ?n_75 ?qp_75 ?qb_75 ?d_75 ?r_75 ?t_75 ?qs_75 ?c_75 ?y_75 ?z_75 :: Stmt.FunctionDef ?n_76 ?qp_76 ?qb_76 ?d_76 ?r_76 ?t_76 ?qs_76 ?c_76 ?y_76 ?z_76 :: Stmt.FunctionDef ?n_77 ?qp_77 ?qb_77 ?d_77 ?r_77 ?t_77 ?qs_77 ?c_77 ?y_77 ?z_77 :: []) → Params → Heap) ?h
  case h => dsimp only [PySem.Challenge.pw_yf0019_01]; exact rfl
  case f =>
    exact fun _ => fun P => Heap.mk (Array.mk (PySem.W.boot_o_0 P ::
      PySem.W.boot_o_1 P ::
      nthO P 0 ::
      nthO P 1 ::
      PySem.W.boot_o_4 P ::
      PySem.W.boot_o_5 P ::
      PySem.W.boot_o_6 P ::
      PySem.W.boot_o_7 P ::
      PySem.W.boot_o_8 P ::
      PySem.W.boot_o_9 P ::
      PySem.W.boot_o_10 P ::
      { cls := Value.type "tuple", data := Data.seq #[] } ::
      { cls := Value.none, data := Data.fields (Array.mk (Value.int 2 0 :: Value.int 0 0 :: Value.ref 20 :: Value.int 4 0 :: Value.int 0 0 :: Value.ref 27 :: Value.int 6 0 :: Value.int 0 0 :: Value.ref 34 :: Value.int 8 0 :: Value.int 0 0 :: Value.ref 41 :: Value.int 12 0 :: Value.int 0 0 :: Value.ref 48 :: Value.int 14 0 :: Value.int 0 0 :: Value.ref 61 :: Value.int 16 0 :: Value.int 0 0 :: Value.ref 73 :: Value.int 18 0 :: Value.int 0 0 :: Value.ref 85 :: Value.int 35 0 :: Value.int 0 0 :: Value.ref 92 :: Value.int 104 0 :: Value.int 0 0 :: Value.ref 102 :: Value.int 106 0 :: Value.int 0 0 :: Value.ref 109 :: Value.int 108 0 :: Value.int 0 0 :: Value.ref 116 :: Value.int 111 0 :: Value.int 0 0 :: Value.ref 123 :: Value.int 116 0 :: Value.int 0 0 :: Value.ref 130 :: Value.int 121 0 :: Value.int 0 0 :: Value.ref 137 :: Value.int 127 0 :: Value.int 0 0 :: Value.ref 144 :: Value.int 136 0 :: Value.int 0 0 :: Value.ref 151 :: Value.int 147 0 :: Value.int 0 0 :: Value.ref 158 :: Value.int 161 0 :: Value.int 0 0 :: Value.ref 165 :: Value.int 169 0 :: Value.int 0 0 :: Value.ref 172 :: Value.int 186 0 :: Value.int 0 0 :: Value.ref 177 :: Value.int 193 0 :: Value.int 0 0 :: Value.ref 182 :: Value.int 211 0 :: Value.int 0 0 :: Value.ref 187 :: [])) } ::
      { cls := Value.type "code", data := Data.fields #[Value.str (Str.ofString "<module>") 182, Value.str (Str.ofString "<module>") 183, Value.str (Str.ofString "/claim/cut.py") 184, Value.int 1 0, Value.int 0 0, Value.int 0 0, Value.int 0 0, Value.int 0 0, Value.ref 11, Value.bool false, Value.int 181 0, Value.ref 12, Value.none, Value.none, Value.none, Value.none, Value.int 185 0, Value.int 1 0, Value.str (Str.ofString "/claim/cut.py") 186] } ::
      { cls := Value.type "frame", slots := #[some (Value.ref 13), some (Value.ref 3), some (Value.ref 3), none, some (Value.str (Str.ofString "__main__") 164), none, some (Value.ref 0)] } ::
      nthO P 2 ::
      { cls := Value.none, data := Data.fields #[] } ::
      nthO P 3 ::
      nthO P 4 ::
      { cls := Value.none, data := Data.func { name := Str.ofString "lshift", qualname := Str.ofString "lshift", params := ?qp_1, body := FuncBody.stmts ?qb_1, scope := ?qs_1, globals := 0, closure := [], defaults := Value.none, kwdefaults := Value.none } } ::
      nthO P 5 ::
      nthO P 6 ::
      nthO P 7 ::
      { cls := Value.none, data := Data.fields #[] } ::
      nthO P 8 ::
      nthO P 9 ::
      { cls := Value.none, data := Data.func { name := Str.ofString "xor", qualname := Str.ofString "xor", params := ?qp_2, body := FuncBody.stmts ?qb_2, scope := ?qs_2, globals := 0, closure := [], defaults := Value.none, kwdefaults := Value.none } } ::
      nthO P 10 ::
      nthO P 11 ::
      nthO P 12 ::
      { cls := Value.none, data := Data.fields #[] } ::
      nthO P 13 ::
      nthO P 14 ::
      { cls := Value.none, data := Data.func { name := Str.ofString "contains", qualname := Str.ofString "contains", params := ?qp_3, body := FuncBody.stmts ?qb_3, scope := ?qs_3, globals := 0, closure := [], defaults := Value.none, kwdefaults := Value.none } } ::
      nthO P 15 ::
      nthO P 16 ::
      nthO P 17 ::
      { cls := Value.none, data := Data.fields #[] } ::
      nthO P 18 ::
      nthO P 19 ::
      { cls := Value.none, data := Data.func { name := Str.ofString "ixor", qualname := Str.ofString "ixor", params := ?qp_4, body := FuncBody.stmts ?qb_4, scope := ?qs_4, globals := 0, closure := [], defaults := Value.none, kwdefaults := Value.none } } ::
      nthO P 20 ::
      nthO P 21 ::
      nthO P 22 ::
      { cls := Value.type "builtin_function_or_method", data := Data.fields #[Value.builtin "type.__prepare__", Value.type "type"] } ::
      { cls := Value.type "dict", data := Data.dict #[{ hash := PyData.keyHash P (Str.ofString "__module__"), key := Value.str (Str.ofString "__module__") 230, val := Value.str (Str.ofString "cpy313.ftplib") 221 }, { hash := PyData.keyHash P (Str.ofString "__qualname__"), key := Value.str (Str.ofString "__qualname__") 232, val := Value.str (Str.ofString "Error") 231 }, { hash := PyData.keyHash P (Str.ofString "__firstlineno__"), key := Value.str (Str.ofString "__firstlineno__") 234, val := Value.int 12 233 }, { hash := PyData.keyHash P (Str.ofString "__static_attributes__"), key := Value.str (Str.ofString "__static_attributes__") 235, val := Value.ref 50 }] 4 } ::
      { cls := Value.type "tuple", data := Data.seq #[] } ::
      { cls := Value.none, data := Data.fields #[] } ::
      { cls := Value.type "code", data := Data.fields #[Value.str (Str.ofString "Error") 225, Value.str (Str.ofString "Error") 226, Value.str (Str.ofString "/claim/cut.py") 227, Value.int 12 0, Value.int 0 0, Value.int 0 0, Value.int 0 0, Value.int 0 0, Value.ref 46, Value.bool false, Value.int 181 0, Value.ref 47, Value.none, Value.none, Value.none, Value.none, Value.int 228 0, Value.int 12 0, Value.str (Str.ofString "/claim/cut.py") 229] } ::
      { cls := Value.type "frame", slots := #[some (Value.ref 48), some (Value.ref 3), some (Value.ref 45), none, some (Value.str (Str.ofString "cpy313.ftplib") 221), none, some (Value.ref 0)] } ::
      nthO P 23 ::
      nthO P 24 ::
      nthO P 25 ::
      nthO P 26 ::
      { cls := Value.type "super", data := Data.fields #[Value.ref 52, Value.ref 52, Value.ref 52] } ::
      { cls := Value.type "builtin_function_or_method", data := Data.fields #[Value.builtin "object.__init_subclass__", Value.ref 52] } ::
      nthO P 27 ::
      { cls := Value.type "builtin_function_or_method", data := Data.fields #[Value.builtin "type.__prepare__", Value.type "type"] } ::
      { cls := Value.type "dict", data := Data.dict #[{ hash := PyData.keyHash P (Str.ofString "__module__"), key := Value.str (Str.ofString "__module__") 250, val := Value.str (Str.ofString "cpy313.ftplib") 221 }, { hash := PyData.keyHash P (Str.ofString "__qualname__"), key := Value.str (Str.ofString "__qualname__") 252, val := Value.str (Str.ofString "error_reply") 251 }, { hash := PyData.keyHash P (Str.ofString "__firstlineno__"), key := Value.str (Str.ofString "__firstlineno__") 254, val := Value.int 14 253 }, { hash := PyData.keyHash P (Str.ofString "__static_attributes__"), key := Value.str (Str.ofString "__static_attributes__") 255, val := Value.ref 63 }] 4 } ::
      { cls := Value.type "tuple", data := Data.seq #[] } ::
      { cls := Value.none, data := Data.fields #[] } ::
      { cls := Value.type "code", data := Data.fields #[Value.str (Str.ofString "error_reply") 245, Value.str (Str.ofString "error_reply") 246, Value.str (Str.ofString "/claim/cut.py") 247, Value.int 14 0, Value.int 0 0, Value.int 0 0, Value.int 0 0, Value.int 0 0, Value.ref 59, Value.bool false, Value.int 181 0, Value.ref 60, Value.none, Value.none, Value.none, Value.none, Value.int 248 0, Value.int 14 0, Value.str (Str.ofString "/claim/cut.py") 249] } ::
      { cls := Value.type "frame", slots := #[some (Value.ref 61), some (Value.ref 3), some (Value.ref 58), none, some (Value.str (Str.ofString "cpy313.ftplib") 221), none, some (Value.ref 0)] } ::
      nthO P 28 ::
      nthO P 29 ::
      nthO P 30 ::
      { cls := Value.type "super", data := Data.fields #[Value.ref 65, Value.ref 65, Value.ref 65] } ::
      { cls := Value.type "builtin_function_or_method", data := Data.fields #[Value.builtin "object.__init_subclass__", Value.ref 65] } ::
      nthO P 31 ::
      { cls := Value.type "builtin_function_or_method", data := Data.fields #[Value.builtin "type.__prepare__", Value.type "type"] } ::
      { cls := Value.type "dict", data := Data.dict #[{ hash := PyData.keyHash P (Str.ofString "__module__"), key := Value.str (Str.ofString "__module__") 266, val := Value.str (Str.ofString "cpy313.ftplib") 221 }, { hash := PyData.keyHash P (Str.ofString "__qualname__"), key := Value.str (Str.ofString "__qualname__") 268, val := Value.str (Str.ofString "error_proto") 267 }, { hash := PyData.keyHash P (Str.ofString "__firstlineno__"), key := Value.str (Str.ofString "__firstlineno__") 270, val := Value.int 16 269 }, { hash := PyData.keyHash P (Str.ofString "__static_attributes__"), key := Value.str (Str.ofString "__static_attributes__") 271, val := Value.ref 75 }] 4 } ::
      { cls := Value.type "tuple", data := Data.seq #[] } ::
      { cls := Value.none, data := Data.fields #[] } ::
      { cls := Value.type "code", data := Data.fields #[Value.str (Str.ofString "error_proto") 261, Value.str (Str.ofString "error_proto") 262, Value.str (Str.ofString "/claim/cut.py") 263, Value.int 16 0, Value.int 0 0, Value.int 0 0, Value.int 0 0, Value.int 0 0, Value.ref 71, Value.bool false, Value.int 181 0, Value.ref 72, Value.none, Value.none, Value.none, Value.none, Value.int 264 0, Value.int 16 0, Value.str (Str.ofString "/claim/cut.py") 265] } ::
      { cls := Value.type "frame", slots := #[some (Value.ref 73), some (Value.ref 3), some (Value.ref 70), none, some (Value.str (Str.ofString "cpy313.ftplib") 221), none, some (Value.ref 0)] } ::
      nthO P 32 ::
      nthO P 33 ::
      nthO P 34 ::
      { cls := Value.type "super", data := Data.fields #[Value.ref 77, Value.ref 77, Value.ref 77] } ::
      { cls := Value.type "builtin_function_or_method", data := Data.fields #[Value.builtin "object.__init_subclass__", Value.ref 77] } ::
      nthO P 35 ::
      { cls := Value.none, data := Data.fields #[] } ::
      nthO P 36 ::
      nthO P 37 ::
      { cls := Value.none, data := Data.func { name := Str.ofString "parse229", qualname := Str.ofString "parse229", params := ?qp_9, body := FuncBody.stmts ?qb_9, scope := ?qs_9, globals := 0, closure := [], defaults := Value.none, kwdefaults := Value.none } } ::
      nthO P 38 ::
      nthO P 39 ::
      nthO P 40 ::
      { cls := Value.none, data := Data.fields #[] } ::
      nthO P 41 ::
      nthO P 42 ::
      { cls := Value.none, data := Data.func { name := Str.ofString "parse257", qualname := Str.ofString "parse257", params := ?qp_10, body := FuncBody.stmts ?qb_10, scope := ?qs_10, globals := 0, closure := [], defaults := Value.none, kwdefaults := Value.none } } ::
      nthO P 43 ::
      nthO P 44 ::
      nthO P 45 ::
      { cls := Value.type "dict", data := Data.dict #[{ hash := PyData.keyHash P (Str.ofString "->"), key := Value.str (Str.ofString "->") 435, val := Value.int 51 391 }, { hash := PyData.keyHash P (Str.ofString "."), key := Value.str (Str.ofString ".") 437, val := Value.int 23 335 }, { hash := PyData.keyHash P (Str.ofString "..."), key := Value.str (Str.ofString "...") 439, val := Value.int 52 393 }, { hash := PyData.keyHash P (Str.ofString "/"), key := Value.str (Str.ofString "/") 441, val := Value.int 17 323 }, { hash := PyData.keyHash P (Str.ofString "//"), key := Value.str (Str.ofString "//") 443, val := Value.int 47 383 }, { hash := PyData.keyHash P (Str.ofString "//="), key := Value.str (Str.ofString "//=") 445, val := Value.int 48 385 }, { hash := PyData.keyHash P (Str.ofString "/="), key := Value.str (Str.ofString "/=") 447, val := Value.int 39 367 }, { hash := PyData.keyHash P (Str.ofString ":"), key := Value.str (Str.ofString ":") 449, val := Value.int 11 311 }, { hash := PyData.keyHash P (Str.ofString ":="), key := Value.str (Str.ofString ":=") 451, val := Value.int 53 395 }, { hash := PyData.keyHash P (Str.ofString ";"), key := Value.str (Str.ofString ";") 453, val := Value.int 13 315 }, { hash := PyData.keyHash P (Str.ofString "<"), key := Value.str (Str.ofString "<") 455, val := Value.int 20 329 }, { hash := PyData.keyHash P (Str.ofString "<<"), key := Value.str (Str.ofString "<<") 457, val := Value.int 33 355 }, { hash := PyData.keyHash P (Str.ofString "<<="), key := Value.str (Str.ofString "<<=") 459, val := Value.int 44 377 }, { hash := PyData.keyHash P (Str.ofString "<="), key := Value.str (Str.ofString "<=") 461, val := Value.int 29 347 }, { hash := PyData.keyHash P (Str.ofString "="), key := Value.str (Str.ofString "=") 463, val := Value.int 22 333 }, { hash := PyData.keyHash P (Str.ofString "=="), key := Value.str (Str.ofString "==") 465, val := Value.int 27 343 }, { hash := PyData.keyHash P (Str.ofString ">"), key := Value.str (Str.ofString ">") 467, val := Value.int 21 331 }] 17 } ::
      { cls := Value.type "dict", data := Data.dict #[{ hash := PyData.keyHash P (Str.ofString ">="), key := Value.str (Str.ofString ">=") 469, val := Value.int 30 349 }, { hash := PyData.keyHash P (Str.ofString ">>"), key := Value.str (Str.ofString ">>") 470, val := Value.int 34 357 }, { hash := PyData.keyHash P (Str.ofString ">>="), key := Value.str (Str.ofString ">>=") 471, val := Value.int 45 379 }, { hash := PyData.keyHash P (Str.ofString "@"), key := Value.str (Str.ofString "@") 472, val := Value.int 49 387 }, { hash := PyData.keyHash P (Str.ofString "@="), key := Value.str (Str.ofString "@=") 473, val := Value.int 50 389 }, { hash := PyData.keyHash P (Str.ofString "["), key := Value.str (Str.ofString "[") 474, val := Value.int 9 307 }, { hash := PyData.keyHash P (Str.ofString "]"), key := Value.str (Str.ofString "]") 475, val := Value.int 10 309 }, { hash := PyData.keyHash P (Str.ofString "^"), key := Value.str (Str.ofString "^") 476, val := Value.int 32 353 }, { hash := PyData.keyHash P (Str.ofString "^="), key := Value.str (Str.ofString "^=") 477, val := Value.int 43 375 }, { hash := PyData.keyHash P (Str.ofString "{"), key := Value.str (Str.ofString "{") 478, val := Value.int 25 339 }, { hash := PyData.keyHash P (Str.ofString "|"), key := Value.str (Str.ofString "|") 479, val := Value.int 18 325 }, { hash := PyData.keyHash P (Str.ofString "|="), key := Value.str (Str.ofString "|=") 480, val := Value.int 42 373 }, { hash := PyData.keyHash P (Str.ofString "}"), key := Value.str (Str.ofString "}") 481, val := Value.int 26 341 }, { hash := PyData.keyHash P (Str.ofString "~"), key := Value.str (Str.ofString "~") 482, val := Value.int 31 351 }] 14 } ::
      nthO P 46 ::
      { cls := Value.none, data := Data.fields #[] } ::
      nthO P 47 ::
      nthO P 48 ::
      { cls := Value.none, data := Data.func { name := Str.ofString "ISTERMINAL", qualname := Str.ofString "ISTERMINAL", params := ?qp_63, body := FuncBody.stmts ?qb_63, scope := ?qs_63, globals := 0, closure := [], defaults := Value.none, kwdefaults := Value.none } } ::
      nthO P 49 ::
      nthO P 50 ::
      nthO P 51 ::
      { cls := Value.none, data := Data.fields #[] } ::
      nthO P 52 ::
      nthO P 53 ::
      { cls := Value.none, data := Data.func { name := Str.ofString "ISNONTERMINAL", qualname := Str.ofString "ISNONTERMINAL", params := ?qp_64, body := FuncBody.stmts ?qb_64, scope := ?qs_64, globals := 0, closure := [], defaults := Value.none, kwdefaults := Value.none } } ::
      nthO P 54 ::
      nthO P 55 ::
      nthO P 56 ::
      { cls := Value.none, data := Data.fields #[] } ::
      nthO P 57 ::
      nthO P 58 ::
      { cls := Value.none, data := Data.func { name := Str.ofString "ISEOF", qualname := Str.ofString "ISEOF", params := ?qp_65, body := FuncBody.stmts ?qb_65, scope := ?qs_65, globals := 0, closure := [], defaults := Value.none, kwdefaults := Value.none } } ::
      nthO P 59 ::
      nthO P 60 ::
      nthO P 61 ::
      { cls := Value.none, data := Data.fields #[] } ::
      nthO P 62 ::
      nthO P 63 ::
      { cls := Value.none, data := Data.func { name := Str.ofString "_law_cells", qualname := Str.ofString "_law_cells", params := ?qp_67, body := FuncBody.stmts ?qb_67, scope := ?qs_67, globals := 0, closure := [], defaults := Value.none, kwdefaults := Value.none } } ::
      nthO P 64 ::
      nthO P 65 ::
      nthO P 66 ::
      { cls := Value.none, data := Data.fields #[] } ::
      nthO P 67 ::
      nthO P 68 ::
      { cls := Value.none, data := Data.func { name := Str.ofString "_law_shape", qualname := Str.ofString "_law_shape", params := ?qp_68, body := FuncBody.stmts ?qb_68, scope := ?qs_68, globals := 0, closure := [], defaults := Value.none, kwdefaults := Value.none } } ::
      nthO P 69 ::
      nthO P 70 ::
      nthO P 71 ::
      { cls := Value.none, data := Data.fields #[] } ::
      nthO P 72 ::
      nthO P 73 ::
      { cls := Value.none, data := Data.func { name := Str.ofString "_law_reply", qualname := Str.ofString "_law_reply", params := ?qp_69, body := FuncBody.stmts ?qb_69, scope := ?qs_69, globals := 0, closure := [], defaults := Value.none, kwdefaults := Value.none } } ::
      nthO P 74 ::
      nthO P 75 ::
      nthO P 76 ::
      { cls := Value.none, data := Data.fields #[] } ::
      nthO P 77 ::
      nthO P 78 ::
      { cls := Value.none, data := Data.func { name := Str.ofString "_law_heard", qualname := Str.ofString "_law_heard", params := ?qp_70, body := FuncBody.stmts ?qb_70, scope := ?qs_70, globals := 0, closure := [], defaults := Value.none, kwdefaults := Value.none } } ::
      nthO P 79 ::
      nthO P 80 ::
      nthO P 81 ::
      { cls := Value.none, data := Data.fields #[] } ::
      nthO P 82 ::
      nthO P 83 ::
      { cls := Value.none, data := Data.func { name := Str.ofString "_law_worth", qualname := Str.ofString "_law_worth", params := ?qp_71, body := FuncBody.stmts ?qb_71, scope := ?qs_71, globals := 0, closure := [], defaults := Value.none, kwdefaults := Value.none } } ::
      nthO P 84 ::
      nthO P 85 ::
      nthO P 86 ::
      { cls := Value.none, data := Data.fields #[] } ::
      nthO P 87 ::
      nthO P 88 ::
      { cls := Value.none, data := Data.func { name := Str.ofString "_law_symbols", qualname := Str.ofString "_law_symbols", params := ?qp_72, body := FuncBody.stmts ?qb_72, scope := ?qs_72, globals := 0, closure := [], defaults := Value.none, kwdefaults := Value.none } } ::
      nthO P 89 ::
      nthO P 90 ::
      nthO P 91 ::
      { cls := Value.none, data := Data.fields #[] } ::
      nthO P 92 ::
      nthO P 93 ::
      { cls := Value.none, data := Data.func { name := Str.ofString "_law_times", qualname := Str.ofString "_law_times", params := ?qp_73, body := FuncBody.stmts ?qb_73, scope := ?qs_73, globals := 0, closure := [], defaults := Value.none, kwdefaults := Value.none } } ::
      nthO P 94 ::
      nthO P 95 ::
      nthO P 96 ::
      { cls := Value.none, data := Data.fields #[] } ::
      nthO P 97 ::
      nthO P 98 ::
      { cls := Value.none, data := Data.func { name := Str.ofString "_law_worked", qualname := Str.ofString "_law_worked", params := ?qp_74, body := FuncBody.stmts ?qb_74, scope := ?qs_74, globals := 0, closure := [], defaults := Value.none, kwdefaults := Value.none } } ::
      nthO P 99 ::
      nthO P 100 ::
      nthO P 101 ::
      { cls := Value.none, data := Data.fields #[] } ::
      { cls := Value.none, data := Data.func { name := Str.ofString "_law_turned", qualname := Str.ofString "_law_turned", params := ?qp_75, body := FuncBody.stmts ?qb_75, scope := ?qs_75, globals := 0, closure := [], defaults := Value.none, kwdefaults := Value.none } } ::
      nthO P 102 ::
      nthO P 103 ::
      nthO P 104 ::
      { cls := Value.none, data := Data.fields #[] } ::
      { cls := Value.none, data := Data.func { name := Str.ofString "_law_board", qualname := Str.ofString "_law_board", params := ?qp_76, body := FuncBody.stmts ?qb_76, scope := ?qs_76, globals := 0, closure := [], defaults := Value.none, kwdefaults := Value.none } } ::
      nthO P 105 ::
      nthO P 106 ::
      nthO P 107 ::
      { cls := Value.none, data := Data.fields #[] } ::
      { cls := Value.none, data := Data.func { name := Str.ofString "law", qualname := Str.ofString "law", params := ?qp_77, body := FuncBody.stmts ?qb_77, scope := ?qs_77, globals := 0, closure := [], defaults := Value.none, kwdefaults := Value.none } } ::
      nthO P 108 ::
      nthO P 109 :: [])) {}
theorem go_false : ∀ w : World, (fun os => topRun treeTable PySem.Challenge.rw_yf0019_01.row.prog (World.withFollow w "special-get-raises" false) 11 (some (Value.ref 6)) 5532 ⟨boot_heap (World.withFollow w "special-get-raises" false).params, Array.mk [], boot_drawn, boot_toks, os⟩ (topStub PySem.Challenge.rw_yf0019_01.row.prog)) = fun (os : OsState) => some (Shared.mk (heapF (World.withFollow w "special-get-raises" false).params) (Array.mk []) ⟨0, 0, 0, 0⟩ 627 os) := by
  intro w
  try rw [PySem.W.Fast.te5160383126252970620]
  try rw [PySem.W.R.mapR_eq]
  try rw [PySem.W.Fast.te3399658132070893891]
  try rw [PySem.W.Fast.te5991557255702980513]
  try rw [PySem.W.Fast.te10880121769531294198]
  try rw [PySem.W.Fast.te821141287760084731]
  try rw [PySem.W.Fast.te7409074990110511671]
  try rw [PySem.W.Fast.te13664370479719496447]
  try rw [PySem.W.Fast.te14722251495701143533]
  try rw [PySem.W.Fast.te5923862056798008813]
  try rw [PySem.W.Fast.te2368527892694137696]
  try rw [PySem.W.Fast.te10994771534591457954]
  try rw [PySem.W.Fast.te479339242167458305]
  try rw [PySem.W.Fast.te16090120013241838585]
  try rw [PySem.W.Fast.te3247288618530077131]
  try rw [PySem.W.Fast.te2386780881361962483]
  try rw [PySem.W.Fast.te11698064438423848299]
  try rw [PySem.W.Fast.te7317090234206586261]
  try rw [PySem.W.Fast.te7369524293546568484]
  try rw [PySem.W.Fast.te14082659384304107361]
  try rw [PySem.W.Fast.te14364793385576792824]
  try rw [PySem.W.Fast.te8920871248978507458]
  kernel_rfl
theorem go_true : ∀ w : World, (fun os => topRun treeTable PySem.Challenge.rw_yf0019_01.row.prog (World.withFollow w "special-get-raises" true) 11 (some (Value.ref 6)) 5532 ⟨boot_heap (World.withFollow w "special-get-raises" true).params, Array.mk [], boot_drawn, boot_toks, os⟩ (topStub PySem.Challenge.rw_yf0019_01.row.prog)) = fun (os : OsState) => some (Shared.mk (heapF (World.withFollow w "special-get-raises" true).params) (Array.mk []) ⟨0, 0, 0, 0⟩ 627 os) := by
  intro w
  try rw [PySem.W.Fast.te5160383126252970620]
  try rw [PySem.W.R.mapR_eq]
  try rw [PySem.W.Fast.te3399658132070893891]
  try rw [PySem.W.Fast.te5991557255702980513]
  try rw [PySem.W.Fast.te10880121769531294198]
  try rw [PySem.W.Fast.te821141287760084731]
  try rw [PySem.W.Fast.te7409074990110511671]
  try rw [PySem.W.Fast.te13664370479719496447]
  try rw [PySem.W.Fast.te14722251495701143533]
  try rw [PySem.W.Fast.te5923862056798008813]
  try rw [PySem.W.Fast.te2368527892694137696]
  try rw [PySem.W.Fast.te10994771534591457954]
  try rw [PySem.W.Fast.te479339242167458305]
  try rw [PySem.W.Fast.te16090120013241838585]
  try rw [PySem.W.Fast.te3247288618530077131]
  try rw [PySem.W.Fast.te2386780881361962483]
  try rw [PySem.W.Fast.te11698064438423848299]
  try rw [PySem.W.Fast.te7317090234206586261]
  try rw [PySem.W.Fast.te7369524293546568484]
  try rw [PySem.W.Fast.te14082659384304107361]
  try rw [PySem.W.Fast.te14364793385576792824]
  try rw [PySem.W.Fast.te8920871248978507458]
  kernel_rfl
theorem go_top9 (w : World) (os : OsState) : topRun treeTable PySem.Challenge.rw_yf0019_01.row.prog w 11 (some (Value.ref 6)) 5532 ⟨boot_heap w.params, Array.mk [], boot_drawn, boot_toks, os⟩ (topStub PySem.Challenge.rw_yf0019_01.row.prog) = some (Shared.mk (heapF w.params) (Array.mk []) ⟨0, 0, 0, 0⟩ 627 os) := by
  have e0 := World.withFollow_self w "special-get-raises"
  cases hb : w.params.followText "special-get-raises" with
  | false =>
    rw [hb] at e0
    have h := congrFun (go_false w) os
    rw [e0] at h
    exact h
  | true =>
    rw [hb] at e0
    have h := congrFun (go_true w) os
    rw [e0] at h
    exact h
theorem look_k1 (w : World) (os : OsState) : staticsOk (importedModules PySem.Challenge.rw_yf0019_01.row.prog.main.body) (boot_heap w.params) (heapF w.params) = true := by
  try rw [PySem.W.Fast.te5160383126252970620]
  try rw [PySem.W.R.mapR_eq]
  try rw [PySem.W.Fast.te3399658132070893891]
  try rw [PySem.W.Fast.te5991557255702980513]
  try rw [PySem.W.Fast.te10880121769531294198]
  try rw [PySem.W.Fast.te821141287760084731]
  try rw [PySem.W.Fast.te7409074990110511671]
  try rw [PySem.W.Fast.te13664370479719496447]
  try rw [PySem.W.Fast.te14722251495701143533]
  try rw [PySem.W.Fast.te5923862056798008813]
  try rw [PySem.W.Fast.te2368527892694137696]
  try rw [PySem.W.Fast.te10994771534591457954]
  try rw [PySem.W.Fast.te479339242167458305]
  try rw [PySem.W.Fast.te16090120013241838585]
  try rw [PySem.W.Fast.te3247288618530077131]
  try rw [PySem.W.Fast.te2386780881361962483]
  try rw [PySem.W.Fast.te11698064438423848299]
  try rw [PySem.W.Fast.te7317090234206586261]
  try rw [PySem.W.Fast.te7369524293546568484]
  try rw [PySem.W.Fast.te14082659384304107361]
  try rw [PySem.W.Fast.te14364793385576792824]
  try rw [PySem.W.Fast.te8920871248978507458]
  kernel_rfl
theorem look_k2 (w : World) (os : OsState) : namesBound PySem.Challenge.rw_yf0019_01.row.prog (heapF w.params) = true := by
  try rw [PySem.W.Fast.te5160383126252970620]
  try rw [PySem.W.R.mapR_eq]
  try rw [PySem.W.Fast.te3399658132070893891]
  try rw [PySem.W.Fast.te5991557255702980513]
  try rw [PySem.W.Fast.te10880121769531294198]
  try rw [PySem.W.Fast.te821141287760084731]
  try rw [PySem.W.Fast.te7409074990110511671]
  try rw [PySem.W.Fast.te13664370479719496447]
  try rw [PySem.W.Fast.te14722251495701143533]
  try rw [PySem.W.Fast.te5923862056798008813]
  try rw [PySem.W.Fast.te2368527892694137696]
  try rw [PySem.W.Fast.te10994771534591457954]
  try rw [PySem.W.Fast.te479339242167458305]
  try rw [PySem.W.Fast.te16090120013241838585]
  try rw [PySem.W.Fast.te3247288618530077131]
  try rw [PySem.W.Fast.te2386780881361962483]
  try rw [PySem.W.Fast.te11698064438423848299]
  try rw [PySem.W.Fast.te7317090234206586261]
  try rw [PySem.W.Fast.te7369524293546568484]
  try rw [PySem.W.Fast.te14082659384304107361]
  try rw [PySem.W.Fast.te14364793385576792824]
  try rw [PySem.W.Fast.te8920871248978507458]
  kernel_rfl
theorem look_k3 (w : World) (os : OsState) : gensDone (Shared.mk (heapF w.params) (Array.mk []) ⟨0, 0, 0, 0⟩ 627 os) = true := by
  try rw [PySem.W.Fast.te5160383126252970620]
  try rw [PySem.W.R.mapR_eq]
  try rw [PySem.W.Fast.te3399658132070893891]
  try rw [PySem.W.Fast.te5991557255702980513]
  try rw [PySem.W.Fast.te10880121769531294198]
  try rw [PySem.W.Fast.te821141287760084731]
  try rw [PySem.W.Fast.te7409074990110511671]
  try rw [PySem.W.Fast.te13664370479719496447]
  try rw [PySem.W.Fast.te14722251495701143533]
  try rw [PySem.W.Fast.te5923862056798008813]
  try rw [PySem.W.Fast.te2368527892694137696]
  try rw [PySem.W.Fast.te10994771534591457954]
  try rw [PySem.W.Fast.te479339242167458305]
  try rw [PySem.W.Fast.te16090120013241838585]
  try rw [PySem.W.Fast.te3247288618530077131]
  try rw [PySem.W.Fast.te2386780881361962483]
  try rw [PySem.W.Fast.te11698064438423848299]
  try rw [PySem.W.Fast.te7317090234206586261]
  try rw [PySem.W.Fast.te7369524293546568484]
  try rw [PySem.W.Fast.te14082659384304107361]
  try rw [PySem.W.Fast.te14364793385576792824]
  try rw [PySem.W.Fast.te8920871248978507458]
  kernel_rfl
theorem look_k4 (w : World) (os : OsState) : laidKept (boot_heap w.params) (heapF w.params) = true := by
  try rw [PySem.W.Fast.te5160383126252970620]
  try rw [PySem.W.R.mapR_eq]
  try rw [PySem.W.Fast.te3399658132070893891]
  try rw [PySem.W.Fast.te5991557255702980513]
  try rw [PySem.W.Fast.te10880121769531294198]
  try rw [PySem.W.Fast.te821141287760084731]
  try rw [PySem.W.Fast.te7409074990110511671]
  try rw [PySem.W.Fast.te13664370479719496447]
  try rw [PySem.W.Fast.te14722251495701143533]
  try rw [PySem.W.Fast.te5923862056798008813]
  try rw [PySem.W.Fast.te2368527892694137696]
  try rw [PySem.W.Fast.te10994771534591457954]
  try rw [PySem.W.Fast.te479339242167458305]
  try rw [PySem.W.Fast.te16090120013241838585]
  try rw [PySem.W.Fast.te3247288618530077131]
  try rw [PySem.W.Fast.te2386780881361962483]
  try rw [PySem.W.Fast.te11698064438423848299]
  try rw [PySem.W.Fast.te7317090234206586261]
  try rw [PySem.W.Fast.te7369524293546568484]
  try rw [PySem.W.Fast.te14082659384304107361]
  try rw [PySem.W.Fast.te14364793385576792824]
  try rw [PySem.W.Fast.te8920871248978507458]
  kernel_rfl
theorem look_c1 (w : World) (os : OsState) : seen ((recsOf hd.view_39).map (·.name)) (ownsOf hd.view_39) [] (Shared.mk (heapF w.params) (Array.mk []) ⟨0, 0, 0, 0⟩ 627 os) = expectedOf hd.view_39 := by
  try rw [PySem.W.Fast.te5160383126252970620]
  try rw [PySem.W.R.mapR_eq]
  try rw [PySem.W.Fast.te3399658132070893891]
  try rw [PySem.W.Fast.te5991557255702980513]
  try rw [PySem.W.Fast.te10880121769531294198]
  try rw [PySem.W.Fast.te821141287760084731]
  try rw [PySem.W.Fast.te7409074990110511671]
  try rw [PySem.W.Fast.te13664370479719496447]
  try rw [PySem.W.Fast.te14722251495701143533]
  try rw [PySem.W.Fast.te5923862056798008813]
  try rw [PySem.W.Fast.te2368527892694137696]
  try rw [PySem.W.Fast.te10994771534591457954]
  try rw [PySem.W.Fast.te479339242167458305]
  try rw [PySem.W.Fast.te16090120013241838585]
  try rw [PySem.W.Fast.te3247288618530077131]
  try rw [PySem.W.Fast.te2386780881361962483]
  try rw [PySem.W.Fast.te11698064438423848299]
  try rw [PySem.W.Fast.te7317090234206586261]
  try rw [PySem.W.Fast.te7369524293546568484]
  try rw [PySem.W.Fast.te14082659384304107361]
  try rw [PySem.W.Fast.te14364793385576792824]
  try rw [PySem.W.Fast.te8920871248978507458]
  kernel_rfl
theorem look_c2 (w : World) (os : OsState) : (heapF w.params).bltView = bltViewBooted := by
  try rw [PySem.W.Fast.te5160383126252970620]
  try rw [PySem.W.R.mapR_eq]
  try rw [PySem.W.Fast.te3399658132070893891]
  try rw [PySem.W.Fast.te5991557255702980513]
  try rw [PySem.W.Fast.te10880121769531294198]
  try rw [PySem.W.Fast.te821141287760084731]
  try rw [PySem.W.Fast.te7409074990110511671]
  try rw [PySem.W.Fast.te13664370479719496447]
  try rw [PySem.W.Fast.te14722251495701143533]
  try rw [PySem.W.Fast.te5923862056798008813]
  try rw [PySem.W.Fast.te2368527892694137696]
  try rw [PySem.W.Fast.te10994771534591457954]
  try rw [PySem.W.Fast.te479339242167458305]
  try rw [PySem.W.Fast.te16090120013241838585]
  try rw [PySem.W.Fast.te3247288618530077131]
  try rw [PySem.W.Fast.te2386780881361962483]
  try rw [PySem.W.Fast.te11698064438423848299]
  try rw [PySem.W.Fast.te7317090234206586261]
  try rw [PySem.W.Fast.te7369524293546568484]
  try rw [PySem.W.Fast.te14082659384304107361]
  try rw [PySem.W.Fast.te14364793385576792824]
  try rw [PySem.W.Fast.te8920871248978507458]
  kernel_rfl
theorem look_d1 (w : World) (os : OsState) : (heapF w.params).keysOk (looseW hd.view_39 [Str.ofString "EXACT_TOKEN_TYPES"]) ((recsOf hd.view_39).map (·.name)) ((litsOf hd.view_39).map (·.1)) ((clssOf hd.view_39 (looseW hd.view_39 [Str.ofString "EXACT_TOKEN_TYPES"])).map (·.name)) = true := by
  try rw [PySem.W.Fast.te5160383126252970620]
  try rw [PySem.W.R.mapR_eq]
  try rw [PySem.W.Fast.te3399658132070893891]
  try rw [PySem.W.Fast.te5991557255702980513]
  try rw [PySem.W.Fast.te10880121769531294198]
  try rw [PySem.W.Fast.te821141287760084731]
  try rw [PySem.W.Fast.te7409074990110511671]
  try rw [PySem.W.Fast.te13664370479719496447]
  try rw [PySem.W.Fast.te14722251495701143533]
  try rw [PySem.W.Fast.te5923862056798008813]
  try rw [PySem.W.Fast.te2368527892694137696]
  try rw [PySem.W.Fast.te10994771534591457954]
  try rw [PySem.W.Fast.te479339242167458305]
  try rw [PySem.W.Fast.te16090120013241838585]
  try rw [PySem.W.Fast.te3247288618530077131]
  try rw [PySem.W.Fast.te2386780881361962483]
  try rw [PySem.W.Fast.te11698064438423848299]
  try rw [PySem.W.Fast.te7317090234206586261]
  try rw [PySem.W.Fast.te7369524293546568484]
  try rw [PySem.W.Fast.te14082659384304107361]
  try rw [PySem.W.Fast.te14364793385576792824]
  try rw [PySem.W.Fast.te8920871248978507458]
  kernel_rfl
theorem look_d2 (w : World) (os : OsState) : (heapF w.params).accountedOkI (importedModules PySem.Challenge.rw_yf0019_01.row.prog.main.body) = true := by
  try rw [PySem.W.Fast.te5160383126252970620]
  try rw [PySem.W.R.mapR_eq]
  try rw [PySem.W.Fast.te3399658132070893891]
  try rw [PySem.W.Fast.te5991557255702980513]
  try rw [PySem.W.Fast.te10880121769531294198]
  try rw [PySem.W.Fast.te821141287760084731]
  try rw [PySem.W.Fast.te7409074990110511671]
  try rw [PySem.W.Fast.te13664370479719496447]
  try rw [PySem.W.Fast.te14722251495701143533]
  try rw [PySem.W.Fast.te5923862056798008813]
  try rw [PySem.W.Fast.te2368527892694137696]
  try rw [PySem.W.Fast.te10994771534591457954]
  try rw [PySem.W.Fast.te479339242167458305]
  try rw [PySem.W.Fast.te16090120013241838585]
  try rw [PySem.W.Fast.te3247288618530077131]
  try rw [PySem.W.Fast.te2386780881361962483]
  try rw [PySem.W.Fast.te11698064438423848299]
  try rw [PySem.W.Fast.te7317090234206586261]
  try rw [PySem.W.Fast.te7369524293546568484]
  try rw [PySem.W.Fast.te14082659384304107361]
  try rw [PySem.W.Fast.te14364793385576792824]
  try rw [PySem.W.Fast.te8920871248978507458]
  kernel_rfl
theorem look_d3 (w : World) (os : OsState) : (heapF w.params).isNs mainGlobals = true := by
  try rw [PySem.W.Fast.te5160383126252970620]
  try rw [PySem.W.R.mapR_eq]
  try rw [PySem.W.Fast.te3399658132070893891]
  try rw [PySem.W.Fast.te5991557255702980513]
  try rw [PySem.W.Fast.te10880121769531294198]
  try rw [PySem.W.Fast.te821141287760084731]
  try rw [PySem.W.Fast.te7409074990110511671]
  try rw [PySem.W.Fast.te13664370479719496447]
  try rw [PySem.W.Fast.te14722251495701143533]
  try rw [PySem.W.Fast.te5923862056798008813]
  try rw [PySem.W.Fast.te2368527892694137696]
  try rw [PySem.W.Fast.te10994771534591457954]
  try rw [PySem.W.Fast.te479339242167458305]
  try rw [PySem.W.Fast.te16090120013241838585]
  try rw [PySem.W.Fast.te3247288618530077131]
  try rw [PySem.W.Fast.te2386780881361962483]
  try rw [PySem.W.Fast.te11698064438423848299]
  try rw [PySem.W.Fast.te7317090234206586261]
  try rw [PySem.W.Fast.te7369524293546568484]
  try rw [PySem.W.Fast.te14082659384304107361]
  try rw [PySem.W.Fast.te14364793385576792824]
  try rw [PySem.W.Fast.te8920871248978507458]
  kernel_rfl
theorem look_d4 (w : World) (os : OsState) : (heapF w.params).isNs builtinsNs = true := by
  try rw [PySem.W.Fast.te5160383126252970620]
  try rw [PySem.W.R.mapR_eq]
  try rw [PySem.W.Fast.te3399658132070893891]
  try rw [PySem.W.Fast.te5991557255702980513]
  try rw [PySem.W.Fast.te10880121769531294198]
  try rw [PySem.W.Fast.te821141287760084731]
  try rw [PySem.W.Fast.te7409074990110511671]
  try rw [PySem.W.Fast.te13664370479719496447]
  try rw [PySem.W.Fast.te14722251495701143533]
  try rw [PySem.W.Fast.te5923862056798008813]
  try rw [PySem.W.Fast.te2368527892694137696]
  try rw [PySem.W.Fast.te10994771534591457954]
  try rw [PySem.W.Fast.te479339242167458305]
  try rw [PySem.W.Fast.te16090120013241838585]
  try rw [PySem.W.Fast.te3247288618530077131]
  try rw [PySem.W.Fast.te2386780881361962483]
  try rw [PySem.W.Fast.te11698064438423848299]
  try rw [PySem.W.Fast.te7317090234206586261]
  try rw [PySem.W.Fast.te7369524293546568484]
  try rw [PySem.W.Fast.te14082659384304107361]
  try rw [PySem.W.Fast.te14364793385576792824]
  try rw [PySem.W.Fast.te8920871248978507458]
  kernel_rfl
theorem look_d5 (w : World) (os : OsState) : tablesOk hd.view_39 (heapF w.params) = true := by
  try rw [PySem.W.Fast.te5160383126252970620]
  try rw [PySem.W.R.mapR_eq]
  try rw [PySem.W.Fast.te3399658132070893891]
  try rw [PySem.W.Fast.te5991557255702980513]
  try rw [PySem.W.Fast.te10880121769531294198]
  try rw [PySem.W.Fast.te821141287760084731]
  try rw [PySem.W.Fast.te7409074990110511671]
  try rw [PySem.W.Fast.te13664370479719496447]
  try rw [PySem.W.Fast.te14722251495701143533]
  try rw [PySem.W.Fast.te5923862056798008813]
  try rw [PySem.W.Fast.te2368527892694137696]
  try rw [PySem.W.Fast.te10994771534591457954]
  try rw [PySem.W.Fast.te479339242167458305]
  try rw [PySem.W.Fast.te16090120013241838585]
  try rw [PySem.W.Fast.te3247288618530077131]
  try rw [PySem.W.Fast.te2386780881361962483]
  try rw [PySem.W.Fast.te11698064438423848299]
  try rw [PySem.W.Fast.te7317090234206586261]
  try rw [PySem.W.Fast.te7369524293546568484]
  try rw [PySem.W.Fast.te14082659384304107361]
  try rw [PySem.W.Fast.te14364793385576792824]
  try rw [PySem.W.Fast.te8920871248978507458]
  kernel_rfl
theorem look_d6 (w : World) (os : OsState) : (xlAt hd.view_39 [] (Shared.mk (heapF w.params) (Array.mk []) ⟨0, 0, 0, 0⟩ 627 os) && recOk (RowW.records PySem.Challenge.rw_yf0019_01.row.toRowW) (Shared.mk (heapF w.params) (Array.mk []) ⟨0, 0, 0, 0⟩ 627 os)) = true := by
  try rw [PySem.W.Fast.te5160383126252970620]
  try rw [PySem.W.R.mapR_eq]
  try rw [PySem.W.Fast.te3399658132070893891]
  try rw [PySem.W.Fast.te5991557255702980513]
  try rw [PySem.W.Fast.te10880121769531294198]
  try rw [PySem.W.Fast.te821141287760084731]
  try rw [PySem.W.Fast.te7409074990110511671]
  try rw [PySem.W.Fast.te13664370479719496447]
  try rw [PySem.W.Fast.te14722251495701143533]
  try rw [PySem.W.Fast.te5923862056798008813]
  try rw [PySem.W.Fast.te2368527892694137696]
  try rw [PySem.W.Fast.te10994771534591457954]
  try rw [PySem.W.Fast.te479339242167458305]
  try rw [PySem.W.Fast.te16090120013241838585]
  try rw [PySem.W.Fast.te3247288618530077131]
  try rw [PySem.W.Fast.te2386780881361962483]
  try rw [PySem.W.Fast.te11698064438423848299]
  try rw [PySem.W.Fast.te7317090234206586261]
  try rw [PySem.W.Fast.te7369524293546568484]
  try rw [PySem.W.Fast.te14082659384304107361]
  try rw [PySem.W.Fast.te14364793385576792824]
  try rw [PySem.W.Fast.te8920871248978507458]
  kernel_rfl
theorem look_c4 (w : World) (os : OsState) : tabsOk hd.view_39 (Shared.mk (heapF w.params) (Array.mk []) ⟨0, 0, 0, 0⟩ 627 os) = true := by
  try rw [PySem.W.Fast.te5160383126252970620]
  try rw [PySem.W.R.mapR_eq]
  try rw [PySem.W.Fast.te3399658132070893891]
  try rw [PySem.W.Fast.te5991557255702980513]
  try rw [PySem.W.Fast.te10880121769531294198]
  try rw [PySem.W.Fast.te821141287760084731]
  try rw [PySem.W.Fast.te7409074990110511671]
  try rw [PySem.W.Fast.te13664370479719496447]
  try rw [PySem.W.Fast.te14722251495701143533]
  try rw [PySem.W.Fast.te5923862056798008813]
  try rw [PySem.W.Fast.te2368527892694137696]
  try rw [PySem.W.Fast.te10994771534591457954]
  try rw [PySem.W.Fast.te479339242167458305]
  try rw [PySem.W.Fast.te16090120013241838585]
  try rw [PySem.W.Fast.te3247288618530077131]
  try rw [PySem.W.Fast.te2386780881361962483]
  try rw [PySem.W.Fast.te11698064438423848299]
  try rw [PySem.W.Fast.te7317090234206586261]
  try rw [PySem.W.Fast.te7369524293546568484]
  try rw [PySem.W.Fast.te14082659384304107361]
  try rw [PySem.W.Fast.te14364793385576792824]
  try rw [PySem.W.Fast.te8920871248978507458]
  kernel_rfl
theorem look_c5 (w : World) (os : OsState) : pinSeenD hd.view_39 (drecsOf hd.view_39) (Shared.mk (heapF w.params) (Array.mk []) ⟨0, 0, 0, 0⟩ 627 os) = pinGoodD (drecsOf hd.view_39) := by
  try rw [PySem.W.Fast.te5160383126252970620]
  try rw [PySem.W.R.mapR_eq]
  try rw [PySem.W.Fast.te3399658132070893891]
  try rw [PySem.W.Fast.te5991557255702980513]
  try rw [PySem.W.Fast.te10880121769531294198]
  try rw [PySem.W.Fast.te821141287760084731]
  try rw [PySem.W.Fast.te7409074990110511671]
  try rw [PySem.W.Fast.te13664370479719496447]
  try rw [PySem.W.Fast.te14722251495701143533]
  try rw [PySem.W.Fast.te5923862056798008813]
  try rw [PySem.W.Fast.te2368527892694137696]
  try rw [PySem.W.Fast.te10994771534591457954]
  try rw [PySem.W.Fast.te479339242167458305]
  try rw [PySem.W.Fast.te16090120013241838585]
  try rw [PySem.W.Fast.te3247288618530077131]
  try rw [PySem.W.Fast.te2386780881361962483]
  try rw [PySem.W.Fast.te11698064438423848299]
  try rw [PySem.W.Fast.te7317090234206586261]
  try rw [PySem.W.Fast.te7369524293546568484]
  try rw [PySem.W.Fast.te14082659384304107361]
  try rw [PySem.W.Fast.te14364793385576792824]
  try rw [PySem.W.Fast.te8920871248978507458]
  kernel_rfl
theorem look_c6 (w : World) (os : OsState) : plainSeenE hd.view_39 (looseW hd.view_39 [Str.ofString "EXACT_TOKEN_TYPES"]) (Shared.mk (heapF w.params) (Array.mk []) ⟨0, 0, 0, 0⟩ 627 os) = plainGoodE hd.view_39 (looseW hd.view_39 [Str.ofString "EXACT_TOKEN_TYPES"]) := by
  try rw [PySem.W.Fast.te5160383126252970620]
  try rw [PySem.W.R.mapR_eq]
  try rw [PySem.W.Fast.te3399658132070893891]
  try rw [PySem.W.Fast.te5991557255702980513]
  try rw [PySem.W.Fast.te10880121769531294198]
  try rw [PySem.W.Fast.te821141287760084731]
  try rw [PySem.W.Fast.te7409074990110511671]
  try rw [PySem.W.Fast.te13664370479719496447]
  try rw [PySem.W.Fast.te14722251495701143533]
  try rw [PySem.W.Fast.te5923862056798008813]
  try rw [PySem.W.Fast.te2368527892694137696]
  try rw [PySem.W.Fast.te10994771534591457954]
  try rw [PySem.W.Fast.te479339242167458305]
  try rw [PySem.W.Fast.te16090120013241838585]
  try rw [PySem.W.Fast.te3247288618530077131]
  try rw [PySem.W.Fast.te2386780881361962483]
  try rw [PySem.W.Fast.te11698064438423848299]
  try rw [PySem.W.Fast.te7317090234206586261]
  try rw [PySem.W.Fast.te7369524293546568484]
  try rw [PySem.W.Fast.te14082659384304107361]
  try rw [PySem.W.Fast.te14364793385576792824]
  try rw [PySem.W.Fast.te8920871248978507458]
  kernel_rfl
theorem look_c7 (w : World) (os : OsState) : plainSeenD hd.view_39 [Str.ofString "EXACT_TOKEN_TYPES"] (Shared.mk (heapF w.params) (Array.mk []) ⟨0, 0, 0, 0⟩ 627 os) = plainGoodD hd.view_39 [Str.ofString "EXACT_TOKEN_TYPES"] := by
  try rw [PySem.W.Fast.te5160383126252970620]
  try rw [PySem.W.R.mapR_eq]
  try rw [PySem.W.Fast.te3399658132070893891]
  try rw [PySem.W.Fast.te5991557255702980513]
  try rw [PySem.W.Fast.te10880121769531294198]
  try rw [PySem.W.Fast.te821141287760084731]
  try rw [PySem.W.Fast.te7409074990110511671]
  try rw [PySem.W.Fast.te13664370479719496447]
  try rw [PySem.W.Fast.te14722251495701143533]
  try rw [PySem.W.Fast.te5923862056798008813]
  try rw [PySem.W.Fast.te2368527892694137696]
  try rw [PySem.W.Fast.te10994771534591457954]
  try rw [PySem.W.Fast.te479339242167458305]
  try rw [PySem.W.Fast.te16090120013241838585]
  try rw [PySem.W.Fast.te3247288618530077131]
  try rw [PySem.W.Fast.te2386780881361962483]
  try rw [PySem.W.Fast.te11698064438423848299]
  try rw [PySem.W.Fast.te7317090234206586261]
  try rw [PySem.W.Fast.te7369524293546568484]
  try rw [PySem.W.Fast.te14082659384304107361]
  try rw [PySem.W.Fast.te14364793385576792824]
  try rw [PySem.W.Fast.te8920871248978507458]
  kernel_rfl
theorem look_c8 (w : World) (os : OsState) : wideSeen hd.view_39 (Shared.mk (heapF w.params) (Array.mk []) ⟨0, 0, 0, 0⟩ 627 os) = wideGood hd.view_39 := by
  try rw [PySem.W.Fast.te5160383126252970620]
  try rw [PySem.W.R.mapR_eq]
  try rw [PySem.W.Fast.te3399658132070893891]
  try rw [PySem.W.Fast.te5991557255702980513]
  try rw [PySem.W.Fast.te10880121769531294198]
  try rw [PySem.W.Fast.te821141287760084731]
  try rw [PySem.W.Fast.te7409074990110511671]
  try rw [PySem.W.Fast.te13664370479719496447]
  try rw [PySem.W.Fast.te14722251495701143533]
  try rw [PySem.W.Fast.te5923862056798008813]
  try rw [PySem.W.Fast.te2368527892694137696]
  try rw [PySem.W.Fast.te10994771534591457954]
  try rw [PySem.W.Fast.te479339242167458305]
  try rw [PySem.W.Fast.te16090120013241838585]
  try rw [PySem.W.Fast.te3247288618530077131]
  try rw [PySem.W.Fast.te2386780881361962483]
  try rw [PySem.W.Fast.te11698064438423848299]
  try rw [PySem.W.Fast.te7317090234206586261]
  try rw [PySem.W.Fast.te7369524293546568484]
  try rw [PySem.W.Fast.te14082659384304107361]
  try rw [PySem.W.Fast.te14364793385576792824]
  try rw [PySem.W.Fast.te8920871248978507458]
  kernel_rfl
theorem look_c9 (w : World) (os : OsState) : clsSeenW hd.view_39 [Str.ofString "EXACT_TOKEN_TYPES"] (Shared.mk (heapF w.params) (Array.mk []) ⟨0, 0, 0, 0⟩ 627 os) = clsGoodW hd.view_39 [Str.ofString "EXACT_TOKEN_TYPES"] := by
  try rw [PySem.W.Fast.te5160383126252970620]
  try rw [PySem.W.R.mapR_eq]
  try rw [PySem.W.Fast.te3399658132070893891]
  try rw [PySem.W.Fast.te5991557255702980513]
  try rw [PySem.W.Fast.te10880121769531294198]
  try rw [PySem.W.Fast.te821141287760084731]
  try rw [PySem.W.Fast.te7409074990110511671]
  try rw [PySem.W.Fast.te13664370479719496447]
  try rw [PySem.W.Fast.te14722251495701143533]
  try rw [PySem.W.Fast.te5923862056798008813]
  try rw [PySem.W.Fast.te2368527892694137696]
  try rw [PySem.W.Fast.te10994771534591457954]
  try rw [PySem.W.Fast.te479339242167458305]
  try rw [PySem.W.Fast.te16090120013241838585]
  try rw [PySem.W.Fast.te3247288618530077131]
  try rw [PySem.W.Fast.te2386780881361962483]
  try rw [PySem.W.Fast.te11698064438423848299]
  try rw [PySem.W.Fast.te7317090234206586261]
  try rw [PySem.W.Fast.te7369524293546568484]
  try rw [PySem.W.Fast.te14082659384304107361]
  try rw [PySem.W.Fast.te14364793385576792824]
  try rw [PySem.W.Fast.te8920871248978507458]
  kernel_rfl
theorem look_y1 (w : World) (os : OsState) : keysAt.map (heapF w.params).get? = (hd.heap_39 w.params).map fun p => some p.2 := by
  try rw [PySem.W.Fast.te5160383126252970620]
  try rw [PySem.W.R.mapR_eq]
  try rw [PySem.W.Fast.te3399658132070893891]
  try rw [PySem.W.Fast.te5991557255702980513]
  try rw [PySem.W.Fast.te10880121769531294198]
  try rw [PySem.W.Fast.te821141287760084731]
  try rw [PySem.W.Fast.te7409074990110511671]
  try rw [PySem.W.Fast.te13664370479719496447]
  try rw [PySem.W.Fast.te14722251495701143533]
  try rw [PySem.W.Fast.te5923862056798008813]
  try rw [PySem.W.Fast.te2368527892694137696]
  try rw [PySem.W.Fast.te10994771534591457954]
  try rw [PySem.W.Fast.te479339242167458305]
  try rw [PySem.W.Fast.te16090120013241838585]
  try rw [PySem.W.Fast.te3247288618530077131]
  try rw [PySem.W.Fast.te2386780881361962483]
  try rw [PySem.W.Fast.te11698064438423848299]
  try rw [PySem.W.Fast.te7317090234206586261]
  try rw [PySem.W.Fast.te7369524293546568484]
  try rw [PySem.W.Fast.te14082659384304107361]
  try rw [PySem.W.Fast.te14364793385576792824]
  try rw [PySem.W.Fast.te8920871248978507458]
  kernel_rfl
theorem size9 (w : World) : ((boot_heap w.params).isNs mainGlobals && (Array.mk [] : Array GenState).size == 0, (boot_heap w.params).objs.size, (boot_heap w.params).nsMap mainGlobals "__annotations__") = (true, 11, some (Value.ref 6)) := by kernel_rfl
theorem an9 {a b : Bool} (x : a = true) (y : b = true) : (a && b) = true := by rw [x, y]; rfl
theorem left_ok : LeftO PySem.Challenge.rw_yf0019_01.row.prog hd.view_39 [Str.ofString "EXACT_TOKEN_TYPES"] (fun s => xlAt hd.view_39 [] s && recOk (RowW.records PySem.Challenge.rw_yf0019_01.row.toRowW) s) (fun s => keysAt.map s.heap.get?) (fun w => (hd.heap_39 w.params).map fun p => some p.2) 5532 :=
  LeftO.of_pieces (H₀ := boot_heap) (H₁ := heapF) (gs₀ := Array.mk []) (gs₁ := Array.mk []) (d₀ := boot_drawn) (d₁ := ⟨0, 0, 0, 0⟩) (k₀ := boot_toks) (k₁ := 627) (m₀ := 11) (ann := some (Value.ref 6)) (M := 5532)
    (boot_open (by kernel_rfl) (by decide) (fun s => by kernel_rfl)) size9 go_top9 (by decide)
    fun w => funext fun os => looks_pair (an9 (an9 (an9 (look_k1 w os) (look_k2 w os)) (look_k3 w os)) (look_k4 w os))
      (looks_pair (looks_pair (look_c1 w os) (looks_pair (look_c2 w os) (looks_pair (an9 (an9 (an9 (an9 (an9 (an9 (look_d1 w os) (look_d2 w os)) (look_d3 w os)) (look_d4 w os)) (look_d5 w os)) (look_d6 w os)) rfl)
        (looks_pair (look_c4 w os) (looks_pair (look_c5 w os) (looks_pair (look_c6 w os) (looks_pair (look_c7 w os) (looks_pair (look_c8 w os) (look_c9 w os))))))))) (look_y1 w os))
theorem law_said : PySem.Challenge.rw_yf0019_01.wellSaid = true := by
  delta OpenLaw.wellSaid
  repeat (refine Bool.and_eq_true_iff.mpr ⟨?_, by decide +kernel⟩)
  decide +kernel
theorem head_said : (chainsOk hd.view_39 && opensWell PySem.Challenge.rw_yf0019_01.row.prog && (frees PySem.Challenge.rw_yf0019_01.row.toRowW && PySem.Challenge.rw_yf0019_01.row.within.isEmpty)) = true := by decide +kernel

-- part Base
section
theorem top_off_Base : True := by
  w_top off
  exact True.intro
noncomputable def CS (w : World) (K : Frag) (f : Addr) (d : Nat) (vs : List Value) (news : List (Addr × Obj)) (post : Value → List (Addr × Obj) → Prop) : Prop :=
  ∀ (mean : ExcName → Option Value) (mg mb : Str → Option Value) (dp un : Nat) (gd : Option (List Code)) (cn : Str) (cs : Scope) (a : Addr) (ccd : Value) (cl : List (Str × Addr)) (outer : List Env) (A₀ : Around) (base h₀ : Heap) (L : Addr) (m : Str → Option Value) (s : Shared) (Q E : Value → Shared → Prop),
    Below A₀ base outer h₀ → Fr h₀ L s.heap m → K.In h₀ → News h₀ L s.heap news → Top hd.view_39 (looseW hd.view_39 [Str.ofString "EXACT_TOKEN_TYPES"]) mean mg mb h₀ → cs.kind = .function → dp + d < recursionLimit → un + 8 * d < cLine →
    (∀ r news' h' tk', Fr h₀ L h' m → News h₀ L h' news' → post r news' → Q r { s with heap := h', toks := tk' }) →
    wpAny (model PySem.Challenge.rw_yf0019_01.row.prog w) (ktrTop dp un gd cn cs L a ccd cl outer) (call (.ref f) vs) Q E s
theorem CS.use {w : World} {K : Frag} {f : Addr} {d : Nat} {vs : List Value} {news : List (Addr × Obj)} {post : Value → List (Addr × Obj) → Prop} {mean : ExcName → Option Value} {mg mb : Str → Option Value} {dp un : Nat} {gd : Option (List Code)} {cn : Str} {cs : Scope} {a : Addr} {ccd : Value} {cl : List (Str × Addr)} {outer : List Env} {A₀ : Around} {base h₀ : Heap} {L : Addr} {m : Str → Option Value} {s : Shared} {Q E : Value → Shared → Prop}
    (C : CS w K f d vs news post) (B : Below A₀ base outer h₀) (F : Fr h₀ L s.heap m) (X : K.In h₀) (N : News h₀ L s.heap news) (T : Top hd.view_39 (looseW hd.view_39 [Str.ofString "EXACT_TOKEN_TYPES"]) mean mg mb h₀) (hk : cs.kind = .function) (hd : dp + d < recursionLimit) (hu : un + 8 * d < cLine)
    (ret : ∀ r news' h' tk', Fr h₀ L h' m → News h₀ L h' news' → post r news' → Q r { s with heap := h', toks := tk' }) :
    wpAny (model PySem.Challenge.rw_yf0019_01.row.prog w) (ktrTop dp un gd cn cs L a ccd cl outer) (call (.ref f) vs) Q E s :=
  C mean mg mb dp un gd cn cs a ccd cl outer A₀ base h₀ L m s Q E B F X N T hk hd hu ret
theorem str_ret {a b : Str} {t : Tok} (h : a = b) : ∃ t', Value.str a t = Value.str b t' := ⟨t, by rw [h]⟩
theorem int_ret {a b : Int} {t : Tok} (h : a = b) : ∃ t', Value.int a t = Value.int b t' := ⟨t, by rw [h]⟩
theorem sub1 {q x : Addr × Obj} {l : List (Addr × Obj)} : ∀ p ∈ q :: l, p ∈ q :: x :: l := by
  intro p h
  rcases List.mem_cons.mp h with h | h
  · exact h ▸ List.mem_cons_self
  · exact List.mem_cons_of_mem _ (List.mem_cons_of_mem _ h)
theorem allLt_mem {d : Addr} {l : List (Addr × Obj)} (h : AllLt d l) : ∀ p ∈ l, p.1 < d := by
  induction l with
  | nil => intro p hp; cases hp
  | cons q r ih =>
    intro p hp
    rcases List.mem_cons.mp hp with e | e
    · subst e; exact h.1
    · exact ih h.2 p e
theorem lk_cons {y a : Str} {v : Value} {l : List (Str × Value)} : List.lookup y ((a, v) :: l) = if y = a then some v else List.lookup y l := by
  rw [List.lookup_cons]
  by_cases h : y = a
  · subst h; simp
  · rw [if_neg h]; have : (y == a) = false := by simpa using h
    rw [this]
theorem lk_nil {y : Str} : List.lookup y ([] : List (Str × Value)) = none := rfl
theorem fr1 {h₀ h : Heap} {L : Addr} {a : Str} {va : Value} (F : Fr h₀ L h (fun y => List.lookup y [(a, va)])) : Fr h₀ L h (fun y => if y = a then some va else none) := by
  simpa only [lk_cons, lk_nil] using F
theorem fr2 {h₀ h : Heap} {L : Addr} {a b : Str} {va vb : Value} (F : Fr h₀ L h (fun y => List.lookup y [(b, vb), (a, va)])) : Fr h₀ L h (fun y => if y = b then some vb else if y = a then some va else none) := by
  simpa only [lk_cons, lk_nil] using F
theorem fr3 {h₀ h : Heap} {L : Addr} {a b c : Str} {va vb vc : Value} (F : Fr h₀ L h (fun y => List.lookup y [(c, vc), (b, vb), (a, va)])) : Fr h₀ L h (fun y => if y = c then some vc else if y = b then some vb else if y = a then some va else none) := by
  simpa only [lk_cons, lk_nil] using F
theorem code_defT {prog : Program} {w : World} {A A₀ : Around} {s : Shared} {K : Frag} {L : Addr} {h₀ base : Heap} {m mg mb : Str → Option Value} {news : List (Addr × Obj)} {p : Program} {loose : List Str} {mean : ExcName → Option Value} {env : Env} {outer : List Env} {R : Result → Shared → Prop} {name qual : Str} {params : Arguments} {body : List Stmt} {scope : Scope} {dV kV doc pm cdv ct oc : Value} {an od : Option Addr} {osl : Array (Option Value)} {f : Addr} {args : Args} (binds : List (Str × Value))
    (B : Below A₀ base outer h₀) (F : Fr h₀ L s.heap m) (X₀ : K.In h₀) (N : News h₀ L s.heap news) (T : Top p loose mean mg mb h₀) (hA : A.frames = some (env :: outer)) (hf : env.frame = some L) (hke : env.scope.kind = .function)
    (ho : K.lookup f = some ⟨oc, od, .func (fnOf name qual params body scope dV kV doc pm an cdv ct), osl⟩) (hcd : codeIn K cdv qual = true) (hroom : A.depth < recursionLimit)
    (hbind : BindsTo s (fnOf name qual params body scope dV kV doc pm an cdv ct) args binds) (hloc : ∀ y ∈ binds, scope.names.lookup y.1 = some .local)
    (h : ∀ g L' h₁ tk, Fr h₀ L g m → Fr g L' h₁ (fun y => binds.reverse.lookup y) → News g L' h₁ news → Below A base (env :: outer) g → K.In g → Top p loose mean mg mb g →
      wpAny (model prog w) (A.deeper (envOf qual scope L' f cdv)) (execs body (envOf qual scope L' f cdv))
        (fun fl s' => LeaveK h₀ L m g R (match fl with | .ret v => v | _ => .none) s')
        (fun e s' => wpAny (model prog w) (A.deeper (envOf qual scope L' f cdv)) (leaving (envOf qual scope L' f cdv) e) (fun _ s'' => R (.error e) s'') (fun e' s'' => R (.error e') s'') s')
        { s with heap := h₁, toks := tk })
    (hco : scope.isCoroutine = false) (hgen : scope.isGenerator = false) (hk : scope.kind = .function)
    (hcell : ∀ x ∈ scope.names, x.2 ≠ .cell) : codeAny (model prog w) A (.call (.ref f) args) R s :=
  code_def B F X₀ N T hA hf hke ho hcd hroom hbind hloc (fun g L' h₁ a b c d e f => h g L' h₁ _ a b c d e f) hco hgen hk hcell
noncomputable def FnAt (K : Frag) (f : Addr) (P : Str → List Stmt → Scope → Value → Prop) : Prop :=
  ∀ (name qual : Str) (params : Arguments) (body : List Stmt) (scope : Scope) (dV kV doc pm : Value) (an : Option Addr) (cdv ct oc : Value) (od : Option Addr) (osl : Array (Option Value)), K.lookup f = some ⟨oc, od, .func (fnOf name qual params body scope dV kV doc pm an cdv ct), osl⟩ → P qual body scope cdv
theorem fnAt_of {K : Frag} {f : Addr} {P : Str → List Stmt → Scope → Value → Prop} {name qual : Str} {params : Arguments} {body : List Stmt} {scope : Scope} {dV kV doc pm cdv ct oc : Value} {an od : Option Addr} {osl : Array (Option Value)}
    (ho : K.lookup f = some ⟨oc, od, .func (fnOf name qual params body scope dV kV doc pm an cdv ct), osl⟩) (h : P qual body scope cdv) : FnAt K f P := by
  intro name' qual' params' body' scope' dV' kV' doc' pm' an' cdv' ct' oc' od' osl' ho'
  rw [ho] at ho'
  injection ho' with e
  injection e with _ _ e _
  injection e with e
  injection e with e1 e2 e3 e4 e5 e6 e7 e8 e9 e10 e11 e12 e13 e14
  injection e4 with e4
  subst e2 e4 e5
  first | (subst e13; exact h) | (subst e12; exact h) | (subst e11; exact h) | (subst e14; exact h) | simp_all
noncomputable def XS (w : World) (K : Frag) (f : Addr) (d k : Nat) (m' : Str → Option Value) (news : List (Addr × Obj)) (post : Value → List (Addr × Obj) → Prop) : Prop :=
  FnAt K f (fun qual body scope cdv => ∀ (mean : ExcName → Option Value) (mg mb : Str → Option Value) (dp un : Nat) (gd : Option (List Code)) (cn : Str) (cs : Scope) (a : Addr) (ccd : Value) (cl : List (Str × Addr)) (outer : List Env) (base g' : Heap) (L L' : Addr) (s : Shared) (Q : Flow → Shared → Prop),
    Below (ktrTop dp un gd cn cs L a ccd cl outer) base (envX cn cs L a ccd cl :: outer) g' → Fr g' L' s.heap m' → K.In g' → News g' L' s.heap news → Top hd.view_39 (looseW hd.view_39 [Str.ofString "EXACT_TOKEN_TYPES"]) mean mg mb g' → cs.kind = .function → dp + d < recursionLimit → un + 8 * d < cLine →
    (∀ r m'' news' h' tk', Fr g' L' h' m'' → News g' L' h' news' → post r news' → Q (.ret r) { s with heap := h', toks := tk' }) →
    wpAny (model PySem.Challenge.rw_yf0019_01.row.prog w) ((ktrTop dp un gd cn cs L a ccd cl outer).deeper (envOf qual scope L' f cdv)) (execs (body.drop k) (envOf qual scope L' f cdv)) Q (fun _ _ => False) s)
theorem XS.use {w : World} {K : Frag} {f : Addr} {d k : Nat} {m' : Str → Option Value} {news : List (Addr × Obj)} {post : Value → List (Addr × Obj) → Prop} {mean : ExcName → Option Value} {mg mb : Str → Option Value} {dp un : Nat} {gd : Option (List Code)} {cn : Str} {cs : Scope} {a : Addr} {ccd : Value} {cl : List (Str × Addr)} {outer : List Env} {base g' : Heap} {L L' : Addr} {s : Shared} {Q : Flow → Shared → Prop} {E : Value → Shared → Prop}
    {name qual : Str} {params : Arguments} {body : List Stmt} {scope : Scope} {dV kV doc pm cdv ct oc : Value} {an od : Option Addr} {osl : Array (Option Value)} {rest : List Stmt}
    (C : XS w K f d k m' news post) (ho : K.lookup f = some ⟨oc, od, .func (fnOf name qual params body scope dV kV doc pm an cdv ct), osl⟩) (hr : body.drop k = rest)
    (B : Below (ktrTop dp un gd cn cs L a ccd cl outer) base (envX cn cs L a ccd cl :: outer) g') (F : Fr g' L' s.heap m') (X : K.In g') (N : News g' L' s.heap news) (T : Top hd.view_39 (looseW hd.view_39 [Str.ofString "EXACT_TOKEN_TYPES"]) mean mg mb g') (hk : cs.kind = .function) (hd : dp + d < recursionLimit) (hu : un + 8 * d < cLine)
    (ret : ∀ r m'' news' h' tk', Fr g' L' h' m'' → News g' L' h' news' → post r news' → Q (.ret r) { s with heap := h', toks := tk' }) :
    wpAny (model PySem.Challenge.rw_yf0019_01.row.prog w) ((ktrTop dp un gd cn cs L a ccd cl outer).deeper (envOf qual scope L' f cdv)) (execs rest (envOf qual scope L' f cdv)) Q E s := by
  subst hr
  have h := C _ _ _ _ _ _ _ _ _ _ _ _ _ _ _ ho mean mg mb dp un gd cn cs a ccd cl outer base g' L L' s Q B F X N T hk hd hu ret
  exact wpAny_mono h (fun _ _ x => x) (fun _ _ x => x.elim)
theorem code_defC1 {prog : Program} {w : World} {A A₀ : Around} {s : Shared} {K : Frag} {L : Addr} {h₀ base : Heap} {m mg mb : Str → Option Value} {news : List (Addr × Obj)} {p : Program} {loose : List Str} {mean : ExcName → Option Value} {env : Env} {outer : List Env} {R : Result → Shared → Prop} {name qual : Str} {params : Arguments} {body : List Stmt} {scope : Scope} {dV kV doc pm cdv ct oc : Value} {an od : Option Addr} {osl : Array (Option Value)} {f : Addr} {args : Args} (binds : List (Str × Value)) (cname : Str) (cv : Option Value) (mF : Str → Option Value)
    (B : Below A₀ base outer h₀) (F : Fr h₀ L s.heap m) (X₀ : K.In h₀) (N : News h₀ L s.heap news) (T : Top p loose mean mg mb h₀) (hA : A.frames = some (env :: outer)) (hf : env.frame = some L) (hke : env.scope.kind = .function)
    (ho : K.lookup f = some ⟨oc, od, .func (fnOf name qual params body scope dV kV doc pm an cdv ct), osl⟩) (hcd : codeIn K cdv qual = true) (hroom : A.depth < recursionLimit)
    (hbind : BindsTo s (fnOf name qual params body scope dV kV doc pm an cdv ct) args binds) (hkind : (binds.all fun y => scope.names.lookup y.1 == some .local || scope.names.lookup y.1 == some .cell) = true)
    (hnd : ((cellsFrom 0 scope.names []).map (·.1)).Nodup) (hcl : ∀ l, cellsFrom l scope.names [] = [(cname, l)])
    (hmF : ∀ L', bindL (envOfC qual scope L' f cdv).kindOf binds (fun _ => none) = mF) (hcv : ∀ L', bindC (envOfC qual scope L' f cdv).kindOf binds (fun _ => none) cname = cv)
    (h : ∀ g L' h₁ tk o, Fr h₀ L g m → Fr g L' h₁ mF → News g L' h₁ ((L' + 1, o) :: news) → o.data = .cell cv → Below A base (env :: outer) g → K.In g → Top p loose mean mg mb g → (∀ p ∈ news, p.1 < L') →
      wpAny (model prog w) (A.deeper (envX qual scope L' f cdv [(cname, L' + 1)])) (execs body (envX qual scope L' f cdv [(cname, L' + 1)]))
        (fun fl s' => LeaveK h₀ L m g R (match fl with | .ret v => v | _ => .none) s')
        (fun e s' => wpAny (model prog w) (A.deeper (envX qual scope L' f cdv [(cname, L' + 1)])) (leaving (envX qual scope L' f cdv [(cname, L' + 1)]) e) (fun _ s'' => R (.error e) s'') (fun e' s'' => R (.error e') s'') s')
        { s with heap := h₁, toks := tk })
    (hco : scope.isCoroutine = false) (hgen : scope.isGenerator = false) (hk : scope.kind = .function) : codeAny (model prog w) A (.call (.ref f) args) R s := by
  refine code_defC B F X₀ N T hA hf hke ho hcd hroom hbind hkind hnd (fun g L' h₁ tk cells F1 F2 N2 Y B2 X2 T2 hlt => ?_) hco hgen hk
  have e : envOfC qual scope L' f cdv = envX qual scope L' f cdv [(cname, L' + 1)] := by
    show envX qual scope L' f cdv (cellsFrom (L' + 1) scope.names []) = _
    rw [hcl]
  rw [hcl] at Y
  obtain ⟨o, rfl, ho2⟩ := CellsAre.one Y
  rw [hmF] at F2
  rw [hcv] at ho2
  rw [e]
  exact h g L' h₁ tk o F1 F2 N2 ho2 B2 X2 T2 hlt
theorem code_defP1 {prog : Program} {w : World} {A A₀ : Around} {s : Shared} {K : Frag} {L : Addr} {h₀ base : Heap} {m mg mb : Str → Option Value} {news : List (Addr × Obj)} {p : Program} {loose : List Str} {mean : ExcName → Option Value} {env : Env} {outer : List Env} {R : Result → Shared → Prop} {name qual : Str} {params : Arguments} {body : List Stmt} {scope : Scope} {dV kV doc pm cdv ct oc : Value} {an od : Option Addr} {osl : Array (Option Value)} {f : Addr} {args : Args} (binds : List (Str × Value)) (cname : Str) (cv : Option Value) (mF : Str → Option Value)
    (B : Below A₀ base outer h₀) (F : Fr h₀ L s.heap m) (X₀ : K.In h₀) (N : News h₀ L s.heap news) (T : Top p loose mean mg mb h₀) (hA : A.frames = some (env :: outer)) (hf : env.frame = some L) (hke : env.scope.kind = .function)
    (ho : K.lookup f = some ⟨oc, od, .func (fnOf name qual params body scope dV kV doc pm an cdv ct), osl⟩) (hcd : codeIn K cdv qual = true) (hroom : A.depth < recursionLimit)
    (hbind : BindsTo s (fnOf name qual params body scope dV kV doc pm an cdv ct) args binds) (hkind : (binds.all fun y => scope.names.lookup y.1 == some .local || scope.names.lookup y.1 == some .cell) = true)
    (hnd : ((cellsFrom 0 scope.names []).map (·.1)).Nodup) (hcl : ∀ l, cellsFrom l scope.names [] = [(cname, l)])
    (hmF : ∀ L', bindL (envOfC qual scope L' f cdv).kindOf binds (fun _ => none) = mF) (hcv : ∀ L', bindC (envOfC qual scope L' f cdv).kindOf binds (fun _ => none) cname = cv)
    (h : ∀ g L' h₁ tk o, News h₀ L g news → (∀ p ∈ news, p.1 < g.objs.size) → Fr h₀ L g m → Fr g L' h₁ mF → News g L' h₁ [(L' + 1, o)] → o.data = .cell cv → Below A base (env :: outer) g → K.In g → Top p loose mean mg mb g →
      wpAny (model prog w) (A.deeper (envX qual scope L' f cdv [(cname, L' + 1)])) (execs body (envX qual scope L' f cdv [(cname, L' + 1)]))
        (fun fl s' => LeaveK h₀ L m g R (match fl with | .ret v => v | _ => .none) s')
        (fun e s' => wpAny (model prog w) (A.deeper (envX qual scope L' f cdv [(cname, L' + 1)])) (leaving (envX qual scope L' f cdv [(cname, L' + 1)]) e) (fun _ s'' => R (.error e) s'') (fun e' s'' => R (.error e') s'') s')
        { s with heap := h₁, toks := tk })
    (hco : scope.isCoroutine = false) (hgen : scope.isGenerator = false) (hk : scope.kind = .function) : codeAny (model prog w) A (.call (.ref f) args) R s := by
  have hlim := T.nolimit
  obtain ⟨FG, BG, st, lv⟩ := groundX (R := R) (news := []) B F (fun p hp => nomatch hp) hA hf hke
  have FG : Fr h₀ L s.heap m := FG
  refine codeAny_call_function hroom ((X₀.keeps F.keep) _ _ ho) rfl hco hgen rfl (codeRec_of (X₀.keeps F.keep) hcd) (hbind _ _ _ _ ?_)
  refine wpAny_newFunctionEnv_cells hk (kindsX hkind _) fun env' he s' x => ?_
  subst he
  refine ⟨(hlim.keeps F.keep).keeps x.toInCall.keep, codeAny_func ?_⟩
  obtain ⟨h₁, tk, rfl, _⟩ := x.done
  have hk₁ := x.toInCall.keep
  obtain ⟨cells, NC, Y⟩ := Cl.news (h₀ := s.heap) (Nat.le_refl _) fun n c hm => ⟨x.cell n c (lookup_of_mem_nodup (cellsFrom_names scope.names 0 (s.heap.objs.size + 1) [] [] rfl ▸ hnd) hm), x.above n c hm⟩
  replace Y : CellsAre (bindC (envOfC qual scope s.heap.objs.size f cdv).kindOf binds fun _ => none) (cellsFrom (s.heap.objs.size + 1) scope.names []) cells := Y
  rw [hcl, show bindC (envOfC qual scope s.heap.objs.size f cdv).kindOf binds (fun _ => none) = bindC (envOfC qual scope s.heap.objs.size f cdv).kindOf binds (fun _ => none) from rfl] at Y
  obtain ⟨o, rfl, ho2⟩ := CellsAre.one Y
  have e : envOfC qual scope s.heap.objs.size f cdv = envX qual scope s.heap.objs.size f cdv [(cname, s.heap.objs.size + 1)] := by
    show envX qual scope s.heap.objs.size f cdv (cellsFrom (s.heap.objs.size + 1) scope.names []) = _
    rw [hcl]
  have hns := x.toInCall.ns
  replace hns : h₁.Ns s.heap.objs.size mF := by
    have := hmF s.heap.objs.size
    subst this
    exact hns
  rw [hcv] at ho2
  have w9 := h s.heap s.heap.objs.size h₁ tk o N (fun p hp => Heap.lt_size (N p hp).1) FG ⟨hns, fun b o e => hk₁ b o e, Nat.le_refl _⟩ NC ho2 BG (X₀.keeps F.keep) (T.keeps F.keep)
  rw [← e] at w9
  exact wpAny_mono w9 (fun fl s' hl => lv _ _ hl) fun _ _ y => y
theorem pj0 {a r : Prop} (h : a ∧ r) : a := h.1
theorem pj1 {x0 a r : Prop} (h : x0 ∧ a ∧ r) : a := h.2.1
theorem pj2 {x0 x1 a r : Prop} (h : x0 ∧ x1 ∧ a ∧ r) : a := h.2.2.1
theorem pj3 {x0 x1 x2 a r : Prop} (h : x0 ∧ x1 ∧ x2 ∧ a ∧ r) : a := h.2.2.2.1
theorem pj4 {x0 x1 x2 x3 a r : Prop} (h : x0 ∧ x1 ∧ x2 ∧ x3 ∧ a ∧ r) : a := h.2.2.2.2.1
theorem pj5 {x0 x1 x2 x3 x4 a r : Prop} (h : x0 ∧ x1 ∧ x2 ∧ x3 ∧ x4 ∧ a ∧ r) : a := h.2.2.2.2.2.1
theorem pj6 {x0 x1 x2 x3 x4 x5 a r : Prop} (h : x0 ∧ x1 ∧ x2 ∧ x3 ∧ x4 ∧ x5 ∧ a ∧ r) : a := h.2.2.2.2.2.2.1
theorem pj7 {x0 x1 x2 x3 x4 x5 x6 a r : Prop} (h : x0 ∧ x1 ∧ x2 ∧ x3 ∧ x4 ∧ x5 ∧ x6 ∧ a ∧ r) : a := h.2.2.2.2.2.2.2.1
theorem pj8 {x0 x1 x2 x3 x4 x5 x6 x7 a r : Prop} (h : x0 ∧ x1 ∧ x2 ∧ x3 ∧ x4 ∧ x5 ∧ x6 ∧ x7 ∧ a ∧ r) : a := h.2.2.2.2.2.2.2.2.1
theorem pj9 {x0 x1 x2 x3 x4 x5 x6 x7 x8 a r : Prop} (h : x0 ∧ x1 ∧ x2 ∧ x3 ∧ x4 ∧ x5 ∧ x6 ∧ x7 ∧ x8 ∧ a ∧ r) : a := h.2.2.2.2.2.2.2.2.2.1
theorem pj10 {x0 x1 x2 x3 x4 x5 x6 x7 x8 x9 a r : Prop} (h : x0 ∧ x1 ∧ x2 ∧ x3 ∧ x4 ∧ x5 ∧ x6 ∧ x7 ∧ x8 ∧ x9 ∧ a ∧ r) : a := h.2.2.2.2.2.2.2.2.2.2.1
theorem pj11 {x0 x1 x2 x3 x4 x5 x6 x7 x8 x9 x10 a r : Prop} (h : x0 ∧ x1 ∧ x2 ∧ x3 ∧ x4 ∧ x5 ∧ x6 ∧ x7 ∧ x8 ∧ x9 ∧ x10 ∧ a ∧ r) : a := h.2.2.2.2.2.2.2.2.2.2.2.1
theorem pj12 {x0 x1 x2 x3 x4 x5 x6 x7 x8 x9 x10 x11 a r : Prop} (h : x0 ∧ x1 ∧ x2 ∧ x3 ∧ x4 ∧ x5 ∧ x6 ∧ x7 ∧ x8 ∧ x9 ∧ x10 ∧ x11 ∧ a ∧ r) : a := h.2.2.2.2.2.2.2.2.2.2.2.2.1
theorem pj13 {x0 x1 x2 x3 x4 x5 x6 x7 x8 x9 x10 x11 x12 a r : Prop} (h : x0 ∧ x1 ∧ x2 ∧ x3 ∧ x4 ∧ x5 ∧ x6 ∧ x7 ∧ x8 ∧ x9 ∧ x10 ∧ x11 ∧ x12 ∧ a ∧ r) : a := h.2.2.2.2.2.2.2.2.2.2.2.2.2.1
theorem pj14 {x0 x1 x2 x3 x4 x5 x6 x7 x8 x9 x10 x11 x12 x13 a r : Prop} (h : x0 ∧ x1 ∧ x2 ∧ x3 ∧ x4 ∧ x5 ∧ x6 ∧ x7 ∧ x8 ∧ x9 ∧ x10 ∧ x11 ∧ x12 ∧ x13 ∧ a ∧ r) : a := h.2.2.2.2.2.2.2.2.2.2.2.2.2.2.1
theorem pj15 {x0 x1 x2 x3 x4 x5 x6 x7 x8 x9 x10 x11 x12 x13 x14 a r : Prop} (h : x0 ∧ x1 ∧ x2 ∧ x3 ∧ x4 ∧ x5 ∧ x6 ∧ x7 ∧ x8 ∧ x9 ∧ x10 ∧ x11 ∧ x12 ∧ x13 ∧ x14 ∧ a ∧ r) : a := h.2.2.2.2.2.2.2.2.2.2.2.2.2.2.2.1
theorem pj16 {x0 x1 x2 x3 x4 x5 x6 x7 x8 x9 x10 x11 x12 x13 x14 x15 a r : Prop} (h : x0 ∧ x1 ∧ x2 ∧ x3 ∧ x4 ∧ x5 ∧ x6 ∧ x7 ∧ x8 ∧ x9 ∧ x10 ∧ x11 ∧ x12 ∧ x13 ∧ x14 ∧ x15 ∧ a ∧ r) : a := h.2.2.2.2.2.2.2.2.2.2.2.2.2.2.2.2.1
theorem pj17 {x0 x1 x2 x3 x4 x5 x6 x7 x8 x9 x10 x11 x12 x13 x14 x15 x16 a r : Prop} (h : x0 ∧ x1 ∧ x2 ∧ x3 ∧ x4 ∧ x5 ∧ x6 ∧ x7 ∧ x8 ∧ x9 ∧ x10 ∧ x11 ∧ x12 ∧ x13 ∧ x14 ∧ x15 ∧ x16 ∧ a ∧ r) : a := h.2.2.2.2.2.2.2.2.2.2.2.2.2.2.2.2.2.1
theorem pj18 {x0 x1 x2 x3 x4 x5 x6 x7 x8 x9 x10 x11 x12 x13 x14 x15 x16 x17 a r : Prop} (h : x0 ∧ x1 ∧ x2 ∧ x3 ∧ x4 ∧ x5 ∧ x6 ∧ x7 ∧ x8 ∧ x9 ∧ x10 ∧ x11 ∧ x12 ∧ x13 ∧ x14 ∧ x15 ∧ x16 ∧ x17 ∧ a ∧ r) : a := h.2.2.2.2.2.2.2.2.2.2.2.2.2.2.2.2.2.2.1
theorem pj19 {x0 x1 x2 x3 x4 x5 x6 x7 x8 x9 x10 x11 x12 x13 x14 x15 x16 x17 x18 a r : Prop} (h : x0 ∧ x1 ∧ x2 ∧ x3 ∧ x4 ∧ x5 ∧ x6 ∧ x7 ∧ x8 ∧ x9 ∧ x10 ∧ x11 ∧ x12 ∧ x13 ∧ x14 ∧ x15 ∧ x16 ∧ x17 ∧ x18 ∧ a ∧ r) : a := h.2.2.2.2.2.2.2.2.2.2.2.2.2.2.2.2.2.2.2.1
theorem pj20 {x0 x1 x2 x3 x4 x5 x6 x7 x8 x9 x10 x11 x12 x13 x14 x15 x16 x17 x18 x19 a r : Prop} (h : x0 ∧ x1 ∧ x2 ∧ x3 ∧ x4 ∧ x5 ∧ x6 ∧ x7 ∧ x8 ∧ x9 ∧ x10 ∧ x11 ∧ x12 ∧ x13 ∧ x14 ∧ x15 ∧ x16 ∧ x17 ∧ x18 ∧ x19 ∧ a ∧ r) : a := h.2.2.2.2.2.2.2.2.2.2.2.2.2.2.2.2.2.2.2.2.1
theorem pj21 {x0 x1 x2 x3 x4 x5 x6 x7 x8 x9 x10 x11 x12 x13 x14 x15 x16 x17 x18 x19 x20 a r : Prop} (h : x0 ∧ x1 ∧ x2 ∧ x3 ∧ x4 ∧ x5 ∧ x6 ∧ x7 ∧ x8 ∧ x9 ∧ x10 ∧ x11 ∧ x12 ∧ x13 ∧ x14 ∧ x15 ∧ x16 ∧ x17 ∧ x18 ∧ x19 ∧ x20 ∧ a ∧ r) : a := h.2.2.2.2.2.2.2.2.2.2.2.2.2.2.2.2.2.2.2.2.2.1
theorem pj22 {x0 x1 x2 x3 x4 x5 x6 x7 x8 x9 x10 x11 x12 x13 x14 x15 x16 x17 x18 x19 x20 x21 a r : Prop} (h : x0 ∧ x1 ∧ x2 ∧ x3 ∧ x4 ∧ x5 ∧ x6 ∧ x7 ∧ x8 ∧ x9 ∧ x10 ∧ x11 ∧ x12 ∧ x13 ∧ x14 ∧ x15 ∧ x16 ∧ x17 ∧ x18 ∧ x19 ∧ x20 ∧ x21 ∧ a ∧ r) : a := h.2.2.2.2.2.2.2.2.2.2.2.2.2.2.2.2.2.2.2.2.2.2.1
theorem pj23 {x0 x1 x2 x3 x4 x5 x6 x7 x8 x9 x10 x11 x12 x13 x14 x15 x16 x17 x18 x19 x20 x21 x22 a r : Prop} (h : x0 ∧ x1 ∧ x2 ∧ x3 ∧ x4 ∧ x5 ∧ x6 ∧ x7 ∧ x8 ∧ x9 ∧ x10 ∧ x11 ∧ x12 ∧ x13 ∧ x14 ∧ x15 ∧ x16 ∧ x17 ∧ x18 ∧ x19 ∧ x20 ∧ x21 ∧ x22 ∧ a ∧ r) : a := h.2.2.2.2.2.2.2.2.2.2.2.2.2.2.2.2.2.2.2.2.2.2.2.1
theorem pj24 {x0 x1 x2 x3 x4 x5 x6 x7 x8 x9 x10 x11 x12 x13 x14 x15 x16 x17 x18 x19 x20 x21 x22 x23 a r : Prop} (h : x0 ∧ x1 ∧ x2 ∧ x3 ∧ x4 ∧ x5 ∧ x6 ∧ x7 ∧ x8 ∧ x9 ∧ x10 ∧ x11 ∧ x12 ∧ x13 ∧ x14 ∧ x15 ∧ x16 ∧ x17 ∧ x18 ∧ x19 ∧ x20 ∧ x21 ∧ x22 ∧ x23 ∧ a ∧ r) : a := h.2.2.2.2.2.2.2.2.2.2.2.2.2.2.2.2.2.2.2.2.2.2.2.2.1
theorem ltA1 {a n m L : Nat} (h : a + n < L) (k : m ≤ n) : a + m < L := Nat.lt_of_le_of_lt (Nat.add_le_add_left k a) h
theorem ltA0 {a n L : Nat} (h : a + n < L) : a < L := Nat.lt_of_le_of_lt (Nat.le_add_right a n) h
theorem ltA2 {a n m k L : Nat} (h : a + n < L) (e : m + k ≤ n) : a + m + k < L := by rw [Nat.add_assoc]; exact ltA1 h e
theorem ltA3 {a n m k j L : Nat} (h : a + n < L) (e : m + k + j ≤ n) : a + m + k + j < L := by rw [Nat.add_assoc a m k, Nat.add_assoc]; exact ltA1 h e
theorem ltR {a b k : Nat} (h : a < b) : a < b + k := Nat.lt_of_lt_of_le h (Nat.le_add_right b k)
theorem ltL {a b j k : Nat} (h : a + k < b) (e : j ≤ k) : a + j < b := Nat.lt_of_le_of_lt (Nat.add_le_add_left e a) h
theorem ltLR {a b c j k : Nat} (h : a + k < b) (e : j ≤ k) : a + j < b + c := ltR (ltL h e)
theorem neK {a j k : Nat} (h : Nat.beq j k = false) : a + j ≠ a + k := fun e => Nat.ne_of_beq_eq_false h (Nat.add_left_cancel e)
theorem neK0 {a k : Nat} (h : Nat.beq k 0 = false) : a + k ≠ a := fun e => Nat.ne_of_beq_eq_false h (Nat.add_left_cancel (e : a + k = a + 0))
theorem neK1 {a k : Nat} (h : Nat.beq k 0 = false) : a ≠ a + k := fun e => neK0 h e.symm
theorem lbA {a b : Str} {m n : Nat} (ha : a.length ≤ m) (hb : b.length ≤ n) : (a ++ b).length ≤ m + n := by rw [PySem.Str.length_append]; exact Nat.add_le_add ha hb
theorem lbS {a b : Str} {m n : Nat} (ha : a.length ≤ m) (hb : b.length ≤ n) (e : Nat.ble (m + n) 16777216 = true) : a.length + b.length ≤ sizeLine := Nat.le_trans (Nat.add_le_add ha hb) (Nat.le_of_ble_eq_true e)
theorem lbL (s : String) (h : Nat.ble s.length 64 = true) : (Str.ofString s).length ≤ 64 := by rw [PySem.ofString_length]; exact Nat.le_of_ble_eq_true h
theorem lbC {a : Str} {i j : Option Int} {m : Nat} (ha : a.length ≤ m) : (Txt.slice a i j).length ≤ m := Nat.le_trans (Txt.slice_le a _ _) ha
theorem qa0 {a s r : Prop} (h : (a ∧ s) ∧ r) : a := h.1.1
theorem qb0 {y a s r : Prop} (h : (y ∧ a ∧ s) ∧ r) : a := h.1.2.1
theorem qc0 {y z a r : Prop} (h : (y ∧ z ∧ a) ∧ r) : a := h.1.2.2
theorem qa1 {x0 a s r : Prop} (h : x0 ∧ (a ∧ s) ∧ r) : a := h.2.1.1
theorem qb1 {x0 y a s r : Prop} (h : x0 ∧ (y ∧ a ∧ s) ∧ r) : a := h.2.1.2.1
theorem qc1 {x0 y z a r : Prop} (h : x0 ∧ (y ∧ z ∧ a) ∧ r) : a := h.2.1.2.2
theorem qa2 {x0 x1 a s r : Prop} (h : x0 ∧ x1 ∧ (a ∧ s) ∧ r) : a := h.2.2.1.1
theorem qb2 {x0 x1 y a s r : Prop} (h : x0 ∧ x1 ∧ (y ∧ a ∧ s) ∧ r) : a := h.2.2.1.2.1
theorem qc2 {x0 x1 y z a r : Prop} (h : x0 ∧ x1 ∧ (y ∧ z ∧ a) ∧ r) : a := h.2.2.1.2.2
theorem qa3 {x0 x1 x2 a s r : Prop} (h : x0 ∧ x1 ∧ x2 ∧ (a ∧ s) ∧ r) : a := h.2.2.2.1.1
theorem qb3 {x0 x1 x2 y a s r : Prop} (h : x0 ∧ x1 ∧ x2 ∧ (y ∧ a ∧ s) ∧ r) : a := h.2.2.2.1.2.1
theorem qc3 {x0 x1 x2 y z a r : Prop} (h : x0 ∧ x1 ∧ x2 ∧ (y ∧ z ∧ a) ∧ r) : a := h.2.2.2.1.2.2
theorem qa4 {x0 x1 x2 x3 a s r : Prop} (h : x0 ∧ x1 ∧ x2 ∧ x3 ∧ (a ∧ s) ∧ r) : a := h.2.2.2.2.1.1
theorem qb4 {x0 x1 x2 x3 y a s r : Prop} (h : x0 ∧ x1 ∧ x2 ∧ x3 ∧ (y ∧ a ∧ s) ∧ r) : a := h.2.2.2.2.1.2.1
theorem qc4 {x0 x1 x2 x3 y z a r : Prop} (h : x0 ∧ x1 ∧ x2 ∧ x3 ∧ (y ∧ z ∧ a) ∧ r) : a := h.2.2.2.2.1.2.2
theorem qa5 {x0 x1 x2 x3 x4 a s r : Prop} (h : x0 ∧ x1 ∧ x2 ∧ x3 ∧ x4 ∧ (a ∧ s) ∧ r) : a := h.2.2.2.2.2.1.1
theorem qb5 {x0 x1 x2 x3 x4 y a s r : Prop} (h : x0 ∧ x1 ∧ x2 ∧ x3 ∧ x4 ∧ (y ∧ a ∧ s) ∧ r) : a := h.2.2.2.2.2.1.2.1
theorem qc5 {x0 x1 x2 x3 x4 y z a r : Prop} (h : x0 ∧ x1 ∧ x2 ∧ x3 ∧ x4 ∧ (y ∧ z ∧ a) ∧ r) : a := h.2.2.2.2.2.1.2.2
theorem qa6 {x0 x1 x2 x3 x4 x5 a s r : Prop} (h : x0 ∧ x1 ∧ x2 ∧ x3 ∧ x4 ∧ x5 ∧ (a ∧ s) ∧ r) : a := h.2.2.2.2.2.2.1.1
theorem qb6 {x0 x1 x2 x3 x4 x5 y a s r : Prop} (h : x0 ∧ x1 ∧ x2 ∧ x3 ∧ x4 ∧ x5 ∧ (y ∧ a ∧ s) ∧ r) : a := h.2.2.2.2.2.2.1.2.1
theorem qc6 {x0 x1 x2 x3 x4 x5 y z a r : Prop} (h : x0 ∧ x1 ∧ x2 ∧ x3 ∧ x4 ∧ x5 ∧ (y ∧ z ∧ a) ∧ r) : a := h.2.2.2.2.2.2.1.2.2
theorem qa7 {x0 x1 x2 x3 x4 x5 x6 a s r : Prop} (h : x0 ∧ x1 ∧ x2 ∧ x3 ∧ x4 ∧ x5 ∧ x6 ∧ (a ∧ s) ∧ r) : a := h.2.2.2.2.2.2.2.1.1
theorem qb7 {x0 x1 x2 x3 x4 x5 x6 y a s r : Prop} (h : x0 ∧ x1 ∧ x2 ∧ x3 ∧ x4 ∧ x5 ∧ x6 ∧ (y ∧ a ∧ s) ∧ r) : a := h.2.2.2.2.2.2.2.1.2.1
theorem qc7 {x0 x1 x2 x3 x4 x5 x6 y z a r : Prop} (h : x0 ∧ x1 ∧ x2 ∧ x3 ∧ x4 ∧ x5 ∧ x6 ∧ (y ∧ z ∧ a) ∧ r) : a := h.2.2.2.2.2.2.2.1.2.2
theorem qa8 {x0 x1 x2 x3 x4 x5 x6 x7 a s r : Prop} (h : x0 ∧ x1 ∧ x2 ∧ x3 ∧ x4 ∧ x5 ∧ x6 ∧ x7 ∧ (a ∧ s) ∧ r) : a := h.2.2.2.2.2.2.2.2.1.1
theorem qb8 {x0 x1 x2 x3 x4 x5 x6 x7 y a s r : Prop} (h : x0 ∧ x1 ∧ x2 ∧ x3 ∧ x4 ∧ x5 ∧ x6 ∧ x7 ∧ (y ∧ a ∧ s) ∧ r) : a := h.2.2.2.2.2.2.2.2.1.2.1
theorem qc8 {x0 x1 x2 x3 x4 x5 x6 x7 y z a r : Prop} (h : x0 ∧ x1 ∧ x2 ∧ x3 ∧ x4 ∧ x5 ∧ x6 ∧ x7 ∧ (y ∧ z ∧ a) ∧ r) : a := h.2.2.2.2.2.2.2.2.1.2.2
theorem qa9 {x0 x1 x2 x3 x4 x5 x6 x7 x8 a s r : Prop} (h : x0 ∧ x1 ∧ x2 ∧ x3 ∧ x4 ∧ x5 ∧ x6 ∧ x7 ∧ x8 ∧ (a ∧ s) ∧ r) : a := h.2.2.2.2.2.2.2.2.2.1.1
theorem qb9 {x0 x1 x2 x3 x4 x5 x6 x7 x8 y a s r : Prop} (h : x0 ∧ x1 ∧ x2 ∧ x3 ∧ x4 ∧ x5 ∧ x6 ∧ x7 ∧ x8 ∧ (y ∧ a ∧ s) ∧ r) : a := h.2.2.2.2.2.2.2.2.2.1.2.1
theorem qc9 {x0 x1 x2 x3 x4 x5 x6 x7 x8 y z a r : Prop} (h : x0 ∧ x1 ∧ x2 ∧ x3 ∧ x4 ∧ x5 ∧ x6 ∧ x7 ∧ x8 ∧ (y ∧ z ∧ a) ∧ r) : a := h.2.2.2.2.2.2.2.2.2.1.2.2
theorem qa10 {x0 x1 x2 x3 x4 x5 x6 x7 x8 x9 a s r : Prop} (h : x0 ∧ x1 ∧ x2 ∧ x3 ∧ x4 ∧ x5 ∧ x6 ∧ x7 ∧ x8 ∧ x9 ∧ (a ∧ s) ∧ r) : a := h.2.2.2.2.2.2.2.2.2.2.1.1
theorem qb10 {x0 x1 x2 x3 x4 x5 x6 x7 x8 x9 y a s r : Prop} (h : x0 ∧ x1 ∧ x2 ∧ x3 ∧ x4 ∧ x5 ∧ x6 ∧ x7 ∧ x8 ∧ x9 ∧ (y ∧ a ∧ s) ∧ r) : a := h.2.2.2.2.2.2.2.2.2.2.1.2.1
theorem qc10 {x0 x1 x2 x3 x4 x5 x6 x7 x8 x9 y z a r : Prop} (h : x0 ∧ x1 ∧ x2 ∧ x3 ∧ x4 ∧ x5 ∧ x6 ∧ x7 ∧ x8 ∧ x9 ∧ (y ∧ z ∧ a) ∧ r) : a := h.2.2.2.2.2.2.2.2.2.2.1.2.2
theorem qa11 {x0 x1 x2 x3 x4 x5 x6 x7 x8 x9 x10 a s r : Prop} (h : x0 ∧ x1 ∧ x2 ∧ x3 ∧ x4 ∧ x5 ∧ x6 ∧ x7 ∧ x8 ∧ x9 ∧ x10 ∧ (a ∧ s) ∧ r) : a := h.2.2.2.2.2.2.2.2.2.2.2.1.1
theorem qb11 {x0 x1 x2 x3 x4 x5 x6 x7 x8 x9 x10 y a s r : Prop} (h : x0 ∧ x1 ∧ x2 ∧ x3 ∧ x4 ∧ x5 ∧ x6 ∧ x7 ∧ x8 ∧ x9 ∧ x10 ∧ (y ∧ a ∧ s) ∧ r) : a := h.2.2.2.2.2.2.2.2.2.2.2.1.2.1
theorem qc11 {x0 x1 x2 x3 x4 x5 x6 x7 x8 x9 x10 y z a r : Prop} (h : x0 ∧ x1 ∧ x2 ∧ x3 ∧ x4 ∧ x5 ∧ x6 ∧ x7 ∧ x8 ∧ x9 ∧ x10 ∧ (y ∧ z ∧ a) ∧ r) : a := h.2.2.2.2.2.2.2.2.2.2.2.1.2.2
theorem qa12 {x0 x1 x2 x3 x4 x5 x6 x7 x8 x9 x10 x11 a s r : Prop} (h : x0 ∧ x1 ∧ x2 ∧ x3 ∧ x4 ∧ x5 ∧ x6 ∧ x7 ∧ x8 ∧ x9 ∧ x10 ∧ x11 ∧ (a ∧ s) ∧ r) : a := h.2.2.2.2.2.2.2.2.2.2.2.2.1.1
theorem qb12 {x0 x1 x2 x3 x4 x5 x6 x7 x8 x9 x10 x11 y a s r : Prop} (h : x0 ∧ x1 ∧ x2 ∧ x3 ∧ x4 ∧ x5 ∧ x6 ∧ x7 ∧ x8 ∧ x9 ∧ x10 ∧ x11 ∧ (y ∧ a ∧ s) ∧ r) : a := h.2.2.2.2.2.2.2.2.2.2.2.2.1.2.1
theorem qc12 {x0 x1 x2 x3 x4 x5 x6 x7 x8 x9 x10 x11 y z a r : Prop} (h : x0 ∧ x1 ∧ x2 ∧ x3 ∧ x4 ∧ x5 ∧ x6 ∧ x7 ∧ x8 ∧ x9 ∧ x10 ∧ x11 ∧ (y ∧ z ∧ a) ∧ r) : a := h.2.2.2.2.2.2.2.2.2.2.2.2.1.2.2
theorem qe1 {x0 a : Prop} (h : x0 ∧ a) : a := h.2
theorem qe2 {x0 x1 a : Prop} (h : x0 ∧ x1 ∧ a) : a := h.2.2
theorem qe3 {x0 x1 x2 a : Prop} (h : x0 ∧ x1 ∧ x2 ∧ a) : a := h.2.2.2
theorem qe4 {x0 x1 x2 x3 a : Prop} (h : x0 ∧ x1 ∧ x2 ∧ x3 ∧ a) : a := h.2.2.2.2
theorem qe5 {x0 x1 x2 x3 x4 a : Prop} (h : x0 ∧ x1 ∧ x2 ∧ x3 ∧ x4 ∧ a) : a := h.2.2.2.2.2
theorem qe6 {x0 x1 x2 x3 x4 x5 a : Prop} (h : x0 ∧ x1 ∧ x2 ∧ x3 ∧ x4 ∧ x5 ∧ a) : a := h.2.2.2.2.2.2
theorem qe7 {x0 x1 x2 x3 x4 x5 x6 a : Prop} (h : x0 ∧ x1 ∧ x2 ∧ x3 ∧ x4 ∧ x5 ∧ x6 ∧ a) : a := h.2.2.2.2.2.2.2
theorem qe8 {x0 x1 x2 x3 x4 x5 x6 x7 a : Prop} (h : x0 ∧ x1 ∧ x2 ∧ x3 ∧ x4 ∧ x5 ∧ x6 ∧ x7 ∧ a) : a := h.2.2.2.2.2.2.2.2
theorem qe9 {x0 x1 x2 x3 x4 x5 x6 x7 x8 a : Prop} (h : x0 ∧ x1 ∧ x2 ∧ x3 ∧ x4 ∧ x5 ∧ x6 ∧ x7 ∧ x8 ∧ a) : a := h.2.2.2.2.2.2.2.2.2
theorem qe10 {x0 x1 x2 x3 x4 x5 x6 x7 x8 x9 a : Prop} (h : x0 ∧ x1 ∧ x2 ∧ x3 ∧ x4 ∧ x5 ∧ x6 ∧ x7 ∧ x8 ∧ x9 ∧ a) : a := h.2.2.2.2.2.2.2.2.2.2
theorem qe11 {x0 x1 x2 x3 x4 x5 x6 x7 x8 x9 x10 a : Prop} (h : x0 ∧ x1 ∧ x2 ∧ x3 ∧ x4 ∧ x5 ∧ x6 ∧ x7 ∧ x8 ∧ x9 ∧ x10 ∧ a) : a := h.2.2.2.2.2.2.2.2.2.2.2
theorem qe12 {x0 x1 x2 x3 x4 x5 x6 x7 x8 x9 x10 x11 a : Prop} (h : x0 ∧ x1 ∧ x2 ∧ x3 ∧ x4 ∧ x5 ∧ x6 ∧ x7 ∧ x8 ∧ x9 ∧ x10 ∧ x11 ∧ a) : a := h.2.2.2.2.2.2.2.2.2.2.2.2
theorem qe13 {x0 x1 x2 x3 x4 x5 x6 x7 x8 x9 x10 x11 x12 a : Prop} (h : x0 ∧ x1 ∧ x2 ∧ x3 ∧ x4 ∧ x5 ∧ x6 ∧ x7 ∧ x8 ∧ x9 ∧ x10 ∧ x11 ∧ x12 ∧ a) : a := h.2.2.2.2.2.2.2.2.2.2.2.2.2
theorem qe14 {x0 x1 x2 x3 x4 x5 x6 x7 x8 x9 x10 x11 x12 x13 a : Prop} (h : x0 ∧ x1 ∧ x2 ∧ x3 ∧ x4 ∧ x5 ∧ x6 ∧ x7 ∧ x8 ∧ x9 ∧ x10 ∧ x11 ∧ x12 ∧ x13 ∧ a) : a := h.2.2.2.2.2.2.2.2.2.2.2.2.2.2
theorem qe15 {x0 x1 x2 x3 x4 x5 x6 x7 x8 x9 x10 x11 x12 x13 x14 a : Prop} (h : x0 ∧ x1 ∧ x2 ∧ x3 ∧ x4 ∧ x5 ∧ x6 ∧ x7 ∧ x8 ∧ x9 ∧ x10 ∧ x11 ∧ x12 ∧ x13 ∧ x14 ∧ a) : a := h.2.2.2.2.2.2.2.2.2.2.2.2.2.2.2
theorem qe16 {x0 x1 x2 x3 x4 x5 x6 x7 x8 x9 x10 x11 x12 x13 x14 x15 a : Prop} (h : x0 ∧ x1 ∧ x2 ∧ x3 ∧ x4 ∧ x5 ∧ x6 ∧ x7 ∧ x8 ∧ x9 ∧ x10 ∧ x11 ∧ x12 ∧ x13 ∧ x14 ∧ x15 ∧ a) : a := h.2.2.2.2.2.2.2.2.2.2.2.2.2.2.2.2
theorem qe17 {x0 x1 x2 x3 x4 x5 x6 x7 x8 x9 x10 x11 x12 x13 x14 x15 x16 a : Prop} (h : x0 ∧ x1 ∧ x2 ∧ x3 ∧ x4 ∧ x5 ∧ x6 ∧ x7 ∧ x8 ∧ x9 ∧ x10 ∧ x11 ∧ x12 ∧ x13 ∧ x14 ∧ x15 ∧ x16 ∧ a) : a := h.2.2.2.2.2.2.2.2.2.2.2.2.2.2.2.2.2
theorem qe18 {x0 x1 x2 x3 x4 x5 x6 x7 x8 x9 x10 x11 x12 x13 x14 x15 x16 x17 a : Prop} (h : x0 ∧ x1 ∧ x2 ∧ x3 ∧ x4 ∧ x5 ∧ x6 ∧ x7 ∧ x8 ∧ x9 ∧ x10 ∧ x11 ∧ x12 ∧ x13 ∧ x14 ∧ x15 ∧ x16 ∧ x17 ∧ a) : a := h.2.2.2.2.2.2.2.2.2.2.2.2.2.2.2.2.2.2
theorem qe19 {x0 x1 x2 x3 x4 x5 x6 x7 x8 x9 x10 x11 x12 x13 x14 x15 x16 x17 x18 a : Prop} (h : x0 ∧ x1 ∧ x2 ∧ x3 ∧ x4 ∧ x5 ∧ x6 ∧ x7 ∧ x8 ∧ x9 ∧ x10 ∧ x11 ∧ x12 ∧ x13 ∧ x14 ∧ x15 ∧ x16 ∧ x17 ∧ x18 ∧ a) : a := h.2.2.2.2.2.2.2.2.2.2.2.2.2.2.2.2.2.2.2
theorem qe20 {x0 x1 x2 x3 x4 x5 x6 x7 x8 x9 x10 x11 x12 x13 x14 x15 x16 x17 x18 x19 a : Prop} (h : x0 ∧ x1 ∧ x2 ∧ x3 ∧ x4 ∧ x5 ∧ x6 ∧ x7 ∧ x8 ∧ x9 ∧ x10 ∧ x11 ∧ x12 ∧ x13 ∧ x14 ∧ x15 ∧ x16 ∧ x17 ∧ x18 ∧ x19 ∧ a) : a := h.2.2.2.2.2.2.2.2.2.2.2.2.2.2.2.2.2.2.2.2
theorem ltOf {N : List (Addr × Obj)} {a d : Addr} {o : Obj} (f : ∀ p ∈ N, p.1 < d) (m : (a, o) ∈ N) : a < d := f (a, o) m
noncomputable abbrev cells4 (L : Addr) : List (Str × Addr) := [(Str.ofString "spoilt", L + 4), (Str.ofString "core", L + 3), (Str.ofString "own", L + 2), (Str.ofString "kinds", L + 1)]
noncomputable def Inc (X Y : List (Addr × Obj)) : Prop := ∀ p ∈ X, p ∈ Y
theorem Inc.use {X Y : List (Addr × Obj)} (h : Inc X Y) : ∀ p ∈ X, p ∈ Y := h
theorem incN {Y : List (Addr × Obj)} : Inc [] Y := fun _ h => nomatch h
theorem incI {Y : List (Addr × Obj)} : Inc Y Y := fun _ h => h
theorem incC {a : Addr × Obj} {X Y : List (Addr × Obj)} (h : a ∈ Y) (r : Inc X Y) : Inc (a :: X) Y := fun p hp => by
  rcases List.mem_cons.mp hp with e | e
  · exact e ▸ h
  · exact r p e
theorem incA {X Z Y : List (Addr × Obj)} (h : Inc X Y) (r : Inc Z Y) : Inc (X ++ Z) Y := fun p hp => by
  rcases List.mem_append.mp hp with e | e
  · exact h p e
  · exact r p e
theorem incT {a : Addr × Obj} {X Y : List (Addr × Obj)} (h : Inc X Y) : Inc X (a :: Y) := fun p hp => List.mem_cons_of_mem _ (h p hp)
theorem incL {X Y Z : List (Addr × Obj)} (h : Inc X Y) : Inc X (Y ++ Z) := fun p hp => List.mem_append.mpr (.inl (h p hp))
theorem incR {X Y Z : List (Addr × Obj)} (h : Inc X Z) : Inc X (Y ++ Z) := fun p hp => List.mem_append.mpr (.inr (h p hp))
theorem incM {a : Addr × Obj} {X : List (Addr × Obj)} : a ∈ a :: X := List.mem_cons_self
theorem incMT {a b : Addr × Obj} {X : List (Addr × Obj)} (h : a ∈ X) : a ∈ b :: X := List.mem_cons_of_mem _ h
theorem incML {a : Addr × Obj} {X Z : List (Addr × Obj)} (h : a ∈ X) : a ∈ X ++ Z := List.mem_append.mpr (.inl h)
theorem incMR {a : Addr × Obj} {X Z : List (Addr × Obj)} (h : a ∈ Z) : a ∈ X ++ Z := List.mem_append.mpr (.inr h)
theorem sm1 {z a : Str} {v F G : Option Value} {i : Decidable (z = a)} (h : z ≠ a) (r : F = G) : @ite _ (z = a) i v F = G := by rw [if_neg h]; exact r
theorem sm2 {z : Str} {l : List Str} {v F G : Option Value} {i : Decidable (l.contains z = true)} (h : l.contains z = false) (r : F = G) : @ite _ (l.contains z = true) i v F = G := by rw [if_neg (by rw [h]; decide)]; exact r
theorem sm3 {z : Str} {ps : List (Str × Value)} {rest : Str → Option Value} {G : Option Value} (h : ∀ p ∈ ps, z ≠ p.1) (r : rest z = G) : kstB rest ps z = G := by
  induction ps with
  | nil => exact r
  | cons p q ih => exact sm1 (h p List.mem_cons_self) (ih fun x hx => h x (List.mem_cons_of_mem _ hx))
theorem neP {z a : Str} {v : Value} {ps : List (Str × Value)} (h : ∀ p ∈ ps, z ≠ p.1) (m : (a, v) ∈ ps) : z ≠ a := h _ m
theorem neC {z a : Str} {l : List Str} (h : l.contains z = false) (m : a ∈ l) : z ≠ a := fun e => by
  subst e
  have := List.contains_iff_mem.mpr m
  rw [h] at this
  exact Bool.noConfusion this
theorem ncN {z : Str} : List.contains ([] : List Str) z = false := rfl
theorem ncC {z a : Str} {l : List Str} (h : z ≠ a) (r : l.contains z = false) : (a :: l).contains z = false := by
  rw [List.contains_cons, r, Bool.or_false]
  exact beq_false_of_ne h
end
-- part Loop
section
theorem top_off_Loop : True := by
  w_top off
  exact True.intro
section
variable {prog : Program} {w : World} {A : Around} {E : Value → Shared → Prop} {s : Shared} {env : Env} {h₀ : Heap} {x : Str} {body : List Stmt} {Q : Flow → Shared → Prop}
noncomputable def LpS {σ : Type} (Led : σ → List (Addr × Obj)) (ps : σ → List (Str × Value)) (x : Str) (stored : List Str) (m₀ : Str → Option Value) (P : Nat → σ → Prop) (i : Nat) (m : Str → Option Value) (nx : List (Addr × Obj)) : Prop :=
  ∃ c, nx = Led c ∧ (∀ p ∈ ps c, m p.1 = some p.2) ∧ (∀ z, z ≠ x → (∀ p ∈ ps c, z ≠ p.1) → stored.contains z = false → m z = m₀ z) ∧ P i c
noncomputable def LpEnd (h₀ : Heap) (L : Addr) (J : (Str → Option Value) → List (Addr × Obj) → Prop) (own : List (Addr × Obj)) (s₁ s₂ : Shared) : Prop :=
  ∃ h' tk m' news' nx, s₂ = { s₁ with heap := h', toks := tk } ∧ Fr h₀ L h' m' ∧ News h₀ L h' news' ∧ (∀ p ∈ nx, p ∈ news') ∧ (∀ p ∈ own, p ∈ news') ∧ OwnOff own (nx.map (·.1)) ∧ J m' nx
noncomputable def LpPost (h₀ : Heap) (L : Addr) (J : (Str → Option Value) → List (Addr × Obj) → Prop) (own : List (Addr × Obj)) (s₁ : Shared) (Q : Flow → Shared → Prop) (f : Flow) (s₂ : Shared) : Prop :=
  match f with
  | .ret v => Q (.ret v) s₂
  | .brk => Q .next s₂
  | _ => LpEnd h₀ L J own s₁ s₂
theorem lp_end {σ : Type} {Led : σ → List (Addr × Obj)} {ps : σ → List (Str × Value)} {stored : List Str} {m₀ : Str → Option Value} {P : Nat → σ → Prop} {i : Nat} (c : σ) {L : Addr} {m' : Str → Option Value} {own news' : List (Addr × Obj)} {s₁ : Shared} {h' : Heap} {tk : Nat}
    (F : Fr h₀ L h' m') (N : News h₀ L h' news') (hn : ∀ p ∈ Led c, p ∈ news') (ho : ∀ p ∈ own, p ∈ news') (hf : OwnOff own ((Led c).map (·.1))) (hk : ∀ p ∈ ps c, m' p.1 = some p.2) (hr : ∀ z, z ≠ x → (∀ p ∈ ps c, z ≠ p.1) → stored.contains z = false → m' z = m₀ z) (hp : P i c) :
    LpEnd h₀ L (LpS Led ps x stored m₀ P i) own s₁ { s₁ with heap := h', toks := tk } := ⟨h', tk, m', news', Led c, rfl, F, N, hn, ho, hf, c, rfl, hk, hr, hp⟩
theorem lp_core {σ : Type} {I : Addr} {fp : List Addr} {n : Nat} {Pv : Nat → Value → Prop} {St : Nat → Heap → Prop} {m₀ : Str → Option Value} (Led : σ → List (Addr × Obj)) (ps : σ → List (Str × Value)) (stored : List Str) (P : Nat → σ → Prop) (c₀ : σ) (extra : List (Addr × Obj))
    (W : Walks prog w A I fp [I] n Pv St) (hLf : env.locals ∉ fp) (hI : h₀.get? I = none) (hfx : ∀ b ∈ fp, b = I ∨ (∃ o, (b, o) ∈ extra) ∨ ∃ o, h₀.get? b = some o) (hex : ∀ c, ∀ e ∈ extra, e ∈ Led c) (hnI : ∀ p ∈ Led c₀, p.1 ≠ I)
    (live : ∀ i h, St i h → ∃ o, h.get? I = some o) (hst : St 0 s.heap) (F : Fr h₀ env.locals s.heap m₀) (N : News h₀ env.locals s.heap (Led c₀)) (hk : ∀ p ∈ ps c₀, m₀ p.1 = some p.2) (hp : P 0 c₀)
    (turn : ∀ (c : σ) i v (u : Str → Option Value) h tk own, i < n → Pv i v → OwnOff own ((Led c).map (·.1)) → P i c →
      Fr h₀ env.locals h (fun y => if y = x then some v else kstB (fun z => if stored.contains z then u z else m₀ z) (ps c) y) → News h₀ env.locals h (Led c ++ own) →
      wpAny (model prog w) A (execs body env) (LpPost h₀ env.locals (LpS Led ps x stored m₀ P (i + 1)) own { s with heap := h, toks := tk } Q) E { s with heap := h, toks := tk })
    (done : ∀ (c : σ) (u : Str → Option Value) h tk, P n c → Fr h₀ env.locals h (fun y => if y = x then u y else kstB (fun z => if stored.contains z then u z else m₀ z) (ps c) y) → News h₀ env.locals h (Led c) → Q .next { s with heap := h, toks := tk }) :
    LoopAtV prog w A h₀ env x body Q E (.ref I) s := by
  refine ⟨I, fp, [I], n, Pv, St, m₀, Led c₀, (fun i m nx => LpS Led ps x stored m₀ P i m nx), rfl, W, hLf, (fun b hb => (List.mem_singleton.mp hb) ▸ hI), (fun p hp hq => hnI p hp (List.mem_singleton.mp hq)), hst, F, N, ⟨c₀, rfl, hk, fun _ _ _ _ => rfl, hp⟩, ?_, ?_⟩
  · rintro i v m₁ news₁ s₁ own ⟨hh', tk', rfl⟩ hin hP ⟨c, rfl, h1, h2, hp'⟩ hoff hown hget hall hst₁ F₁ N₁
    obtain ⟨oI, hoI⟩ := live _ _ hst₁
    have hIown : (I, oI) ∈ own := hall I (W.sub I (by simp)) hI oI hoI
    have hsep : OwnOff (own.filter fun p => decide (p.1 = I)) ((Led c).map (·.1)) := by
      intro p hp b hb e
      obtain ⟨q, hq, rfl⟩ := List.mem_map.mp hb
      have h3 : p.1 = I := by simpa using (List.mem_filter.mp hp).2
      exact hoff q hq (List.mem_singleton.mpr (e ▸ h3))
    have N₂ : News h₀ env.locals hh' (Led c ++ own.filter fun p => decide (p.1 = I)) := fun p hp => N₁ p ((List.mem_append.mp hp).elim (fun h => List.mem_append.mpr (.inr h)) fun h => List.mem_append.mpr (.inl ((List.mem_filter.mp h).1)))
    refine wpAny_mono (turn c i v m₁ hh' tk' _ hin hP hsep hp' (kst_fr h1 h2 F₁) N₂) (fun f s₂ p => ?_) fun _ _ e => e
    have fin : LpEnd h₀ env.locals (LpS Led ps x stored m₀ P (i + 1)) (own.filter fun p => decide (p.1 = I)) { s with heap := hh', toks := tk' } s₂ → LoopStepU h₀ env.locals [I] own (fun m nx => LpS Led ps x stored m₀ P (i + 1) m nx) { s with heap := hh', toks := tk' } .next s₂ := by
      rintro ⟨h', tk, m', news', nx, e, F', N', hn, ho, hoff', hJ⟩
      obtain ⟨c', rfl, hJ'⟩ := hJ
      refine ⟨rfl, h', tk, m', Led c', e, F', fun p hp => ?_, fun p hp hq => ?_, ⟨c', rfl, hJ'⟩⟩
      · rcases List.mem_append.mp hp with h | h
        · by_cases hpI : p.1 = I
          · exact N' p (ho p (List.mem_filter.mpr ⟨h, by simpa using hpI⟩))
          · rcases hfx p.1 (hown p h) with h3 | ⟨o, h3⟩ | ⟨o, h3⟩
            · exact absurd h3 hpI
            · have h4 := (N₁ _ (List.mem_append.mpr (.inr (hex c _ h3)))).1
              have h5 : hh'.get? p.1 = some p.2 := hget p h
              have h4 : hh'.get? p.1 = some o := h4
              rw [h5] at h4
              have h6 : p = (p.1, o) := Prod.ext rfl (Option.some.inj h4)
              rw [h6]
              exact N' _ (hn _ (hex c' _ h3))
            · have h4 := (N₁ p (List.mem_append.mpr (.inl h))).2.2
              rw [h3] at h4
              cases h4
        · exact N' p (hn p h)
      · exact hoff' (I, oI) (List.mem_filter.mpr ⟨hIown, by simp⟩) p.1 (List.mem_map.mpr ⟨p, hp, rfl⟩) (List.mem_singleton.mp hq).symm
    cases f with
    | ret v => exact .ret p
    | brk => exact .brk p
    | next => exact .next (fin p)
    | cont => exact .cont (fin p)
  · rintro h' tk m' news' F' N' _ ⟨c, rfl, h1, h2, hp'⟩
    exact done c m' h' tk hp' (kst_frOut h1 h2 F') N'
theorem lp_list {σ : Type} {l : Addr} {vs : List Value} {nn : Nat} {m₀ : Str → Option Value} (Led : σ → List (Addr × Obj)) (ps : σ → List (Str × Value)) (stored : List Str) (P : Nat → σ → Prop) (c₀ : σ)
    (hh : A.handled = none) (hl : ∀ c : σ, (l, listOf vs.toArray nn) ∈ Led c) (F : Fr h₀ env.locals s.heap m₀) (N : News h₀ env.locals s.heap (Led c₀)) (hk : ∀ p ∈ ps c₀, m₀ p.1 = some p.2) (hp : P 0 c₀)
    (turn : ∀ (c : σ) i v (u : Str → Option Value) h tk own, i < vs.length → vs[i]? = some v → OwnOff own ((Led c).map (·.1)) → P i c →
      Fr h₀ env.locals h (fun y => if y = x then some v else kstB (fun z => if stored.contains z then u z else m₀ z) (ps c) y) → News h₀ env.locals h (Led c ++ own) →
      wpAny (model prog w) A (execs body env) (LpPost h₀ env.locals (LpS Led ps x stored m₀ P (i + 1)) own { s with heap := h, toks := tk } Q) E { s with heap := h, toks := tk })
    (done : ∀ (c : σ) (u : Str → Option Value) h tk, P vs.length c → Fr h₀ env.locals h (fun y => if y = x then u y else kstB (fun z => if stored.contains z then u z else m₀ z) (ps c) y) → News h₀ env.locals h (Led c) → Q .next { s with heap := h, toks := tk }) :
    wpAny (model prog w) A (pyIter (.ref l)) (fun it s₂ => LoopAtV prog w A h₀ env x body Q E it s₂) E s := by
  have hol : s.heap.get? l = some (listOf vs.toArray nn) := (N _ (hl c₀)).1
  have hls : s.heap.IsList l vs.toArray := ⟨_, hol, rfl, nn, rfl⟩
  have hne : l ≠ s.heap.objs.size := Nat.ne_of_lt (Heap.lt_size hol)
  refine wpAny_pyIter_list hls ?_
  have W := Walks.list (prog := prog) (w := w) hh s.heap.objs.size l hne vs.toArray
  have hlen : vs.toArray.size = vs.length := by simp
  rw [hlen] at W
  refine lp_core Led ps stored P c₀ [(l, listOf vs.toArray nn)] W ?_ (next_is_new F) ?_ ?_ ?_ ?_ ⟨⟨_, Heap.get?_push_size _ rfl, rfl, rfl⟩, hls.at fun o e => Heap.get?_push_of_some _ e⟩ (F.push _) (fun p hp => ⟨Heap.get?_push_of_some _ (N p hp).1, (N p hp).2⟩) hk hp ?_ done
  · intro hm
    rcases List.mem_cons.mp hm with e | hm
    · exact absurd F.ns.lt (e ▸ Nat.lt_irrefl _)
    · exact (N _ (hl c₀)).2.1 ((List.mem_singleton.mp hm).symm)
  · intro b hb
    rcases List.mem_cons.mp hb with e | hb
    · exact .inl e
    · exact .inr (.inl ⟨_, by rw [List.mem_singleton.mp hb]; exact List.mem_singleton_self _⟩)
  · intro c e he
    rw [List.mem_singleton.mp he]
    exact hl c
  · intro p hp e
    exact absurd (Heap.lt_size (N p hp).1) (by rw [e]; exact Nat.lt_irrefl _)
  · rintro i h ⟨⟨o, ho, _⟩, _⟩
    exact ⟨o, ho⟩
  · intro c i v u h tk own hi hP
    exact turn c i v u h tk own hi (by simpa using hP)
theorem lp_range {σ : Type} {r : Addr} {a₀ b₀ : Int} {t₀ u₀ v₀ : Tok} {n : Nat} {m₀ : Str → Option Value} (Led : σ → List (Addr × Obj)) (ps : σ → List (Str × Value)) (stored : List Str) (P : Nat → σ → Prop) (c₀ : σ)
    (hh : A.handled = none) (hr : IsRange s.heap r a₀ b₀ 1 t₀ u₀ v₀) (hsmall : Builtin.Range.small a₀ b₀ 1 = true) (hn : Builtin.Range.rangeSize a₀ b₀ 1 = (n : Int)) (F : Fr h₀ env.locals s.heap m₀) (N : News h₀ env.locals s.heap (Led c₀)) (hk : ∀ p ∈ ps c₀, m₀ p.1 = some p.2) (hp : P 0 c₀)
    (turn : ∀ (c : σ) (i : Nat) t (u : Str → Option Value) h tk own, i < n → OwnOff own ((Led c).map (·.1)) → P i c →
      Fr h₀ env.locals h (fun y => if y = x then some (.int (a₀ + (i : Int)) t) else kstB (fun z => if stored.contains z then u z else m₀ z) (ps c) y) → News h₀ env.locals h (Led c ++ own) →
      wpAny (model prog w) A (execs body env) (LpPost h₀ env.locals (LpS Led ps x stored m₀ P (i + 1)) own { s with heap := h, toks := tk } Q) E { s with heap := h, toks := tk })
    (done : ∀ (c : σ) (u : Str → Option Value) h tk, P n c → Fr h₀ env.locals h (fun y => if y = x then u y else kstB (fun z => if stored.contains z then u z else m₀ z) (ps c) y) → News h₀ env.locals h (Led c) → Q .next { s with heap := h, toks := tk }) :
    wpAny (model prog w) A (pyIter (.ref r)) (fun it s₂ => LoopAtV prog w A h₀ env x body Q E it s₂) E s := by
  refine wpAny_pyIter_range hr hsmall ?_
  have W : Walks prog w A s.heap.objs.size [s.heap.objs.size] [s.heap.objs.size] n (fun i v => i < n ∧ ∃ t, v = .int (a₀ + i * 1) t)
      (fun i h => IsRangeIter h s.heap.objs.size (a₀ + (i : Nat) * 1) ((n : Int) - (i : Nat)) 1) := (Walks.range hh _ a₀ 1 n).bound
  refine lp_core Led ps stored P c₀ [] W ?_ (next_is_new F) (fun b hb => .inl (List.mem_singleton.mp hb)) (fun _ _ h => (nomatch h)) ?_ ?_ (by show IsRangeIter _ _ _ _ _; rw [hn]; simpa using Heap.get?_push_size _ rfl) (F.push _) (fun p hp => ⟨Heap.get?_push_of_some _ (N p hp).1, (N p hp).2⟩) hk hp ?_ done
  · intro hm
    exact absurd F.ns.lt ((List.mem_singleton.mp hm) ▸ Nat.lt_irrefl _)
  · intro p hp e
    exact absurd (Heap.lt_size (N p hp).1) (by rw [e]; exact Nat.lt_irrefl _)
  · intro i h st
    exact ⟨_, st⟩
  · rintro c i v u h tk own hi ⟨_, t, rfl⟩ hoff hp' F₁ N₁
    have e1 : a₀ + (i : Int) * 1 = a₀ + (i : Int) := by omega
    rw [e1] at F₁
    exact turn c i t u h tk own hi hoff hp' F₁ N₁
theorem lp_rangeL {σ : Type} {r L : Addr} {a₀ b₀ : Int} {t₀ u₀ v₀ : Tok} {n : Nat} {m₀ : Str → Option Value} (Led : σ → List (Addr × Obj)) (ps : σ → List (Str × Value)) (stored : List Str) (P : Nat → σ → Prop) (c₀ : σ) (hL : env.locals = L)
    (hh : A.handled = none) (hr : IsRange s.heap r a₀ b₀ 1 t₀ u₀ v₀) (hsmall : Builtin.Range.small a₀ b₀ 1 = true) (hn : Builtin.Range.rangeSize a₀ b₀ 1 = (n : Int)) (F : Fr h₀ L s.heap m₀) (N : News h₀ L s.heap (Led c₀)) (hk : ∀ p ∈ ps c₀, m₀ p.1 = some p.2) (hp : P 0 c₀)
    (turn : ∀ (c : σ) (i : Nat) t (u : Str → Option Value) h tk own, i < n → OwnOff own ((Led c).map (·.1)) → P i c →
      Fr h₀ L h (fun y => if y = x then some (.int (a₀ + (i : Int)) t) else kstB (fun z => if stored.contains z then u z else m₀ z) (ps c) y) → News h₀ L h (Led c ++ own) →
      wpAny (model prog w) A (execs body env) (LpPost h₀ L (LpS Led ps x stored m₀ P (i + 1)) own { s with heap := h, toks := tk } Q) E { s with heap := h, toks := tk })
    (done : ∀ (c : σ) (u : Str → Option Value) h tk, P n c → Fr h₀ L h (fun y => if y = x then u y else kstB (fun z => if stored.contains z then u z else m₀ z) (ps c) y) → News h₀ L h (Led c) → Q .next { s with heap := h, toks := tk }) :
    wpAny (model prog w) A (pyIter (.ref r)) (fun it s₂ => LoopAtV prog w A h₀ env x body Q E it s₂) E s := by
  subst hL
  exact lp_range Led ps stored P c₀ hh hr hsmall hn F N hk hp turn done
theorem lp_listL {σ : Type} {l L : Addr} {vs : List Value} {nn : Nat} {m₀ : Str → Option Value} (Led : σ → List (Addr × Obj)) (ps : σ → List (Str × Value)) (stored : List Str) (P : Nat → σ → Prop) (c₀ : σ) (hL : env.locals = L)
    (hh : A.handled = none) (hl : ∀ c : σ, (l, listOf vs.toArray nn) ∈ Led c) (F : Fr h₀ L s.heap m₀) (N : News h₀ L s.heap (Led c₀)) (hk : ∀ p ∈ ps c₀, m₀ p.1 = some p.2) (hp : P 0 c₀)
    (turn : ∀ (c : σ) i v (u : Str → Option Value) h tk own, i < vs.length → vs[i]? = some v → OwnOff own ((Led c).map (·.1)) → P i c →
      Fr h₀ L h (fun y => if y = x then some v else kstB (fun z => if stored.contains z then u z else m₀ z) (ps c) y) → News h₀ L h (Led c ++ own) →
      wpAny (model prog w) A (execs body env) (LpPost h₀ L (LpS Led ps x stored m₀ P (i + 1)) own { s with heap := h, toks := tk } Q) E { s with heap := h, toks := tk })
    (done : ∀ (c : σ) (u : Str → Option Value) h tk, P vs.length c → Fr h₀ L h (fun y => if y = x then u y else kstB (fun z => if stored.contains z then u z else m₀ z) (ps c) y) → News h₀ L h (Led c) → Q .next { s with heap := h, toks := tk }) :
    wpAny (model prog w) A (pyIter (.ref l)) (fun it s₂ => LoopAtV prog w A h₀ env x body Q E it s₂) E s := by
  subst hL
  exact lp_list Led ps stored P c₀ hh hl F N hk hp turn done
end
end
local macro_rules | `(tactic| walk_at $s:str) => `(tactic| k_extra $(Lean.Syntax.mkStrLit ("my " ++ s.getString)))
local macro_rules | `(tactic| walk_at "LpPost") => `(tactic| (dsimp only [LpPost]))
local macro_rules | `(tactic| walk_at "call builtin:list.append") => `(tactic| first | k_extra "my call builtin:list.append" | (simp only [List.cons_append, List.nil_append]))
local macro_rules | `(tactic| k_mem) => `(tactic| k_extra "k_mem")
local macro_rules | `(tactic| k_ne) => `(tactic| k_extra "k_ne")
local macro_rules | `(tactic| k_lt $_) => `(tactic| skip)
local macro_rules | `(tactic| ktr_room) => `(tactic| k_extra "rm")
local macro_rules | `(tactic| ktr_units) => `(tactic| k_extra "rm")
local macro_rules | `(tactic| size_fits) => `(tactic| k_extra "sz")
-- part P1
section
theorem top_off_P1 : True := by
  w_top off
  exact True.intro
noncomputable def q257 : List Nat → List Nat
  | [] => []
  | [c] => if c = 34 then [] else [c]
  | c :: d :: r => if c = 34 then (if d = 34 then 34 :: q257 r else []) else c :: q257 (d :: r)
noncomputable def W257 (x d : Str) (i : Int) : Prop := d.cps.toList ++ q257 (x.cps.toList.drop i.toNat) = q257 (x.cps.toList.drop 5)
theorem w257_start {x : Str} (h5 : Txt.slice x (some 3) (some 5) = Str.ofString " \"" → 5 ≤ x.length) (h : (Txt.slice x (some 3) (some 5) != Str.ofString " \"") = false) : (5:Int) ≤ 5 ∧ (5:Int) ≤ x.length ∧ ((Str.ofString "").length : Int) ≤ 5 ∧ W257 x (Str.ofString "") 5 := by
  have h5 := h5 (by simpa using h)
  refine ⟨by omega, by omega, by show (0:Int) ≤ (5:Int); omega, ?_⟩
  show [] ++ _ = _
  rfl
theorem item_drop {x : Str} {i : Int} (h0 : 0 ≤ i) (h1 : i < x.length) : ∃ c, Txt.item x i = ⟨#[c]⟩ ∧ x.cps.toList.drop i.toNat = c :: x.cps.toList.drop (i + 1).toNat := by
  have hl : i.toNat < x.cps.toList.length := by simp [Str.length] at h1 ⊢; omega
  have hs : i.toNat < x.cps.size := by simpa using hl
  refine ⟨x.cps.toList[i.toNat], item_meets h0 (by simp [hs]), ?_⟩
  have e : (i + 1).toNat = i.toNat + 1 := by omega
  rw [e]
  exact List.drop_eq_getElem_cons hl
theorem quote_cps : Str.ofString "\"" = ⟨#[34]⟩ := by decide +kernel
theorem q_cons {c : Nat} (h : c ≠ 34) (r : List Nat) : q257 (c :: r) = c :: q257 r := by
  cases r with
  | nil => simp [q257, h]
  | cons d r => simp [q257, h]
theorem app_len (d : Str) (c : Nat) : ((d ++ (⟨#[c]⟩ : Str)).length : Int) = d.length + 1 := by
  rw [Str.length_append]; rfl
theorem app_cps (d : Str) (c : Nat) : (d ++ (⟨#[c]⟩ : Str)).cps.toList = d.cps.toList ++ [c] := by
  rw [Str.cps_append]; simp
theorem w257_a {x d : Str} {i : Int} (h0 : 5 ≤ i) (h1 : i < x.length) (hd : (d.length : Int) ≤ i) (W : W257 x d i) (h : (Txt.item x i == Str.ofString "\"") = false) :
    5 ≤ i + 1 ∧ i + 1 ≤ x.length ∧ ((d ++ Txt.item x i).length : Int) ≤ i + 1 ∧ W257 x (d ++ Txt.item x i) (i + 1) := by
  obtain ⟨c, e, ed⟩ := item_drop (by omega : 0 ≤ i) h1
  rw [e, quote_cps] at h
  have hc : c ≠ 34 := by intro q; subst q; simp at h
  rw [e]
  refine ⟨by omega, by omega, by rw [app_len]; omega, ?_⟩
  unfold W257 at W ⊢
  rw [ed, q_cons hc] at W
  rw [app_cps, List.append_assoc]
  exact W
theorem w257_b {x d : Str} {i : Int} (h0 : 5 ≤ i) (h1 : i < x.length) (h2 : ¬ (x.length : Int) ≤ i + 1) (hd : (d.length : Int) ≤ i) (W : W257 x d i) (h : (Txt.item x i == Str.ofString "\"") = true) (h' : (Txt.item x (i + 1) != Str.ofString "\"") = false) :
    5 ≤ i + 1 + 1 ∧ i + 1 + 1 ≤ x.length ∧ ((d ++ Txt.item x i).length : Int) ≤ i + 1 + 1 ∧ W257 x (d ++ Txt.item x i) (i + 1 + 1) := by
  obtain ⟨c, e, ed⟩ := item_drop (by omega : 0 ≤ i) h1
  obtain ⟨c', e', ed'⟩ := item_drop (x := x) (i := i + 1) (by omega) (by omega)
  rw [e, quote_cps] at h
  rw [e', quote_cps] at h'
  have hc : c = 34 := by simpa using h
  have hc' : c' = 34 := by simpa using h'
  subst hc hc'
  rw [e]
  refine ⟨by omega, by omega, by rw [app_len]; omega, ?_⟩
  unfold W257 at W ⊢
  rw [ed, ed'] at W
  simp only [q257, if_true] at W
  rw [app_cps, List.append_assoc]
  exact W
theorem w257_end1 {x d : Str} {i : Int} (h0 : 5 ≤ i) (h1 : ¬ i < x.length) (W : W257 x d i) : d = ⟨(q257 (x.cps.toList.drop 5)).toArray⟩ := by
  unfold W257 at W
  rw [List.drop_eq_nil_of_le (by simp [Str.length] at h1 ⊢; omega)] at W
  rw [← W]
  simp [q257]
theorem w257_end2 {x d : Str} {i : Int} (h0 : 5 ≤ i) (h1 : i < x.length) (h2 : (x.length : Int) ≤ i + 1) (W : W257 x d i) (h : (Txt.item x i == Str.ofString "\"") = true) : d = ⟨(q257 (x.cps.toList.drop 5)).toArray⟩ := by
  obtain ⟨c, e, ed⟩ := item_drop (by omega : 0 ≤ i) h1
  rw [e, quote_cps] at h
  have hc : c = 34 := by simpa using h
  subst hc
  unfold W257 at W
  rw [ed, List.drop_eq_nil_of_le (by simp [Str.length] at h2 ⊢; omega)] at W
  rw [← W]
  simp [q257]
theorem w257_end3 {x d : Str} {i : Int} (h0 : 5 ≤ i) (h1 : i < x.length) (h2 : ¬ (x.length : Int) ≤ i + 1) (W : W257 x d i) (h : (Txt.item x i == Str.ofString "\"") = true) (h' : (Txt.item x (i + 1) != Str.ofString "\"") = true) : d = ⟨(q257 (x.cps.toList.drop 5)).toArray⟩ := by
  obtain ⟨c, e, ed⟩ := item_drop (by omega : 0 ≤ i) h1
  obtain ⟨c', e', ed'⟩ := item_drop (x := x) (i := i + 1) (by omega) (by omega)
  rw [e, quote_cps] at h
  rw [e', quote_cps] at h'
  have hc : c = 34 := by simpa using h
  have hc' : c' ≠ 34 := by intro q; subst q; simp at h'
  subst hc
  unfold W257 at W
  rw [ed, ed'] at W
  simp only [q257, if_true, if_neg hc'] at W
  rw [← W]
  simp

noncomputable def p257v (x : Str) : Str := if Txt.slice x (some 3) (some 5) = Str.ofString " \"" then ⟨(q257 (x.cps.toList.drop 5)).toArray⟩ else Str.ofString ""
theorem q257_len : ∀ l : List Nat, (q257 l).length ≤ l.length
  | [] => Nat.le_refl _
  | [c] => by
    unfold q257
    split <;> simp
  | c :: d :: r => by
    have h1 := q257_len r
    have h2 := q257_len (d :: r)
    unfold q257
    split
    · split
      · simp; omega
      · simp
    · simp only [List.length_cons] at h2 ⊢; omega
theorem p257v_len (x : Str) : (p257v x).length + 5 ≤ x.length ∨ (p257v x).length = 0 := by
  unfold p257v
  split
  · have h := q257_len (x.cps.toList.drop 5)
    simp only [List.length_drop, Array.length_toList] at h
    by_cases h5 : 5 ≤ x.cps.size
    · left
      show (q257 (x.cps.toList.drop 5)).toArray.size + 5 ≤ x.cps.size
      rw [List.size_toArray]
      omega
    · right
      show (q257 (x.cps.toList.drop 5)).toArray.size = 0
      rw [List.size_toArray]
      omega
  · right; rfl
theorem len_pre (s e : Str) : (Str.ofString "257 \"" ++ s ++ e).length = 5 + s.length + e.length := by
  rw [Str.length_append, Str.length_append]
  have : (Str.ofString "257 \"").length = 5 := by decide +kernel
  omega
theorem pre_cps : (Str.ofString "257 \"").cps.toList = [50, 53, 55, 32, 34] := by decide +kernel
theorem pre_list (s e : Str) : (Str.ofString "257 \"" ++ s ++ e).cps.toList = 50 :: 53 :: 55 :: 32 :: 34 :: (s.cps.toList ++ e.cps.toList) := by
  rw [Str.cps_append, Str.cps_append, Array.toList_append, Array.toList_append, pre_cps]
  simp
theorem pre_slice (s e : Str) : Txt.slice (Str.ofString "257 \"" ++ s ++ e) none (some 3) = Str.ofString "257" := by
  have h := slice_closes_to (x := Str.ofString "257 \"" ++ s ++ e) (j := 3) ⟨by decide, by rw [pre_list]; simp only [List.length_cons]; omega⟩
  rw [beq_iff_eq] at h
  rw [h, pre_list]
  show (⟨[50, 53, 55].toArray⟩ : Str) = _
  decide +kernel
end
-- part PXor
section
theorem top_off_PXor : True := by
  w_top off
  exact True.intro
theorem bx_fin2 : ∀ a b : Fin 2, 0 ≤ Builtin.bitXor (a.val : Int) (b.val : Int) ∧ Builtin.bitXor (a.val : Int) (b.val : Int) < 2 := by decide +kernel
theorem bx_fin4 : ∀ a b : Fin 4, 0 ≤ Builtin.bitXor (a.val : Int) (b.val : Int) ∧ Builtin.bitXor (a.val : Int) (b.val : Int) < 4 := by decide +kernel
theorem bx_fin16 : ∀ a b : Fin 16, 0 ≤ Builtin.bitXor (a.val : Int) (b.val : Int) ∧ Builtin.bitXor (a.val : Int) (b.val : Int) < 16 := by decide +kernel
theorem to_fin {n : Nat} {P : Int → Prop} (h : ∀ a : Fin n, P (a.val : Int)) {x : Int} (h0 : 0 ≤ x) (h1 : x < n) : P x := by
  have e : ((⟨x.toNat, by omega⟩ : Fin n).val : Int) = x := by show ((x.toNat : Nat) : Int) = x; omega
  have := h ⟨x.toNat, by omega⟩
  rw [e] at this
  exact this
theorem bx2 {x y : Int} (h0 : 0 ≤ x) (h1 : x < 2) (k0 : 0 ≤ y) (k1 : y < 2) : 0 ≤ Builtin.bitXor x y ∧ Builtin.bitXor x y < 2 :=
  to_fin (n := 2) (P := fun x => 0 ≤ Builtin.bitXor x y ∧ Builtin.bitXor x y < 2) (fun a => to_fin (n := 2) (P := fun y => 0 ≤ Builtin.bitXor (a.val : Int) y ∧ Builtin.bitXor (a.val : Int) y < 2) (fun b => bx_fin2 a b) k0 k1) h0 h1
theorem bx4 {x y : Int} (h0 : 0 ≤ x) (h1 : x < 4) (k0 : 0 ≤ y) (k1 : y < 4) : 0 ≤ Builtin.bitXor x y ∧ Builtin.bitXor x y < 4 :=
  to_fin (n := 4) (P := fun x => 0 ≤ Builtin.bitXor x y ∧ Builtin.bitXor x y < 4) (fun a => to_fin (n := 4) (P := fun y => 0 ≤ Builtin.bitXor (a.val : Int) y ∧ Builtin.bitXor (a.val : Int) y < 4) (fun b => bx_fin4 a b) k0 k1) h0 h1
theorem bx16 {x y : Int} (h0 : 0 ≤ x) (h1 : x < 16) (k0 : 0 ≤ y) (k1 : y < 16) : 0 ≤ Builtin.bitXor x y ∧ Builtin.bitXor x y < 16 :=
  to_fin (n := 16) (P := fun x => 0 ≤ Builtin.bitXor x y ∧ Builtin.bitXor x y < 16) (fun a => to_fin (n := 16) (P := fun y => 0 ≤ Builtin.bitXor (a.val : Int) y ∧ Builtin.bitXor (a.val : Int) y < 16) (fun b => bx_fin16 a b) k0 k1) h0 h1
end
-- part Pick
section
theorem top_off_Pick : True := by
  w_top off
  exact True.intro
section
variable {prog : Program} {w : World} {A : Around} {E : Value → Shared → Prop} {s : Shared}
theorem pick_item {value slice : PySem.Expr} {l : Addr} {vs : List Value} {n : Nat} {k : Int} {u : Tok} {v : Value} {Q : Value → Shared → Prop} {h₀ : Heap} {L : Addr} {news : List (Addr × Obj)}
    (N : News h₀ L s.heap news) (hm : (l, listOf vs.toArray n) ∈ news) (h0 : 0 ≤ k) (hhi : k < 2 ^ 63) (hx : vs[k.toNat]? = some v) (h : Q v s)
    (hs : subscripted slice false (.ref l) (.int k u) = operate [.ref l, .int k u] (getItem (.ref l) (.int k u)) := by with_unfolding_all rfl) :
    wpAny (model prog w) A (subscriptTail value slice (.ref l) (.int k u)) Q E s :=
  tail_any (News.isList N hm).typeIs slot_list_getitem.lookup (wpAny_getItem_list (News.isList N hm) h0 hhi (by simpa using hx) h) hs
end
noncomputable def pkS (l : List Str) (k : Int) : Str := l.getD k.toNat ⟨#[]⟩
noncomputable def pkT (l : List Tok) (k : Int) : Tok := l.getD k.toNat 0
theorem pk_str {l : List Str} {ts : List Tok} {k : Int} (h0 : 0 ≤ k) (h1 : k < l.length) (ht : ts.length = l.length) : (List.zipWith Value.str l ts)[k.toNat]? = some (.str (pkS l k) (pkT ts k)) := by
  have hl : k.toNat < l.length := by omega
  have hl' : k.toNat < ts.length := by omega
  unfold pkS pkT
  rw [List.getElem?_zipWith, List.getElem?_eq_getElem hl, List.getElem?_eq_getElem hl']
  simp [List.getD, hl, hl']
theorem pkS_all {l : List Str} {k : Int} {P : Str → Prop} (h0 : 0 ≤ k) (h1 : k < l.length) (h : ∀ x ∈ l, P x) : P (pkS l k) := by
  have hl : k.toNat < l.length := by omega
  have e : pkS l k = l[k.toNat] := by unfold pkS; simp [List.getD, hl]
  rw [e]
  exact h _ (List.getElem_mem hl)
theorem pk2 {a b : Str} {ta tb : Tok} {k : Int} (h0 : 0 ≤ k) (h1 : k < 2) : [Value.str a ta, Value.str b tb][k.toNat]? = some (.str (pkS [a, b] k) (pkT [ta, tb] k)) := pk_str (l := [a, b]) (ts := [ta, tb]) h0 h1 rfl
theorem pk4 {a b c d : Str} {ta tb tc td : Tok} {k : Int} (h0 : 0 ≤ k) (h1 : k < 4) : [Value.str a ta, Value.str b tb, Value.str c tc, Value.str d td][k.toNat]? = some (.str (pkS [a, b, c, d] k) (pkT [ta, tb, tc, td] k)) := pk_str (l := [a, b, c, d]) (ts := [ta, tb, tc, td]) h0 h1 rfl
theorem pk6 {a b c d e f : Str} {ta tb tc td te tf : Tok} {k : Int} (h0 : 0 ≤ k) (h1 : k < 6) : [Value.str a ta, Value.str b tb, Value.str c tc, Value.str d td, Value.str e te, Value.str f tf][k.toNat]? = some (.str (pkS [a, b, c, d, e, f] k) (pkT [ta, tb, tc, td, te, tf] k)) := pk_str (l := [a, b, c, d, e, f]) (ts := [ta, tb, tc, td, te, tf]) h0 h1 rfl
theorem fm_lo (x : Int) {m : Int} (h : 0 < m) : 0 ≤ x.fmod m := Int.fmod_nonneg_of_pos x h
theorem fm_hi (x : Int) {m : Int} (h : 0 < m) : x.fmod m < m := Int.fmod_lt_of_pos x h
noncomputable def pkA (l : List Addr) (k : Int) : Addr := l.getD k.toNat 0
theorem pk_ref {l : List Addr} {k : Int} (h0 : 0 ≤ k) (h1 : k < l.length) : (l.map Value.ref)[k.toNat]? = some (.ref (pkA l k)) := by
  have hl : k.toNat < l.length := by omega
  unfold pkA
  rw [List.getElem?_map, List.getElem?_eq_getElem hl]
  simp [List.getD, hl]
theorem pkr6 {a b c d e f : Addr} {k : Int} (h0 : 0 ≤ k) (h1 : k < 6) : [Value.ref a, Value.ref b, Value.ref c, Value.ref d, Value.ref e, Value.ref f][k.toNat]? = some (.ref (pkA [a, b, c, d, e, f] k)) := pk_ref (l := [a, b, c, d, e, f]) h0 h1
noncomputable def pkI (l : List Int) (k : Int) : Int := l.getD k.toNat 0
theorem pk_int {l : List Int} {ts : List Tok} {k : Int} (h0 : 0 ≤ k) (h1 : k < l.length) (ht : ts.length = l.length) : (List.zipWith Value.int l ts)[k.toNat]? = some (.int (pkI l k) (pkT ts k)) := by
  have hl : k.toNat < l.length := by omega
  have hl' : k.toNat < ts.length := by omega
  unfold pkI pkT
  rw [List.getElem?_zipWith, List.getElem?_eq_getElem hl, List.getElem?_eq_getElem hl']
  simp [List.getD, hl, hl']
noncomputable def pkV (l : List Value) (k : Int) : Value := l.getD k.toNat .none
theorem pk_val {l : List Value} {k : Int} (h0 : 0 ≤ k) (h1 : k < l.length) : l[k.toNat]? = some (pkV l k) := by
  have hl : k.toNat < l.length := by omega
  unfold pkV
  simp [List.getD, hl]
theorem news_swap {h₀ h : Heap} {L : Addr} {x y : Addr × Obj} {T R : List (Addr × Obj)} (N : News h₀ L h (x :: (T ++ y :: R))) : News h₀ L h (x :: y :: (T ++ R)) := by
  refine kst_newsOf N fun p hp => ?_
  simp only [List.mem_append, List.mem_cons] at hp ⊢
  rcases hp with h | h | h | h
  · exact .inl h
  · exact .inr (.inr (.inl h))
  · exact .inr (.inl h)
  · exact .inr (.inr (.inr h))
theorem star_List {es : List PySem.Expr} {p : Pos} {rest : List PySem.Expr} {env : Env} : starEach (.List es p :: rest) env = (false, eval (.List es p) env) :: starEach rest env := rfl
theorem star_Comp {a : PySem.Expr} {c : List Comprehension} {sc : Scope} {p : Pos} {rest : List PySem.Expr} {env : Env} : starEach (.ListComp a c sc p :: rest) env = (false, eval (.ListComp a c sc p) env) :: starEach rest env := rfl
theorem star_Bin {a b : PySem.Expr} {o : Operator} {p : Pos} {rest : List PySem.Expr} {env : Env} : starEach (.BinOp a o b p :: rest) env = (false, eval (.BinOp a o b p) env) :: starEach rest env := rfl
theorem star_Call {a : PySem.Expr} {b : List PySem.Expr} {k : List Keyword} {p : Pos} {rest : List PySem.Expr} {env : Env} : starEach (.Call a b k p :: rest) env = (false, eval (.Call a b k p) env) :: starEach rest env := rfl
theorem star_Sub {a b : PySem.Expr} {p : Pos} {rest : List PySem.Expr} {env : Env} : starEach (.Subscript a b p :: rest) env = (false, eval (.Subscript a b p) env) :: starEach rest env := rfl
theorem star_Name {a : Str} {p : Pos} {rest : List PySem.Expr} {env : Env} : starEach (.Name a p :: rest) env = (false, eval (.Name a p) env) :: starEach rest env := rfl
theorem plain_nil {env : Env} {pos : Pos} : (backTo pos (starEach [] env)).any (·.1) = false := rfl
theorem cat_lists {prog : Program} {w : World} {A : Around} {E : Value → Shared → Prop} {s : Shared} {h₀ : Heap} {L l b : Addr} {m : Str → Option Value} {news : List (Addr × Obj)} {vs ws : List Value} {n k : Nat} {Q : Value → Shared → Prop} (F : Fr h₀ L s.heap m) (N : News h₀ L s.heap news)
    (hl : (l, listOf vs.toArray n) ∈ news) (hb : (b, listOf ws.toArray k) ∈ news) (hz : vs.length + ws.length ≤ 10000)
    (h : ∀ d h', Fr h₀ L h' m → News h₀ L h' ((d, listOf (vs ++ ws).toArray 0) :: news) → (∀ p ∈ news, p.1 < d) → Q (.ref d) { s with heap := h' }) : wpAny (model prog w) A (binaryOp .Add (.ref l) (.ref b)) Q E s :=
  add_lists (vs := vs) (ws := ws) (hsz := by simp only [PySem.sizeLine_eq]; omega) F N (News.isList N hl) (News.isList N hb) (fun h' F' N' => h _ h' F' N' fun p hp => Heap.lt_size (N p hp).1)
end
-- part Coins
section
theorem top_off_Coins : True := by
  w_top off
  exact True.intro
noncomputable abbrev tupOf (vs : List Value) (n : Nat) : Obj := { cls := .type "tuple", data := .seq vs.toArray n }
noncomputable def PairAt (T : List (Addr × Obj)) (v : Value) (c : Int × Int) : Prop := ∃ q n ta tb, v = .ref q ∧ (q, tupOf [.int c.1 ta, .int c.2 tb] n) ∈ T
noncomputable def PairsAre (T : List (Addr × Obj)) : List Value → List (Int × Int) → Prop
  | [], [] => True
  | v :: vs, c :: cs => PairAt T v c ∧ PairsAre T vs cs
  | _, _ => False
noncomputable def CoinsAt (T : List (Addr × Obj)) (v : Value) (cs : List (Int × Int)) : Prop := ∃ l n vs, v = .ref l ∧ (l, listOf vs.toArray n) ∈ T ∧ PairsAre T vs cs
noncomputable def ListsAre (T : List (Addr × Obj)) : List Value → List (List (Int × Int)) → Prop
  | [], [] => True
  | v :: vs, c :: cs => CoinsAt T v c ∧ ListsAre T vs cs
  | _, _ => False
theorem PairAt.mono {T T' : List (Addr × Obj)} {v : Value} {c : Int × Int} (h : PairAt T v c) (s : ∀ p ∈ T, p ∈ T') : PairAt T' v c := let ⟨q, n, ta, tb, e, hm⟩ := h; ⟨q, n, ta, tb, e, s _ hm⟩
theorem PairsAre.mono {T T' : List (Addr × Obj)} (s : ∀ p ∈ T, p ∈ T') : ∀ {vs : List Value} {cs : List (Int × Int)}, PairsAre T vs cs → PairsAre T' vs cs
  | [], [], _ => trivial
  | _ :: _, _ :: _, h => ⟨h.1.mono s, PairsAre.mono s h.2⟩
  | [], _ :: _, h => h
  | _ :: _, [], h => h
theorem CoinsAt.mono {T T' : List (Addr × Obj)} {v : Value} {c : List (Int × Int)} (h : CoinsAt T v c) (s : ∀ p ∈ T, p ∈ T') : CoinsAt T' v c := let ⟨l, n, vs, e, hm, hp⟩ := h; ⟨l, n, vs, e, s _ hm, hp.mono s⟩
theorem ListsAre.mono {T T' : List (Addr × Obj)} (s : ∀ p ∈ T, p ∈ T') : ∀ {vs : List Value} {cs : List (List (Int × Int))}, ListsAre T vs cs → ListsAre T' vs cs
  | [], [], _ => trivial
  | _ :: _, _ :: _, h => ⟨h.1.mono s, ListsAre.mono s h.2⟩
  | [], _ :: _, h => h
  | _ :: _, [], h => h
noncomputable def coinOf (e : PySem.Expr) : Option (Int × Int) := match e with
  | .Tuple [.Constant (.int a) _ _, .Constant (.int b) _ _] _ _ => some (a, b)
  | _ => none
noncomputable def coinsIn : List PySem.Expr → Option (List (Int × Int))
  | [] => some []
  | e :: es => (coinOf e).bind fun c => (coinsIn es).map (c :: ·)
noncomputable def coinsOf (e : PySem.Expr) : Option (List (Int × Int)) := match e with
  | .List es _ => if es.length ≤ 8 then coinsIn es else none
  | _ => none
noncomputable def listsIn : List PySem.Expr → Option (List (List (Int × Int)))
  | [] => some []
  | e :: es => (coinsOf e).bind fun c => (listsIn es).map (c :: ·)
section
variable {M : Model} {A : Around} {E : Value → Shared → Prop} {env : Env} {h₀ : Heap} {L : Addr} {m : Str → Option Value}
theorem eval_coin {e : PySem.Expr} {c : Int × Int} {s : Shared} {news : List (Addr × Obj)} {Q : Value → Shared → Prop} (he : coinOf e = some c) (F : Fr h₀ L s.heap m) (N : News h₀ L s.heap news)
    (h : ∀ v p h' tk, Fr h₀ L h' m → News h₀ L h' (p :: news) → (∀ q ∈ news, q.1 < p.1) → PairAt [p] v c → Q v { s with heap := h', toks := tk }) : wpAny M A (eval e env) Q E s ∧ ∀ rest, starEach (e :: rest) env = (false, eval e env) :: starEach rest env := by
  unfold coinOf at he
  split at he
  · rename_i a _ _ b _ _ _ _
    cases he
    refine ⟨Tuple_ (spliced_more (wpAny_Constant_int (spliced_more (wpAny_Constant_int (spliced_none ?_))))), fun _ => rfl⟩
    refine newTuple_N F N (fun h' F' N' => ?_)
    exact h _ _ h' _ F' N' (fun q hq => Heap.lt_size (N q hq).1) ⟨_, _, _, _, rfl, List.mem_singleton_self _⟩
  · cases he
theorem eval_coins : ∀ {es : List PySem.Expr} {cs : List (Int × Int)} {pos : Pos} {s : Shared} {news : List (Addr × Obj)} {Q : List Value → Shared → Prop}, coinsIn es = some cs → Fr h₀ L s.heap m → News h₀ L s.heap news →
    (∀ vs T h' tk, Fr h₀ L h' m → News h₀ L h' (T ++ news) → (∀ p ∈ T, ∀ q ∈ news, q.1 < p.1) → PairsAre T vs cs → vs.length = es.length → Q vs { s with heap := h', toks := tk }) → wpAny M A (spliced (backTo pos (starEach es env))) Q E s
  | [], cs, pos, s, news, Q, he, F, N, h => by
    cases he
    exact spliced_none (h [] [] s.heap s.toks F N (fun _ hp => nomatch hp) trivial rfl)
  | e :: es, cs, pos, s, news, Q, he, F, N, h => by
    simp only [coinsIn] at he
    cases hc : coinOf e with
    | none => simp [hc] at he
    | some c =>
      cases hr : coinsIn es with
      | none => simp [hc, hr] at he
      | some cs' =>
        simp [hc, hr] at he
        subst he
        refine spliced_more ?_ ((eval_coin (M := M) (A := A) (E := E) (Q := fun _ _ => True) hc F N (fun _ _ _ _ _ _ _ _ => trivial)).2 es)
        refine (eval_coin hc F N fun v p h' tk F' N' hlt hv => ?_).1
        refine eval_coins (s := { s with heap := h', toks := tk }) hr F' N' fun vs T h'' tk' F'' N'' hlt' hvs hl => ?_
        refine h (v :: vs) (T ++ [p]) h'' tk' F'' (by simpa using N'') ?_ ⟨hv.mono fun q hq => List.mem_append.mpr (.inr hq), hvs.mono fun q hq => List.mem_append.mpr (.inl hq)⟩ (by simp [hl])
        intro q hq r hr'
        rcases List.mem_append.mp hq with hq | hq
        · exact hlt' q hq r (List.mem_cons_of_mem _ hr')
        · rw [List.mem_singleton.mp hq]; exact hlt r hr'
theorem eval_coinList {e : PySem.Expr} {c : List (Int × Int)} {s : Shared} {news : List (Addr × Obj)} {Q : Value → Shared → Prop} (he : coinsOf e = some c) (F : Fr h₀ L s.heap m) (N : News h₀ L s.heap news)
    (h : ∀ v T h' tk, Fr h₀ L h' m → News h₀ L h' (T ++ news) → (∀ p ∈ T, ∀ q ∈ news, q.1 < p.1) → CoinsAt T v c → Q v { s with heap := h', toks := tk }) : wpAny M A (eval e env) Q E s ∧ ∀ rest, starEach (e :: rest) env = (false, eval e env) :: starEach rest env := by
  unfold coinsOf at he
  split at he
  · rename_i es pos
    split at he
    · rename_i hlen
      refine ⟨List_ (eval_coins he F N fun vs T h' tk F' N' hlt hvs hl => ?_), fun _ => rfl⟩
      refine newList_N F' N' (fun h'' F'' N'' => ?_) (hsz := by rw [hl]; simp only [PySem.sizeLine_eq]; omega)
      refine h _ ((_, _) :: T) h'' _ F'' N'' (fun p hp q hq => ?_) ⟨_, _, vs, rfl, List.mem_cons_self, hvs.mono fun p hp => List.mem_cons_of_mem _ hp⟩
      rcases List.mem_cons.mp hp with hp | hp
      · rw [hp]; exact Heap.lt_size (N' q (List.mem_append.mpr (.inr hq))).1
      · exact hlt p hp q hq
    · cases he
  · cases he
theorem eval_lists : ∀ {es : List PySem.Expr} {cs : List (List (Int × Int))} {pos : Pos} {s : Shared} {news : List (Addr × Obj)} {Q : List Value → Shared → Prop}, listsIn es = some cs → Fr h₀ L s.heap m → News h₀ L s.heap news →
    (∀ vs T h' tk, Fr h₀ L h' m → News h₀ L h' (T ++ news) → (∀ p ∈ T, ∀ q ∈ news, q.1 < p.1) → ListsAre T vs cs → vs.length = es.length → Q vs { s with heap := h', toks := tk }) → wpAny M A (spliced (backTo pos (starEach es env))) Q E s
  | [], cs, pos, s, news, Q, he, F, N, h => by
    cases he
    exact spliced_none (h [] [] s.heap s.toks F N (fun _ hp => nomatch hp) trivial rfl)
  | e :: es, cs, pos, s, news, Q, he, F, N, h => by
    simp only [listsIn] at he
    cases hc : coinsOf e with
    | none => simp [hc] at he
    | some c =>
      cases hr : listsIn es with
      | none => simp [hc, hr] at he
      | some cs' =>
        simp [hc, hr] at he
        subst he
        refine spliced_more ?_ ((eval_coinList (M := M) (A := A) (E := E) (Q := fun _ _ => True) hc F N (fun _ _ _ _ _ _ _ _ => trivial)).2 es)
        refine (eval_coinList hc F N fun v T₁ h' tk F' N' hlt hv => ?_).1
        refine eval_lists (s := { s with heap := h', toks := tk }) hr F' N' fun vs T h'' tk' F'' N'' hlt' hvs hl => ?_
        refine h (v :: vs) (T ++ T₁) h'' tk' F'' (by simpa using N'') ?_ ⟨hv.mono fun q hq => List.mem_append.mpr (.inr hq), hvs.mono fun q hq => List.mem_append.mpr (.inl hq)⟩ (by simp [hl])
        intro q hq r hr'
        rcases List.mem_append.mp hq with hq | hq
        · exact hlt' q hq r (List.mem_append.mpr (.inr hr'))
        · exact hlt q hq r hr'
theorem eval_display {es : List PySem.Expr} {cs : List (List (Int × Int))} {pos : Pos} {s : Shared} {news : List (Addr × Obj)} {Q : Value → Shared → Prop} (he : listsIn es = some cs) (F : Fr h₀ L s.heap m) (N : News h₀ L s.heap news) (hn : es.length ≤ 8)
    (h : ∀ l vs T h' tk, Fr h₀ L h' m → News h₀ L h' ((l, listOf vs.toArray 0) :: (T ++ news)) → (∀ p ∈ T, ∀ q ∈ news, q.1 < p.1) → (∀ p ∈ T, p.1 < l) → (∀ p ∈ news, p.1 < l) → ListsAre T vs cs → Q (.ref l) { s with heap := h', toks := tk }) : wpAny M A (eval (.List es pos) env) Q E s := by
  refine List_ (eval_lists he F N fun vs T h' tk F' N' hlt hvs hl => ?_)
  refine newList_N F' N' (fun h'' F'' N'' => ?_) (hsz := by rw [hl]; simp only [PySem.sizeLine_eq]; omega)
  exact h _ vs T h'' _ F'' N'' hlt (fun p hp => Heap.lt_size (N' p (List.mem_append.mpr (.inl hp))).1) (fun p hp => Heap.lt_size (N' p (List.mem_append.mpr (.inr hp))).1) hvs
end
theorem ListsAre.three {T : List (Addr × Obj)} {vs : List Value} {a b c : List (Int × Int)} (h : ListsAre T vs [a, b, c]) : ∃ u v w, vs = [u, v, w] ∧ CoinsAt T u a ∧ CoinsAt T v b ∧ CoinsAt T w c := by
  match vs, h with
  | [u, v, w], h => exact ⟨u, v, w, rfl, h.1, h.2.1, h.2.2.1⟩
  | [u, v], h => exact h.2.2.elim
  | [u], h => exact h.2.elim
  | [], h => exact h.elim
  | _ :: _ :: _ :: _ :: _, h => exact h.2.2.2.elim
end
-- part Tab
section
theorem top_off_Tab : True := by
  w_top off
  exact True.intro
noncomputable def tabL : List (Str × Int × Tok) := [(Str.ofString "!", 54, 397), (Str.ofString "!=", 28, 345), (Str.ofString "%", 24, 337), (Str.ofString "%=", 40, 369), (Str.ofString "&", 19, 327), (Str.ofString "&=", 41, 371), (Str.ofString "(", 7, 303), (Str.ofString ")", 8, 305), (Str.ofString "*", 16, 321), (Str.ofString "**", 35, 359), (Str.ofString "**=", 46, 381), (Str.ofString "*=", 38, 365), (Str.ofString "+", 14, 317), (Str.ofString "+=", 36, 361), (Str.ofString ",", 12, 313), (Str.ofString "-", 15, 319), (Str.ofString "-=", 37, 363), (Str.ofString "->", 51, 391), (Str.ofString ".", 23, 335), (Str.ofString "...", 52, 393), (Str.ofString "/", 17, 323), (Str.ofString "//", 47, 383), (Str.ofString "//=", 48, 385), (Str.ofString "/=", 39, 367), (Str.ofString ":", 11, 311), (Str.ofString ":=", 53, 395), (Str.ofString ";", 13, 315), (Str.ofString "<", 20, 329), (Str.ofString "<<", 33, 355), (Str.ofString "<<=", 44, 377), (Str.ofString "<=", 29, 347), (Str.ofString "=", 22, 333), (Str.ofString "==", 27, 343), (Str.ofString ">", 21, 331), (Str.ofString ">=", 30, 349), (Str.ofString ">>", 34, 357), (Str.ofString ">>=", 45, 379), (Str.ofString "@", 49, 387), (Str.ofString "@=", 50, 389), (Str.ofString "[", 9, 307), (Str.ofString "]", 10, 309), (Str.ofString "^", 32, 353), (Str.ofString "^=", 43, 375), (Str.ofString "{", 25, 339), (Str.ofString "|", 18, 325), (Str.ofString "|=", 42, 373), (Str.ofString "}", 26, 341), (Str.ofString "~", 31, 351)]
noncomputable def tabF (x : Str) : Option Value := (tabL.find? (fun p => p.1 == x)).map (fun p => Value.int p.2.1 p.2.2)
noncomputable def inT (x : Str) : Bool := (tabL.find? (fun p => p.1 == x)).isSome
noncomputable def tabI (x : Str) : Int := match tabL.find? (fun p => p.1 == x) with
  | some p => p.2.1
  | none => 0
theorem inT_eq (x : Str) : (tabF x).isSome = inT x := by
  unfold tabF inT
  rw [Option.isSome_map]
theorem tabF_of {x : Str} (h : inT x = true) : ∃ t, tabF x = some (.int (tabI x) t) := by
  unfold tabF tabI
  unfold inT at h
  obtain ⟨p, hp⟩ := Option.isSome_iff_exists.mp h
  rw [hp]
  exact ⟨p.2.2, rfl⟩
noncomputable def KvAre (P : Params) : List DictEntry → List (Str × Int × Tok) → Prop
  | [], [] => True
  | e :: es, p :: kv => (∃ t, e.key = .str p.1 t ∧ e.hash = PyData.keyHash P p.1 ∧ e.val = .int p.2.1 p.2.2) ∧ KvAre P es kv
  | _, _ => False
theorem KvAre.lit {P : Params} : ∀ {es : List DictEntry} {kv : List (Str × Int × Tok)}, KvAre P es kv → KeysLit P es
  | [], [], _ => trivial
  | _ :: _, _ :: _, ⟨⟨t, h1, h2, _⟩, hr⟩ => ⟨⟨_, t, h1, h2⟩, KvAre.lit hr⟩
  | [], _ :: _, h => h.elim
  | _ :: _, [], h => h.elim
theorem KvAre.find {P : Params} {x : Str} : ∀ {es : List DictEntry} {kv : List (Str × Int × Tok)}, KvAre P es kv →
    (es.find? (fun e => Value.isStrOf x e.key)).map (fun e => e.val) = (kv.find? (fun p => p.1 == x)).map (fun p => Value.int p.2.1 p.2.2)
  | [], [], _ => rfl
  | e :: es, p :: kv, ⟨⟨t, h1, _, h3⟩, hr⟩ => by
    have ih := KvAre.find (x := x) hr
    have hq : Value.isStrOf x e.key = (p.1 == x) := by rw [h1]; rfl
    rw [List.find?_cons, List.find?_cons, hq]
    cases (p.1 == x) with
    | true => simp [h3]
    | false => simpa using ih
  | [], _ :: _, h => h.elim
  | _ :: _, [], h => h.elim
theorem tab_obj (P : Params) : ∃ es n, (hd.heap_39 P).lookup 94 = some ⟨.type "dict", none, .dict es n, #[]⟩ ∧ KvAre P es.toList tabL :=
  ⟨_, _, rfl, by repeat (first | exact True.intro | refine And.intro ⟨_, rfl, rfl, rfl⟩ ?_)⟩
theorem tab_map {prog : Program} {w : World} {h : Heap} (X : (hd.heap_39 w.params).In h) : h.MapOf (strKind prog w) 94 tabF := by
  obtain ⟨es, n, h1, h2⟩ := tab_obj w.params
  have hm := mapOf_K (prog := prog) X h1 h2.lit
  have e : (fun k => findBy Value.isStrOf es k) = tabF := by
    funext x
    unfold findBy tabF
    rw [← h2.find]
    obtain ⟨l⟩ := es
    simp only [List.find?_toArray]

  rw [e] at hm
  exact hm
section
variable {prog : Program} {w : World} {A : Around} {E : Value → Shared → Prop} {s : Shared} {h₀ : Heap} {L : Addr} {m : Str → Option Value}
theorem tab_notin {x : Str} {t : Tok} {Q : Value → Shared → Prop} (F : Fr h₀ L s.heap m) (X : (hd.heap_39 w.params).In h₀) (h : Q (.bool (!inT x)) { s with toks := s.toks + 1 }) : wpAny (model prog w) A (compareOp .NotIn (.str x t) (.ref 94)) Q E s :=
  wpAny_notIn_of (strKind_is prog w x t) (by decide) (tab_map (prog := prog) (X.keeps F.keep)) (by rw [inT_eq]; exact h)
theorem tab_item {value slice : PySem.Expr} {x : Str} {t : Tok} {Q : Value → Shared → Prop} (F : Fr h₀ L s.heap m) (X : (hd.heap_39 w.params).In h₀) (hx : inT x = true) (h : ∀ u, Q (.int (tabI x) u) { s with toks := s.toks + 1 })
    (hs : subscripted slice false (.ref 94) (.str x t) = operate [.ref 94, .str x t] (getItem (.ref 94) (.str x t)) := by with_unfolding_all rfl) : wpAny (model prog w) A (subscriptTail value slice (.ref 94) (.str x t)) Q E s := by
  have hm := tab_map (prog := prog) (X.keeps F.keep)
  obtain ⟨u, hu⟩ := tabF_of hx
  exact tail_any hm.typeIs slot_dict_getitem.lookup (wpAny_getItem_of (strKind_is prog w x t) hm hu (h u)) hs
end
end
-- part Csmall
section
theorem top_off_Csmall : True := by
  w_top off
  exact True.intro
theorem xor_cs (w : World) (x y : Int) (t1 t2 : Tok) (news : List (Addr × Obj)) : CS w (hd.heap_39 w.params) 28 1 [.int x t1, .int y t2] news (fun r n => (∃ t, r = .int (Builtin.bitXor x y) t) ∧ n = news) := by
  unfold CS
  k_fill
  intro mean mg mb dp un gd cn cs a ccd cl outer A₀ base h₀ L m s Q E B F X N T hk hd hu hret
  refine wpAny_call ?_
  k_dflt ktr_enter
  k_with_none
  k_with "k_mem" => first | exact (by with_reducible assumption) | exact (List.mem_cons_of_mem _ (by with_reducible assumption)) | exact (List.mem_cons_of_mem _ (List.mem_cons_of_mem _ (by with_reducible assumption))) | exact (List.mem_cons_of_mem _ (List.mem_cons_of_mem _ (List.mem_cons_of_mem _ (by with_reducible assumption)))) | exact (List.mem_cons_of_mem _ (List.mem_cons_of_mem _ (List.mem_cons_of_mem _ (List.mem_cons_of_mem _ (by with_reducible assumption)))))
  k_with "pj" => first | with_reducible assumption | exact pj0 (by with_reducible assumption) | exact pj1 (by with_reducible assumption) | exact pj2 (by with_reducible assumption) | exact pj3 (by with_reducible assumption) | exact pj4 (by with_reducible assumption) | exact pj5 (by with_reducible assumption) | exact pj6 (by with_reducible assumption) | exact pj7 (by with_reducible assumption) | exact pj8 (by with_reducible assumption) | exact pj9 (by with_reducible assumption) | exact pj10 (by with_reducible assumption) | exact pj11 (by with_reducible assumption) | exact pj12 (by with_reducible assumption) | exact pj13 (by with_reducible assumption) | exact pj14 (by with_reducible assumption) | exact pj15 (by with_reducible assumption) | exact pj16 (by with_reducible assumption) | exact pj17 (by with_reducible assumption) | exact pj18 (by with_reducible assumption) | exact pj19 (by with_reducible assumption) | exact pj20 (by with_reducible assumption) | exact pj21 (by with_reducible assumption) | exact pj22 (by with_reducible assumption) | exact pj23 (by with_reducible assumption) | exact pj24 (by with_reducible assumption)
  k_with "pj2" => first | exact ltR (by k_extra "lt") | exact ltL (k := 4) (by k_extra "lt") (Nat.le_of_ble_eq_true rfl) | exact ltLR (k := 4) (by k_extra "lt") (Nat.le_of_ble_eq_true rfl) | exact ltR (by k_extra "pj") | exact ltL (k := 4) (by k_extra "pj") (Nat.le_of_ble_eq_true rfl) | exact ltLR (k := 4) (by k_extra "pj") (Nat.le_of_ble_eq_true rfl)
  k_with "lt" => first | with_reducible assumption | exact ltOf (by with_reducible assumption) (by k_mem)
  k_with "k_ne" => (refine neN ?_; (try dsimp only); first | exact neK rfl | exact neK0 rfl | exact neK1 rfl | exact Nat.ne_of_lt (by k_extra "lt") | exact Nat.ne_of_gt (by k_extra "lt") | exact Nat.ne_of_lt (by k_extra "pj") | exact Nat.ne_of_gt (by k_extra "pj") | exact Nat.ne_of_lt (by k_extra "pj2") | exact Nat.ne_of_gt (by k_extra "pj2") | k_extra "pj" | k_extra "pq" | exact Ne.symm (by k_extra "pj") | omega)
  k_with "mb" => first | with_reducible exact incM | with_reducible assumption | (with_reducible refine incMT ?_; k_extra "mb") | (with_reducible refine incML ?_; k_extra "mb") | (with_reducible refine incMR ?_; k_extra "mb")
  k_with "sbl" => first | with_reducible exact incI | (with_reducible refine incT ?_; k_extra "sbl") | (with_reducible refine incL ?_; k_extra "sbl") | (with_reducible refine incR ?_; k_extra "sbl")
  k_with "sb" => first | with_reducible exact incI | with_reducible exact incN | (with_reducible refine' incC ?m9 ?r9; (case m9 => k_extra "mb"); (case r9 => k_extra "sb")) | (k_extra "sbl") | (with_reducible refine incA ?_ ?_ <;> k_extra "sb")
  k_with "mg" => first | with_reducible exact List.mem_cons_self | (with_reducible refine List.mem_cons_of_mem _ ?_; k_extra "mg")
  k_with "ne1" => first | exact h1 | exact neP h2 (by k_extra "mg") | exact neC h3 (by k_extra "mg") | fail "ne1"
  k_with "nc" => with_reducible first | exact h3 | exact ncN | (refine' ncC ?b9 ?q9; (case b9 => k_extra "ne1"); (case q9 => k_extra "nc")) | fail "nc"
  k_with "sm" => with_reducible first | rfl | (refine' sm1 ?a9 ?r9; (case a9 => k_extra "ne1"); (case r9 => k_extra "sm")) | (refine' sm2 ?h9 ?r9; (case h9 => k_extra "nc"); (case r9 => k_extra "sm")) | (refine sm3 h2 ?_; k_extra "sm") | fail "sm"
  k_with "rm" => first | exact ltA0 (by with_reducible assumption) | exact ltA1 (by with_reducible assumption) (Nat.le_of_ble_eq_true rfl) | exact ltA2 (by with_reducible assumption) (Nat.le_of_ble_eq_true rfl) | exact ltA3 (by with_reducible assumption) (Nat.le_of_ble_eq_true rfl)
  k_with "sz" => first | with_reducible assumption | with_reducible exact Nat.le_of_ble_eq_true (Eq.refl true)
  k_steps
  all_goals (refine hret _ _ _ _ (by k_asm) (by k_asm) ⟨⟨_, rfl⟩, rfl⟩)
theorem ixor_cs (w : World) (x y : Int) (t1 t2 : Tok) (news : List (Addr × Obj)) : CS w (hd.heap_39 w.params) 42 1 [.int x t1, .int y t2] news (fun r n => (∃ t, r = .int (Builtin.bitXor x y) t) ∧ n = news) := by
  unfold CS
  k_fill
  intro mean mg mb dp un gd cn cs a ccd cl outer A₀ base h₀ L m s Q E B F X N T hk hd hu hret
  refine wpAny_call ?_
  k_dflt ktr_enter
  k_with_none
  k_with "k_mem" => first | exact (by with_reducible assumption) | exact (List.mem_cons_of_mem _ (by with_reducible assumption)) | exact (List.mem_cons_of_mem _ (List.mem_cons_of_mem _ (by with_reducible assumption))) | exact (List.mem_cons_of_mem _ (List.mem_cons_of_mem _ (List.mem_cons_of_mem _ (by with_reducible assumption)))) | exact (List.mem_cons_of_mem _ (List.mem_cons_of_mem _ (List.mem_cons_of_mem _ (List.mem_cons_of_mem _ (by with_reducible assumption)))))
  k_with "pj" => first | with_reducible assumption | exact pj0 (by with_reducible assumption) | exact pj1 (by with_reducible assumption) | exact pj2 (by with_reducible assumption) | exact pj3 (by with_reducible assumption) | exact pj4 (by with_reducible assumption) | exact pj5 (by with_reducible assumption) | exact pj6 (by with_reducible assumption) | exact pj7 (by with_reducible assumption) | exact pj8 (by with_reducible assumption) | exact pj9 (by with_reducible assumption) | exact pj10 (by with_reducible assumption) | exact pj11 (by with_reducible assumption) | exact pj12 (by with_reducible assumption) | exact pj13 (by with_reducible assumption) | exact pj14 (by with_reducible assumption) | exact pj15 (by with_reducible assumption) | exact pj16 (by with_reducible assumption) | exact pj17 (by with_reducible assumption) | exact pj18 (by with_reducible assumption) | exact pj19 (by with_reducible assumption) | exact pj20 (by with_reducible assumption) | exact pj21 (by with_reducible assumption) | exact pj22 (by with_reducible assumption) | exact pj23 (by with_reducible assumption) | exact pj24 (by with_reducible assumption)
  k_with "pj2" => first | exact ltR (by k_extra "lt") | exact ltL (k := 4) (by k_extra "lt") (Nat.le_of_ble_eq_true rfl) | exact ltLR (k := 4) (by k_extra "lt") (Nat.le_of_ble_eq_true rfl) | exact ltR (by k_extra "pj") | exact ltL (k := 4) (by k_extra "pj") (Nat.le_of_ble_eq_true rfl) | exact ltLR (k := 4) (by k_extra "pj") (Nat.le_of_ble_eq_true rfl)
  k_with "lt" => first | with_reducible assumption | exact ltOf (by with_reducible assumption) (by k_mem)
  k_with "k_ne" => (refine neN ?_; (try dsimp only); first | exact neK rfl | exact neK0 rfl | exact neK1 rfl | exact Nat.ne_of_lt (by k_extra "lt") | exact Nat.ne_of_gt (by k_extra "lt") | exact Nat.ne_of_lt (by k_extra "pj") | exact Nat.ne_of_gt (by k_extra "pj") | exact Nat.ne_of_lt (by k_extra "pj2") | exact Nat.ne_of_gt (by k_extra "pj2") | k_extra "pj" | k_extra "pq" | exact Ne.symm (by k_extra "pj") | omega)
  k_with "mb" => first | with_reducible exact incM | with_reducible assumption | (with_reducible refine incMT ?_; k_extra "mb") | (with_reducible refine incML ?_; k_extra "mb") | (with_reducible refine incMR ?_; k_extra "mb")
  k_with "sbl" => first | with_reducible exact incI | (with_reducible refine incT ?_; k_extra "sbl") | (with_reducible refine incL ?_; k_extra "sbl") | (with_reducible refine incR ?_; k_extra "sbl")
  k_with "sb" => first | with_reducible exact incI | with_reducible exact incN | (with_reducible refine' incC ?m9 ?r9; (case m9 => k_extra "mb"); (case r9 => k_extra "sb")) | (k_extra "sbl") | (with_reducible refine incA ?_ ?_ <;> k_extra "sb")
  k_with "mg" => first | with_reducible exact List.mem_cons_self | (with_reducible refine List.mem_cons_of_mem _ ?_; k_extra "mg")
  k_with "ne1" => first | exact h1 | exact neP h2 (by k_extra "mg") | exact neC h3 (by k_extra "mg") | fail "ne1"
  k_with "nc" => with_reducible first | exact h3 | exact ncN | (refine' ncC ?b9 ?q9; (case b9 => k_extra "ne1"); (case q9 => k_extra "nc")) | fail "nc"
  k_with "sm" => with_reducible first | rfl | (refine' sm1 ?a9 ?r9; (case a9 => k_extra "ne1"); (case r9 => k_extra "sm")) | (refine' sm2 ?h9 ?r9; (case h9 => k_extra "nc"); (case r9 => k_extra "sm")) | (refine sm3 h2 ?_; k_extra "sm") | fail "sm"
  k_with "rm" => first | exact ltA0 (by with_reducible assumption) | exact ltA1 (by with_reducible assumption) (Nat.le_of_ble_eq_true rfl) | exact ltA2 (by with_reducible assumption) (Nat.le_of_ble_eq_true rfl) | exact ltA3 (by with_reducible assumption) (Nat.le_of_ble_eq_true rfl)
  k_with "sz" => first | with_reducible assumption | with_reducible exact Nat.le_of_ble_eq_true (Eq.refl true)
  k_steps
  all_goals (refine hret _ _ _ _ (by k_asm) (by k_asm) ⟨⟨_, rfl⟩, rfl⟩)
theorem eof_cs (w : World) (x : Int) (t1 : Tok) (news : List (Addr × Obj)) : CS w (hd.heap_39 w.params) 117 1 [.int x t1] news (fun r n => r = .bool (decide (x = 0)) ∧ n = news) := by
  unfold CS
  k_fill
  intro mean mg mb dp un gd cn cs a ccd cl outer A₀ base h₀ L m s Q E B F X N T hk hd hu hret
  refine wpAny_call ?_
  k_dflt ktr_enter
  k_with_none
  k_with "k_mem" => first | exact (by with_reducible assumption) | exact (List.mem_cons_of_mem _ (by with_reducible assumption)) | exact (List.mem_cons_of_mem _ (List.mem_cons_of_mem _ (by with_reducible assumption))) | exact (List.mem_cons_of_mem _ (List.mem_cons_of_mem _ (List.mem_cons_of_mem _ (by with_reducible assumption)))) | exact (List.mem_cons_of_mem _ (List.mem_cons_of_mem _ (List.mem_cons_of_mem _ (List.mem_cons_of_mem _ (by with_reducible assumption)))))
  k_with "pj" => first | with_reducible assumption | exact pj0 (by with_reducible assumption) | exact pj1 (by with_reducible assumption) | exact pj2 (by with_reducible assumption) | exact pj3 (by with_reducible assumption) | exact pj4 (by with_reducible assumption) | exact pj5 (by with_reducible assumption) | exact pj6 (by with_reducible assumption) | exact pj7 (by with_reducible assumption) | exact pj8 (by with_reducible assumption) | exact pj9 (by with_reducible assumption) | exact pj10 (by with_reducible assumption) | exact pj11 (by with_reducible assumption) | exact pj12 (by with_reducible assumption) | exact pj13 (by with_reducible assumption) | exact pj14 (by with_reducible assumption) | exact pj15 (by with_reducible assumption) | exact pj16 (by with_reducible assumption) | exact pj17 (by with_reducible assumption) | exact pj18 (by with_reducible assumption) | exact pj19 (by with_reducible assumption) | exact pj20 (by with_reducible assumption) | exact pj21 (by with_reducible assumption) | exact pj22 (by with_reducible assumption) | exact pj23 (by with_reducible assumption) | exact pj24 (by with_reducible assumption)
  k_with "pj2" => first | exact ltR (by k_extra "lt") | exact ltL (k := 4) (by k_extra "lt") (Nat.le_of_ble_eq_true rfl) | exact ltLR (k := 4) (by k_extra "lt") (Nat.le_of_ble_eq_true rfl) | exact ltR (by k_extra "pj") | exact ltL (k := 4) (by k_extra "pj") (Nat.le_of_ble_eq_true rfl) | exact ltLR (k := 4) (by k_extra "pj") (Nat.le_of_ble_eq_true rfl)
  k_with "lt" => first | with_reducible assumption | exact ltOf (by with_reducible assumption) (by k_mem)
  k_with "k_ne" => (refine neN ?_; (try dsimp only); first | exact neK rfl | exact neK0 rfl | exact neK1 rfl | exact Nat.ne_of_lt (by k_extra "lt") | exact Nat.ne_of_gt (by k_extra "lt") | exact Nat.ne_of_lt (by k_extra "pj") | exact Nat.ne_of_gt (by k_extra "pj") | exact Nat.ne_of_lt (by k_extra "pj2") | exact Nat.ne_of_gt (by k_extra "pj2") | k_extra "pj" | k_extra "pq" | exact Ne.symm (by k_extra "pj") | omega)
  k_with "mb" => first | with_reducible exact incM | with_reducible assumption | (with_reducible refine incMT ?_; k_extra "mb") | (with_reducible refine incML ?_; k_extra "mb") | (with_reducible refine incMR ?_; k_extra "mb")
  k_with "sbl" => first | with_reducible exact incI | (with_reducible refine incT ?_; k_extra "sbl") | (with_reducible refine incL ?_; k_extra "sbl") | (with_reducible refine incR ?_; k_extra "sbl")
  k_with "sb" => first | with_reducible exact incI | with_reducible exact incN | (with_reducible refine' incC ?m9 ?r9; (case m9 => k_extra "mb"); (case r9 => k_extra "sb")) | (k_extra "sbl") | (with_reducible refine incA ?_ ?_ <;> k_extra "sb")
  k_with "mg" => first | with_reducible exact List.mem_cons_self | (with_reducible refine List.mem_cons_of_mem _ ?_; k_extra "mg")
  k_with "ne1" => first | exact h1 | exact neP h2 (by k_extra "mg") | exact neC h3 (by k_extra "mg") | fail "ne1"
  k_with "nc" => with_reducible first | exact h3 | exact ncN | (refine' ncC ?b9 ?q9; (case b9 => k_extra "ne1"); (case q9 => k_extra "nc")) | fail "nc"
  k_with "sm" => with_reducible first | rfl | (refine' sm1 ?a9 ?r9; (case a9 => k_extra "ne1"); (case r9 => k_extra "sm")) | (refine' sm2 ?h9 ?r9; (case h9 => k_extra "nc"); (case r9 => k_extra "sm")) | (refine sm3 h2 ?_; k_extra "sm") | fail "sm"
  k_with "rm" => first | exact ltA0 (by with_reducible assumption) | exact ltA1 (by with_reducible assumption) (Nat.le_of_ble_eq_true rfl) | exact ltA2 (by with_reducible assumption) (Nat.le_of_ble_eq_true rfl) | exact ltA3 (by with_reducible assumption) (Nat.le_of_ble_eq_true rfl)
  k_with "sz" => first | with_reducible assumption | with_reducible exact Nat.le_of_ble_eq_true (Eq.refl true)
  k_steps
  all_goals (refine hret _ _ _ _ (by k_asm) (by k_asm) ⟨rfl, rfl⟩)
theorem term_cs (w : World) (x : Int) (t1 : Tok) (news : List (Addr × Obj)) : CS w (hd.heap_39 w.params) 103 1 [.int x t1] news (fun r n => r = .bool (decide (x < 256)) ∧ n = news) := by
  unfold CS
  k_fill
  intro mean mg mb dp un gd cn cs a ccd cl outer A₀ base h₀ L m s Q E B F X N T hk hd hu hret
  refine wpAny_call ?_
  k_dflt ktr_enter
  k_with_none
  k_with "k_mem" => first | exact (by with_reducible assumption) | exact (List.mem_cons_of_mem _ (by with_reducible assumption)) | exact (List.mem_cons_of_mem _ (List.mem_cons_of_mem _ (by with_reducible assumption))) | exact (List.mem_cons_of_mem _ (List.mem_cons_of_mem _ (List.mem_cons_of_mem _ (by with_reducible assumption)))) | exact (List.mem_cons_of_mem _ (List.mem_cons_of_mem _ (List.mem_cons_of_mem _ (List.mem_cons_of_mem _ (by with_reducible assumption)))))
  k_with "pj" => first | with_reducible assumption | exact pj0 (by with_reducible assumption) | exact pj1 (by with_reducible assumption) | exact pj2 (by with_reducible assumption) | exact pj3 (by with_reducible assumption) | exact pj4 (by with_reducible assumption) | exact pj5 (by with_reducible assumption) | exact pj6 (by with_reducible assumption) | exact pj7 (by with_reducible assumption) | exact pj8 (by with_reducible assumption) | exact pj9 (by with_reducible assumption) | exact pj10 (by with_reducible assumption) | exact pj11 (by with_reducible assumption) | exact pj12 (by with_reducible assumption) | exact pj13 (by with_reducible assumption) | exact pj14 (by with_reducible assumption) | exact pj15 (by with_reducible assumption) | exact pj16 (by with_reducible assumption) | exact pj17 (by with_reducible assumption) | exact pj18 (by with_reducible assumption) | exact pj19 (by with_reducible assumption) | exact pj20 (by with_reducible assumption) | exact pj21 (by with_reducible assumption) | exact pj22 (by with_reducible assumption) | exact pj23 (by with_reducible assumption) | exact pj24 (by with_reducible assumption)
  k_with "pj2" => first | exact ltR (by k_extra "lt") | exact ltL (k := 4) (by k_extra "lt") (Nat.le_of_ble_eq_true rfl) | exact ltLR (k := 4) (by k_extra "lt") (Nat.le_of_ble_eq_true rfl) | exact ltR (by k_extra "pj") | exact ltL (k := 4) (by k_extra "pj") (Nat.le_of_ble_eq_true rfl) | exact ltLR (k := 4) (by k_extra "pj") (Nat.le_of_ble_eq_true rfl)
  k_with "lt" => first | with_reducible assumption | exact ltOf (by with_reducible assumption) (by k_mem)
  k_with "k_ne" => (refine neN ?_; (try dsimp only); first | exact neK rfl | exact neK0 rfl | exact neK1 rfl | exact Nat.ne_of_lt (by k_extra "lt") | exact Nat.ne_of_gt (by k_extra "lt") | exact Nat.ne_of_lt (by k_extra "pj") | exact Nat.ne_of_gt (by k_extra "pj") | exact Nat.ne_of_lt (by k_extra "pj2") | exact Nat.ne_of_gt (by k_extra "pj2") | k_extra "pj" | k_extra "pq" | exact Ne.symm (by k_extra "pj") | omega)
  k_with "mb" => first | with_reducible exact incM | with_reducible assumption | (with_reducible refine incMT ?_; k_extra "mb") | (with_reducible refine incML ?_; k_extra "mb") | (with_reducible refine incMR ?_; k_extra "mb")
  k_with "sbl" => first | with_reducible exact incI | (with_reducible refine incT ?_; k_extra "sbl") | (with_reducible refine incL ?_; k_extra "sbl") | (with_reducible refine incR ?_; k_extra "sbl")
  k_with "sb" => first | with_reducible exact incI | with_reducible exact incN | (with_reducible refine' incC ?m9 ?r9; (case m9 => k_extra "mb"); (case r9 => k_extra "sb")) | (k_extra "sbl") | (with_reducible refine incA ?_ ?_ <;> k_extra "sb")
  k_with "mg" => first | with_reducible exact List.mem_cons_self | (with_reducible refine List.mem_cons_of_mem _ ?_; k_extra "mg")
  k_with "ne1" => first | exact h1 | exact neP h2 (by k_extra "mg") | exact neC h3 (by k_extra "mg") | fail "ne1"
  k_with "nc" => with_reducible first | exact h3 | exact ncN | (refine' ncC ?b9 ?q9; (case b9 => k_extra "ne1"); (case q9 => k_extra "nc")) | fail "nc"
  k_with "sm" => with_reducible first | rfl | (refine' sm1 ?a9 ?r9; (case a9 => k_extra "ne1"); (case r9 => k_extra "sm")) | (refine' sm2 ?h9 ?r9; (case h9 => k_extra "nc"); (case r9 => k_extra "sm")) | (refine sm3 h2 ?_; k_extra "sm") | fail "sm"
  k_with "rm" => first | exact ltA0 (by with_reducible assumption) | exact ltA1 (by with_reducible assumption) (Nat.le_of_ble_eq_true rfl) | exact ltA2 (by with_reducible assumption) (Nat.le_of_ble_eq_true rfl) | exact ltA3 (by with_reducible assumption) (Nat.le_of_ble_eq_true rfl)
  k_with "sz" => first | with_reducible assumption | with_reducible exact Nat.le_of_ble_eq_true (Eq.refl true)
  k_steps
  all_goals (refine hret _ _ _ _ (by k_asm) (by k_asm) ⟨rfl, rfl⟩)
theorem nterm_cs (w : World) (x : Int) (t1 : Tok) (news : List (Addr × Obj)) : CS w (hd.heap_39 w.params) 110 1 [.int x t1] news (fun r n => r = .bool (decide (256 ≤ x)) ∧ n = news) := by
  unfold CS
  k_fill
  intro mean mg mb dp un gd cn cs a ccd cl outer A₀ base h₀ L m s Q E B F X N T hk hd hu hret
  refine wpAny_call ?_
  k_dflt ktr_enter
  k_with_none
  k_with "k_mem" => first | exact (by with_reducible assumption) | exact (List.mem_cons_of_mem _ (by with_reducible assumption)) | exact (List.mem_cons_of_mem _ (List.mem_cons_of_mem _ (by with_reducible assumption))) | exact (List.mem_cons_of_mem _ (List.mem_cons_of_mem _ (List.mem_cons_of_mem _ (by with_reducible assumption)))) | exact (List.mem_cons_of_mem _ (List.mem_cons_of_mem _ (List.mem_cons_of_mem _ (List.mem_cons_of_mem _ (by with_reducible assumption)))))
  k_with "pj" => first | with_reducible assumption | exact pj0 (by with_reducible assumption) | exact pj1 (by with_reducible assumption) | exact pj2 (by with_reducible assumption) | exact pj3 (by with_reducible assumption) | exact pj4 (by with_reducible assumption) | exact pj5 (by with_reducible assumption) | exact pj6 (by with_reducible assumption) | exact pj7 (by with_reducible assumption) | exact pj8 (by with_reducible assumption) | exact pj9 (by with_reducible assumption) | exact pj10 (by with_reducible assumption) | exact pj11 (by with_reducible assumption) | exact pj12 (by with_reducible assumption) | exact pj13 (by with_reducible assumption) | exact pj14 (by with_reducible assumption) | exact pj15 (by with_reducible assumption) | exact pj16 (by with_reducible assumption) | exact pj17 (by with_reducible assumption) | exact pj18 (by with_reducible assumption) | exact pj19 (by with_reducible assumption) | exact pj20 (by with_reducible assumption) | exact pj21 (by with_reducible assumption) | exact pj22 (by with_reducible assumption) | exact pj23 (by with_reducible assumption) | exact pj24 (by with_reducible assumption)
  k_with "pj2" => first | exact ltR (by k_extra "lt") | exact ltL (k := 4) (by k_extra "lt") (Nat.le_of_ble_eq_true rfl) | exact ltLR (k := 4) (by k_extra "lt") (Nat.le_of_ble_eq_true rfl) | exact ltR (by k_extra "pj") | exact ltL (k := 4) (by k_extra "pj") (Nat.le_of_ble_eq_true rfl) | exact ltLR (k := 4) (by k_extra "pj") (Nat.le_of_ble_eq_true rfl)
  k_with "lt" => first | with_reducible assumption | exact ltOf (by with_reducible assumption) (by k_mem)
  k_with "k_ne" => (refine neN ?_; (try dsimp only); first | exact neK rfl | exact neK0 rfl | exact neK1 rfl | exact Nat.ne_of_lt (by k_extra "lt") | exact Nat.ne_of_gt (by k_extra "lt") | exact Nat.ne_of_lt (by k_extra "pj") | exact Nat.ne_of_gt (by k_extra "pj") | exact Nat.ne_of_lt (by k_extra "pj2") | exact Nat.ne_of_gt (by k_extra "pj2") | k_extra "pj" | k_extra "pq" | exact Ne.symm (by k_extra "pj") | omega)
  k_with "mb" => first | with_reducible exact incM | with_reducible assumption | (with_reducible refine incMT ?_; k_extra "mb") | (with_reducible refine incML ?_; k_extra "mb") | (with_reducible refine incMR ?_; k_extra "mb")
  k_with "sbl" => first | with_reducible exact incI | (with_reducible refine incT ?_; k_extra "sbl") | (with_reducible refine incL ?_; k_extra "sbl") | (with_reducible refine incR ?_; k_extra "sbl")
  k_with "sb" => first | with_reducible exact incI | with_reducible exact incN | (with_reducible refine' incC ?m9 ?r9; (case m9 => k_extra "mb"); (case r9 => k_extra "sb")) | (k_extra "sbl") | (with_reducible refine incA ?_ ?_ <;> k_extra "sb")
  k_with "mg" => first | with_reducible exact List.mem_cons_self | (with_reducible refine List.mem_cons_of_mem _ ?_; k_extra "mg")
  k_with "ne1" => first | exact h1 | exact neP h2 (by k_extra "mg") | exact neC h3 (by k_extra "mg") | fail "ne1"
  k_with "nc" => with_reducible first | exact h3 | exact ncN | (refine' ncC ?b9 ?q9; (case b9 => k_extra "ne1"); (case q9 => k_extra "nc")) | fail "nc"
  k_with "sm" => with_reducible first | rfl | (refine' sm1 ?a9 ?r9; (case a9 => k_extra "ne1"); (case r9 => k_extra "sm")) | (refine' sm2 ?h9 ?r9; (case h9 => k_extra "nc"); (case r9 => k_extra "sm")) | (refine sm3 h2 ?_; k_extra "sm") | fail "sm"
  k_with "rm" => first | exact ltA0 (by with_reducible assumption) | exact ltA1 (by with_reducible assumption) (Nat.le_of_ble_eq_true rfl) | exact ltA2 (by with_reducible assumption) (Nat.le_of_ble_eq_true rfl) | exact ltA3 (by with_reducible assumption) (Nat.le_of_ble_eq_true rfl)
  k_with "sz" => first | with_reducible assumption | with_reducible exact Nat.le_of_ble_eq_true (Eq.refl true)
  k_steps
  all_goals (refine hret _ _ _ _ (by k_asm) (by k_asm) ⟨rfl, rfl⟩)
theorem lshift_cs (w : World) (x y : Int) (t1 t2 : Tok) (hx : 0 ≤ x) (hx' : x < 10000) (hy : 0 ≤ y) (hy' : y < 10) (news : List (Addr × Obj)) : CS w (hd.heap_39 w.params) 21 1 [.int x t1, .int y t2] news (fun r n => (∃ t, r = .int (x * 2 ^ y.toNat) t) ∧ n = news) := by
  unfold CS
  k_fill
  intro mean mg mb dp un gd cn cs a ccd cl outer A₀ base h₀ L m s Q E B F X N T hk hd hu hret
  refine wpAny_call ?_
  k_dflt ktr_enter
  k_with_none
  k_with "k_mem" => first | exact (by with_reducible assumption) | exact (List.mem_cons_of_mem _ (by with_reducible assumption)) | exact (List.mem_cons_of_mem _ (List.mem_cons_of_mem _ (by with_reducible assumption))) | exact (List.mem_cons_of_mem _ (List.mem_cons_of_mem _ (List.mem_cons_of_mem _ (by with_reducible assumption)))) | exact (List.mem_cons_of_mem _ (List.mem_cons_of_mem _ (List.mem_cons_of_mem _ (List.mem_cons_of_mem _ (by with_reducible assumption)))))
  k_with "pj" => first | with_reducible assumption | exact pj0 (by with_reducible assumption) | exact pj1 (by with_reducible assumption) | exact pj2 (by with_reducible assumption) | exact pj3 (by with_reducible assumption) | exact pj4 (by with_reducible assumption) | exact pj5 (by with_reducible assumption) | exact pj6 (by with_reducible assumption) | exact pj7 (by with_reducible assumption) | exact pj8 (by with_reducible assumption) | exact pj9 (by with_reducible assumption) | exact pj10 (by with_reducible assumption) | exact pj11 (by with_reducible assumption) | exact pj12 (by with_reducible assumption) | exact pj13 (by with_reducible assumption) | exact pj14 (by with_reducible assumption) | exact pj15 (by with_reducible assumption) | exact pj16 (by with_reducible assumption) | exact pj17 (by with_reducible assumption) | exact pj18 (by with_reducible assumption) | exact pj19 (by with_reducible assumption) | exact pj20 (by with_reducible assumption) | exact pj21 (by with_reducible assumption) | exact pj22 (by with_reducible assumption) | exact pj23 (by with_reducible assumption) | exact pj24 (by with_reducible assumption)
  k_with "pj2" => first | exact ltR (by k_extra "lt") | exact ltL (k := 4) (by k_extra "lt") (Nat.le_of_ble_eq_true rfl) | exact ltLR (k := 4) (by k_extra "lt") (Nat.le_of_ble_eq_true rfl) | exact ltR (by k_extra "pj") | exact ltL (k := 4) (by k_extra "pj") (Nat.le_of_ble_eq_true rfl) | exact ltLR (k := 4) (by k_extra "pj") (Nat.le_of_ble_eq_true rfl)
  k_with "lt" => first | with_reducible assumption | exact ltOf (by with_reducible assumption) (by k_mem)
  k_with "k_ne" => (refine neN ?_; (try dsimp only); first | exact neK rfl | exact neK0 rfl | exact neK1 rfl | exact Nat.ne_of_lt (by k_extra "lt") | exact Nat.ne_of_gt (by k_extra "lt") | exact Nat.ne_of_lt (by k_extra "pj") | exact Nat.ne_of_gt (by k_extra "pj") | exact Nat.ne_of_lt (by k_extra "pj2") | exact Nat.ne_of_gt (by k_extra "pj2") | k_extra "pj" | k_extra "pq" | exact Ne.symm (by k_extra "pj") | omega)
  k_with "mb" => first | with_reducible exact incM | with_reducible assumption | (with_reducible refine incMT ?_; k_extra "mb") | (with_reducible refine incML ?_; k_extra "mb") | (with_reducible refine incMR ?_; k_extra "mb")
  k_with "sbl" => first | with_reducible exact incI | (with_reducible refine incT ?_; k_extra "sbl") | (with_reducible refine incL ?_; k_extra "sbl") | (with_reducible refine incR ?_; k_extra "sbl")
  k_with "sb" => first | with_reducible exact incI | with_reducible exact incN | (with_reducible refine' incC ?m9 ?r9; (case m9 => k_extra "mb"); (case r9 => k_extra "sb")) | (k_extra "sbl") | (with_reducible refine incA ?_ ?_ <;> k_extra "sb")
  k_with "mg" => first | with_reducible exact List.mem_cons_self | (with_reducible refine List.mem_cons_of_mem _ ?_; k_extra "mg")
  k_with "ne1" => first | exact h1 | exact neP h2 (by k_extra "mg") | exact neC h3 (by k_extra "mg") | fail "ne1"
  k_with "nc" => with_reducible first | exact h3 | exact ncN | (refine' ncC ?b9 ?q9; (case b9 => k_extra "ne1"); (case q9 => k_extra "nc")) | fail "nc"
  k_with "sm" => with_reducible first | rfl | (refine' sm1 ?a9 ?r9; (case a9 => k_extra "ne1"); (case r9 => k_extra "sm")) | (refine' sm2 ?h9 ?r9; (case h9 => k_extra "nc"); (case r9 => k_extra "sm")) | (refine sm3 h2 ?_; k_extra "sm") | fail "sm"
  k_with "rm" => first | exact ltA0 (by with_reducible assumption) | exact ltA1 (by with_reducible assumption) (Nat.le_of_ble_eq_true rfl) | exact ltA2 (by with_reducible assumption) (Nat.le_of_ble_eq_true rfl) | exact ltA3 (by with_reducible assumption) (Nat.le_of_ble_eq_true rfl)
  k_with "sz" => first | with_reducible assumption | with_reducible exact Nat.le_of_ble_eq_true (Eq.refl true)
  k_steps
  all_goals (refine hret _ _ _ _ (by k_asm) (by k_asm) ⟨⟨_, rfl⟩, rfl⟩)
theorem contains_cs (w : World) (l : Addr) (vs : List Value) (ns : List Int) (n : Nat) (y : Int) (t2 : Tok) (hI : IntsAre vs ns) (news : List (Addr × Obj)) (hm : (l, listOf vs.toArray n) ∈ news) : CS w (hd.heap_39 w.params) 35 1 [.ref l, .int y t2] news (fun r n => (r = .bool (ns.any (· == y))) ∧ n = news) := by
  unfold CS
  k_fill
  intro mean mg mb dp un gd cn cs a ccd cl outer A₀ base h₀ L m s Q E B F X N T hk hd hu hret
  refine wpAny_call ?_
  k_dflt ktr_enter
  k_with_none
  k_with "k_mem" => first | exact (by with_reducible assumption) | exact (List.mem_cons_of_mem _ (by with_reducible assumption)) | exact (List.mem_cons_of_mem _ (List.mem_cons_of_mem _ (by with_reducible assumption))) | exact (List.mem_cons_of_mem _ (List.mem_cons_of_mem _ (List.mem_cons_of_mem _ (by with_reducible assumption)))) | exact (List.mem_cons_of_mem _ (List.mem_cons_of_mem _ (List.mem_cons_of_mem _ (List.mem_cons_of_mem _ (by with_reducible assumption)))))
  k_with "pj" => first | with_reducible assumption | exact pj0 (by with_reducible assumption) | exact pj1 (by with_reducible assumption) | exact pj2 (by with_reducible assumption) | exact pj3 (by with_reducible assumption) | exact pj4 (by with_reducible assumption) | exact pj5 (by with_reducible assumption) | exact pj6 (by with_reducible assumption) | exact pj7 (by with_reducible assumption) | exact pj8 (by with_reducible assumption) | exact pj9 (by with_reducible assumption) | exact pj10 (by with_reducible assumption) | exact pj11 (by with_reducible assumption) | exact pj12 (by with_reducible assumption) | exact pj13 (by with_reducible assumption) | exact pj14 (by with_reducible assumption) | exact pj15 (by with_reducible assumption) | exact pj16 (by with_reducible assumption) | exact pj17 (by with_reducible assumption) | exact pj18 (by with_reducible assumption) | exact pj19 (by with_reducible assumption) | exact pj20 (by with_reducible assumption) | exact pj21 (by with_reducible assumption) | exact pj22 (by with_reducible assumption) | exact pj23 (by with_reducible assumption) | exact pj24 (by with_reducible assumption)
  k_with "pj2" => first | exact ltR (by k_extra "lt") | exact ltL (k := 4) (by k_extra "lt") (Nat.le_of_ble_eq_true rfl) | exact ltLR (k := 4) (by k_extra "lt") (Nat.le_of_ble_eq_true rfl) | exact ltR (by k_extra "pj") | exact ltL (k := 4) (by k_extra "pj") (Nat.le_of_ble_eq_true rfl) | exact ltLR (k := 4) (by k_extra "pj") (Nat.le_of_ble_eq_true rfl)
  k_with "lt" => first | with_reducible assumption | exact ltOf (by with_reducible assumption) (by k_mem)
  k_with "k_ne" => (refine neN ?_; (try dsimp only); first | exact neK rfl | exact neK0 rfl | exact neK1 rfl | exact Nat.ne_of_lt (by k_extra "lt") | exact Nat.ne_of_gt (by k_extra "lt") | exact Nat.ne_of_lt (by k_extra "pj") | exact Nat.ne_of_gt (by k_extra "pj") | exact Nat.ne_of_lt (by k_extra "pj2") | exact Nat.ne_of_gt (by k_extra "pj2") | k_extra "pj" | k_extra "pq" | exact Ne.symm (by k_extra "pj") | omega)
  k_with "mb" => first | with_reducible exact incM | with_reducible assumption | (with_reducible refine incMT ?_; k_extra "mb") | (with_reducible refine incML ?_; k_extra "mb") | (with_reducible refine incMR ?_; k_extra "mb")
  k_with "sbl" => first | with_reducible exact incI | (with_reducible refine incT ?_; k_extra "sbl") | (with_reducible refine incL ?_; k_extra "sbl") | (with_reducible refine incR ?_; k_extra "sbl")
  k_with "sb" => first | with_reducible exact incI | with_reducible exact incN | (with_reducible refine' incC ?m9 ?r9; (case m9 => k_extra "mb"); (case r9 => k_extra "sb")) | (k_extra "sbl") | (with_reducible refine incA ?_ ?_ <;> k_extra "sb")
  k_with "mg" => first | with_reducible exact List.mem_cons_self | (with_reducible refine List.mem_cons_of_mem _ ?_; k_extra "mg")
  k_with "ne1" => first | exact h1 | exact neP h2 (by k_extra "mg") | exact neC h3 (by k_extra "mg") | fail "ne1"
  k_with "nc" => with_reducible first | exact h3 | exact ncN | (refine' ncC ?b9 ?q9; (case b9 => k_extra "ne1"); (case q9 => k_extra "nc")) | fail "nc"
  k_with "sm" => with_reducible first | rfl | (refine' sm1 ?a9 ?r9; (case a9 => k_extra "ne1"); (case r9 => k_extra "sm")) | (refine' sm2 ?h9 ?r9; (case h9 => k_extra "nc"); (case r9 => k_extra "sm")) | (refine sm3 h2 ?_; k_extra "sm") | fail "sm"
  k_with "rm" => first | exact ltA0 (by with_reducible assumption) | exact ltA1 (by with_reducible assumption) (Nat.le_of_ble_eq_true rfl) | exact ltA2 (by with_reducible assumption) (Nat.le_of_ble_eq_true rfl) | exact ltA3 (by with_reducible assumption) (Nat.le_of_ble_eq_true rfl)
  k_with "sz" => first | with_reducible assumption | with_reducible exact Nat.le_of_ble_eq_true (Eq.refl true)
  k_with "my compareOp In int ref" => (k_here; refine in_list_ints (News.isList (by k_asm) (by assumption)) (by assumption) ?_)
  k_steps
  all_goals (refine hret _ _ _ _ (by k_asm) (by k_asm) ⟨rfl, rfl⟩)
end
-- part C257
section
theorem top_off_C257 : True := by
  w_top off
  exact True.intro
theorem p257 (w : World) (x : Str) (t1 : Tok) (hx : x.length ≤ 400) (h3 : Txt.slice x none (some 3) = Str.ofString "257") (h5 : Txt.slice x (some 3) (some 5) = Str.ofString " \"" → 5 ≤ x.length) (news : List (Addr × Obj)) : CS w (hd.heap_39 w.params) 93 2 [.str x t1] news (fun r n => (∃ t, r = .str (p257v x) t) ∧ n = news ∧ ((p257v x).length + 5 ≤ x.length ∨ (p257v x).length = 0)) := by
  unfold CS
  k_fill
  intro mean mg mb dp un gd cn cs a ccd cl outer A₀ base h₀ L m s Q E B F X N T hk hd hu hret
  refine wpAny_call ?_
  k_dflt ktr_enter
  k_with_none
  k_with "k_mem" => first | exact (by with_reducible assumption) | exact (List.mem_cons_of_mem _ (by with_reducible assumption)) | exact (List.mem_cons_of_mem _ (List.mem_cons_of_mem _ (by with_reducible assumption))) | exact (List.mem_cons_of_mem _ (List.mem_cons_of_mem _ (List.mem_cons_of_mem _ (by with_reducible assumption)))) | exact (List.mem_cons_of_mem _ (List.mem_cons_of_mem _ (List.mem_cons_of_mem _ (List.mem_cons_of_mem _ (by with_reducible assumption)))))
  k_with "pj" => first | with_reducible assumption | exact pj0 (by with_reducible assumption) | exact pj1 (by with_reducible assumption) | exact pj2 (by with_reducible assumption) | exact pj3 (by with_reducible assumption) | exact pj4 (by with_reducible assumption) | exact pj5 (by with_reducible assumption) | exact pj6 (by with_reducible assumption) | exact pj7 (by with_reducible assumption) | exact pj8 (by with_reducible assumption) | exact pj9 (by with_reducible assumption) | exact pj10 (by with_reducible assumption) | exact pj11 (by with_reducible assumption) | exact pj12 (by with_reducible assumption) | exact pj13 (by with_reducible assumption) | exact pj14 (by with_reducible assumption) | exact pj15 (by with_reducible assumption) | exact pj16 (by with_reducible assumption) | exact pj17 (by with_reducible assumption) | exact pj18 (by with_reducible assumption) | exact pj19 (by with_reducible assumption) | exact pj20 (by with_reducible assumption) | exact pj21 (by with_reducible assumption) | exact pj22 (by with_reducible assumption) | exact pj23 (by with_reducible assumption) | exact pj24 (by with_reducible assumption)
  k_with "pj2" => first | exact ltR (by k_extra "lt") | exact ltL (k := 4) (by k_extra "lt") (Nat.le_of_ble_eq_true rfl) | exact ltLR (k := 4) (by k_extra "lt") (Nat.le_of_ble_eq_true rfl) | exact ltR (by k_extra "pj") | exact ltL (k := 4) (by k_extra "pj") (Nat.le_of_ble_eq_true rfl) | exact ltLR (k := 4) (by k_extra "pj") (Nat.le_of_ble_eq_true rfl)
  k_with "lt" => first | with_reducible assumption | exact ltOf (by with_reducible assumption) (by k_mem)
  k_with "k_ne" => (refine neN ?_; (try dsimp only); first | exact neK rfl | exact neK0 rfl | exact neK1 rfl | exact Nat.ne_of_lt (by k_extra "lt") | exact Nat.ne_of_gt (by k_extra "lt") | exact Nat.ne_of_lt (by k_extra "pj") | exact Nat.ne_of_gt (by k_extra "pj") | exact Nat.ne_of_lt (by k_extra "pj2") | exact Nat.ne_of_gt (by k_extra "pj2") | k_extra "pj" | k_extra "pq" | exact Ne.symm (by k_extra "pj") | omega)
  k_with "mb" => first | with_reducible exact incM | with_reducible assumption | (with_reducible refine incMT ?_; k_extra "mb") | (with_reducible refine incML ?_; k_extra "mb") | (with_reducible refine incMR ?_; k_extra "mb")
  k_with "sbl" => first | with_reducible exact incI | (with_reducible refine incT ?_; k_extra "sbl") | (with_reducible refine incL ?_; k_extra "sbl") | (with_reducible refine incR ?_; k_extra "sbl")
  k_with "sb" => first | with_reducible exact incI | with_reducible exact incN | (with_reducible refine' incC ?m9 ?r9; (case m9 => k_extra "mb"); (case r9 => k_extra "sb")) | (k_extra "sbl") | (with_reducible refine incA ?_ ?_ <;> k_extra "sb")
  k_with "mg" => first | with_reducible exact List.mem_cons_self | (with_reducible refine List.mem_cons_of_mem _ ?_; k_extra "mg")
  k_with "ne1" => first | exact h1 | exact neP h2 (by k_extra "mg") | exact neC h3 (by k_extra "mg") | fail "ne1"
  k_with "nc" => with_reducible first | exact h3 | exact ncN | (refine' ncC ?b9 ?q9; (case b9 => k_extra "ne1"); (case q9 => k_extra "nc")) | fail "nc"
  k_with "sm" => with_reducible first | rfl | (refine' sm1 ?a9 ?r9; (case a9 => k_extra "ne1"); (case r9 => k_extra "sm")) | (refine' sm2 ?h9 ?r9; (case h9 => k_extra "nc"); (case r9 => k_extra "sm")) | (refine sm3 h2 ?_; k_extra "sm") | fail "sm"
  k_with "rm" => first | exact ltA0 (by with_reducible assumption) | exact ltA1 (by with_reducible assumption) (Nat.le_of_ble_eq_true rfl) | exact ltA2 (by with_reducible assumption) (Nat.le_of_ble_eq_true rfl) | exact ltA3 (by with_reducible assumption) (Nat.le_of_ble_eq_true rfl)
  k_with "sz" => first | with_reducible assumption | with_reducible exact Nat.le_of_ble_eq_true (Eq.refl true)
  k_with "my exec While Compare cons nil" => k_while (fun script d i => 5 ≤ i ∧ i ≤ x.length ∧ (d.length : Int) ≤ i ∧ W257 x d i) (fun script d i => (x.length - i).toNat) "dirname" "i"
  k_with "state" => first | exact w257_start (by assumption) (by assumption) | exact w257_a (by assumption) (by assumption) (by assumption) (by assumption) (by assumption) | exact w257_b (by assumption) (by assumption) (by assumption) (by assumption) (by assumption) (by assumption) (by assumption)
  k_steps
  all_goals (have hQ := h3)
  all_goals first
    | (exfalso; simp_all; done)
    | (have h9 : (Txt.slice x (some 3) (some 5) != Str.ofString " \"") = true := by assumption
       exact hret _ _ _ _ (by k_asm) (by k_asm) ⟨str_ret (by unfold p257v; rw [if_neg (by simpa using h9)]), rfl, p257v_len x⟩)
    | (have h9 : (Txt.slice x (some 3) (some 5) != Str.ofString " \"") = false := by assumption
       refine hret _ _ _ _ (by k_asm) (by k_asm) ⟨str_ret ?_, rfl, p257v_len x⟩
       unfold p257v
       rw [if_pos (by simpa using h9)]
       first | exact w257_end1 (by assumption) (by assumption) (by assumption) | exact w257_end2 (by assumption) (by assumption) (by assumption) (by assumption) (by assumption) | exact w257_end3 (by assumption) (by assumption) (by assumption) (by assumption) (by assumption) (by assumption))
end
-- part C229
section
theorem top_off_C229 : True := by
  w_top off
  exact True.intro
local macro_rules | `(tactic| k_lt $h) => `(tactic| (replace $h := allLt_of $h; dsimp only [AllLt] at $h:ident))
theorem sx0 (v0 : Value) (vs : List Value) : seqIndex? 0 (v0 :: vs).length = some 0 := StrLaws.seqIndex_nonneg (by decide) (by simp only [List.length_cons]; omega)
theorem parts_int {l : List (Str × Tok)} {S : List Str} {y ps : Str} {port : Int} (hSp : List.map (fun x => x.1) l = S) (hY : (List.map (fun x => x.1) l)[Int.toNat 3]? = some y) (hp3 : S[3]? = some ps) (hi : PySem.intText? ps = some port) : PySem.intText? y = some port := by
  rw [hSp] at hY
  rw [Option.some.inj (hY.symm.trans hp3)]
  exact hi
theorem parts_len {l : List (Str × Tok)} {S : List Str} {y ps : Str} (hSp : List.map (fun x => x.1) l = S) (hY : (List.map (fun x => x.1) l)[Int.toNat 3]? = some y) (hp3 : S[3]? = some ps) (hi : ps.length ≤ 10) : y.length ≤ 640 := by
  rw [hSp] at hY
  rw [Option.some.inj (hY.symm.trans hp3)]
  omega
theorem p229ok (w : World) (x : Str) (t1 : Tok) (pa : Addr) (k : Nat) (v0 : Value) (vs : List Value) (l r : Int) (ps : Str) (port : Int) (hx : x.length ≤ 400) (hs : Txt.slice x none (some 3) = Str.ofString "229")
    (hl : Txt.find x (Str.ofString "(") = l) (hr : Txt.find3 x (Str.ofString ")") (Txt.find x (Str.ofString "(") + 1) = r) (h0 : 0 ≤ l) (h1 : l + 1 < x.length) (h2 : 1 ≤ r) (h3 : r ≤ x.length) (he : Txt.item x (l + 1) = Txt.item x (r - 1))
    (hp : (Txt.split (Txt.slice x (some (l + 1)) (some r)) (Txt.item x (l + 1))).length = 5) (hp3 : (Txt.split (Txt.slice x (some (l + 1)) (some r)) (Txt.item x (l + 1)))[3]? = some ps) (hi : PySem.intText? ps = some port) (hpl : ps.length ≤ 10)
    (news : List (Addr × Obj)) (hm : (pa, ({ cls := .type "tuple", data := .seq (v0 :: vs).toArray k } : Obj)) ∈ news) :
    CS w (hd.heap_39 w.params) 86 2 [.str x t1, .ref pa] news (fun r n => ∃ q t, r = .ref q ∧ n = (q, ({ cls := .type "tuple", data := .seq #[v0, .int port t] } : Obj)) :: news ∧ ∀ p ∈ news, p.1 < q) := by
  subst hl hr
  unfold CS
  k_fill
  intro mean mg mb dp un gd cn cs a ccd cl outer A₀ base h₀ L m s Q E B F X N T hk hd hu hret
  refine wpAny_call ?_
  k_dflt ktr_enter
  k_with_none
  k_with "k_mem" => first | exact (by with_reducible assumption) | exact (List.mem_cons_of_mem _ (by with_reducible assumption)) | exact (List.mem_cons_of_mem _ (List.mem_cons_of_mem _ (by with_reducible assumption))) | exact (List.mem_cons_of_mem _ (List.mem_cons_of_mem _ (List.mem_cons_of_mem _ (by with_reducible assumption)))) | exact (List.mem_cons_of_mem _ (List.mem_cons_of_mem _ (List.mem_cons_of_mem _ (List.mem_cons_of_mem _ (by with_reducible assumption)))))
  k_with "pj" => first | with_reducible assumption | exact pj0 (by with_reducible assumption) | exact pj1 (by with_reducible assumption) | exact pj2 (by with_reducible assumption) | exact pj3 (by with_reducible assumption) | exact pj4 (by with_reducible assumption) | exact pj5 (by with_reducible assumption) | exact pj6 (by with_reducible assumption) | exact pj7 (by with_reducible assumption) | exact pj8 (by with_reducible assumption) | exact pj9 (by with_reducible assumption) | exact pj10 (by with_reducible assumption) | exact pj11 (by with_reducible assumption) | exact pj12 (by with_reducible assumption) | exact pj13 (by with_reducible assumption) | exact pj14 (by with_reducible assumption) | exact pj15 (by with_reducible assumption) | exact pj16 (by with_reducible assumption) | exact pj17 (by with_reducible assumption) | exact pj18 (by with_reducible assumption) | exact pj19 (by with_reducible assumption) | exact pj20 (by with_reducible assumption) | exact pj21 (by with_reducible assumption) | exact pj22 (by with_reducible assumption) | exact pj23 (by with_reducible assumption) | exact pj24 (by with_reducible assumption)
  k_with "pj2" => first | exact ltR (by k_extra "lt") | exact ltL (k := 4) (by k_extra "lt") (Nat.le_of_ble_eq_true rfl) | exact ltLR (k := 4) (by k_extra "lt") (Nat.le_of_ble_eq_true rfl) | exact ltR (by k_extra "pj") | exact ltL (k := 4) (by k_extra "pj") (Nat.le_of_ble_eq_true rfl) | exact ltLR (k := 4) (by k_extra "pj") (Nat.le_of_ble_eq_true rfl)
  k_with "lt" => first | with_reducible assumption | exact ltOf (by with_reducible assumption) (by k_mem)
  k_with "k_ne" => (refine neN ?_; (try dsimp only); first | exact neK rfl | exact neK0 rfl | exact neK1 rfl | exact Nat.ne_of_lt (by k_extra "lt") | exact Nat.ne_of_gt (by k_extra "lt") | exact Nat.ne_of_lt (by k_extra "pj") | exact Nat.ne_of_gt (by k_extra "pj") | exact Nat.ne_of_lt (by k_extra "pj2") | exact Nat.ne_of_gt (by k_extra "pj2") | k_extra "pj" | k_extra "pq" | exact Ne.symm (by k_extra "pj") | omega)
  k_with "mb" => first | with_reducible exact incM | with_reducible assumption | (with_reducible refine incMT ?_; k_extra "mb") | (with_reducible refine incML ?_; k_extra "mb") | (with_reducible refine incMR ?_; k_extra "mb")
  k_with "sbl" => first | with_reducible exact incI | (with_reducible refine incT ?_; k_extra "sbl") | (with_reducible refine incL ?_; k_extra "sbl") | (with_reducible refine incR ?_; k_extra "sbl")
  k_with "sb" => first | with_reducible exact incI | with_reducible exact incN | (with_reducible refine' incC ?m9 ?r9; (case m9 => k_extra "mb"); (case r9 => k_extra "sb")) | (k_extra "sbl") | (with_reducible refine incA ?_ ?_ <;> k_extra "sb")
  k_with "mg" => first | with_reducible exact List.mem_cons_self | (with_reducible refine List.mem_cons_of_mem _ ?_; k_extra "mg")
  k_with "ne1" => first | exact h1 | exact neP h2 (by k_extra "mg") | exact neC h3 (by k_extra "mg") | fail "ne1"
  k_with "nc" => with_reducible first | exact h3 | exact ncN | (refine' ncC ?b9 ?q9; (case b9 => k_extra "ne1"); (case q9 => k_extra "nc")) | fail "nc"
  k_with "sm" => with_reducible first | rfl | (refine' sm1 ?a9 ?r9; (case a9 => k_extra "ne1"); (case r9 => k_extra "sm")) | (refine' sm2 ?h9 ?r9; (case h9 => k_extra "nc"); (case r9 => k_extra "sm")) | (refine sm3 h2 ?_; k_extra "sm") | fail "sm"
  k_with "rm" => first | exact ltA0 (by with_reducible assumption) | exact ltA1 (by with_reducible assumption) (Nat.le_of_ble_eq_true rfl) | exact ltA2 (by with_reducible assumption) (Nat.le_of_ble_eq_true rfl) | exact ltA3 (by with_reducible assumption) (Nat.le_of_ble_eq_true rfl)
  k_with "sz" => first | with_reducible assumption | with_reducible exact Nat.le_of_ble_eq_true (Eq.refl true)
  k_with "my subscriptTail" => first
    | ((with_reducible show wpAny _ _ (subscriptTail (PySem.Expr.Name (Str.ofString "peer") _) _ (Value.ref _) (Value.int _ _)) _ _ _); (refine item_tupleT (l := v0 :: vs) (News.isTup (by k_asm) (by k_mem)) (by decide) (by decide) (sx0 v0 vs) (by rfl) ?_))
  k_with "my call type:int" => (refine KIN.call_text (parts_int (by assumption) (by assumption) hp3 hi) (parts_len (by assumption) (by assumption) hp3 hpl) ?_)
  k_steps
  all_goals first
    | (exfalso
       first
         | (have h9 : (Txt.slice x none (some 3) != Str.ofString "229") = true := by assumption
            rw [hs] at h9; simp at h9; done)
         | (rename (_ != _) = true => h9; rw [he] at h9; simp at h9; done)
         | (rename List.map _ _ = Txt.split _ _ => h9; rw [← h9, List.length_map] at hp; omega))
    | (rename AllLt _ _ ∧ _ => h9; exact h9.elim)
    | exact hret _ _ _ _ (by k_asm) (cb_drop (by k_asm) sub1) ⟨_, _, rfl, rfl, allLt_mem (And.right (by assumption))⟩
end
-- part Ctimes
section
theorem top_off_Ctimes : True := by
  w_top off
  exact True.intro
theorem fdm_fin2 : ∀ a : Fin 4, 0 ≤ Int.fmod (a.val : Int) 2 ∧ Int.fmod (a.val : Int) 2 < 2 ∧ 0 ≤ Int.fdiv (a.val : Int) 2 ∧ Int.fdiv (a.val : Int) 2 < 2 := by decide +kernel
theorem fdm_fin4 : ∀ a : Fin 16, 0 ≤ Int.fmod (a.val : Int) 4 ∧ Int.fmod (a.val : Int) 4 < 4 ∧ 0 ≤ Int.fdiv (a.val : Int) 4 ∧ Int.fdiv (a.val : Int) 4 < 4 := by decide +kernel
theorem fdm2 {x : Int} (h0 : 0 ≤ x) (h1 : x < 4) : 0 ≤ x.fmod 2 ∧ x.fmod 2 < 2 ∧ 0 ≤ x.fdiv 2 ∧ x.fdiv 2 < 2 := to_fin (n := 4) (P := fun x => 0 ≤ x.fmod 2 ∧ x.fmod 2 < 2 ∧ 0 ≤ x.fdiv 2 ∧ x.fdiv 2 < 2) fdm_fin2 h0 h1
theorem fdm4 {x : Int} (h0 : 0 ≤ x) (h1 : x < 16) : 0 ≤ x.fmod 4 ∧ x.fmod 4 < 4 ∧ 0 ≤ x.fdiv 4 ∧ x.fdiv 4 < 4 := to_fin (n := 16) (P := fun x => 0 ≤ x.fmod 4 ∧ x.fmod 4 < 4 ∧ 0 ≤ x.fdiv 4 ∧ x.fdiv 4 < 4) fdm_fin4 h0 h1
theorem mul01 {a b : Int} (h0 : 0 ≤ a) (h1 : a < 2) (k0 : 0 ≤ b) (k1 : b < 2) : 0 ≤ a * b ∧ a * b < 2 := by
  have ha : a = 0 ∨ a = 1 := by omega
  rcases ha with rfl | rfl <;> omega
noncomputable def T2 (x y : Int) : Int := if x < 2 ∨ y < 2 then x * y else
  Builtin.bitXor (Builtin.bitXor (Builtin.bitXor (Builtin.bitXor (x.fdiv 2) (x.fmod 2) * Builtin.bitXor (y.fdiv 2) (y.fmod 2)) (x.fmod 2 * y.fmod 2) * 2) (x.fmod 2 * y.fmod 2)) (x.fdiv 2 * y.fdiv 2 * 1)
noncomputable def T4 (x y : Int) : Int := if x < 2 ∨ y < 2 then x * y else
  Builtin.bitXor (Builtin.bitXor (Builtin.bitXor (T2 (Builtin.bitXor (x.fdiv 4) (x.fmod 4)) (Builtin.bitXor (y.fdiv 4) (y.fmod 4))) (T2 (x.fmod 4) (y.fmod 4)) * 4) (T2 (x.fmod 4) (y.fmod 4))) (T2 (T2 (x.fdiv 4) (y.fdiv 4)) 2)
theorem T2_fin : ∀ a b : Fin 4, 0 ≤ T2 (a.val : Int) (b.val : Int) ∧ T2 (a.val : Int) (b.val : Int) < 4 := by decide +kernel
theorem T2_bd {x y : Int} (h0 : 0 ≤ x) (h1 : x < 4) (k0 : 0 ≤ y) (k1 : y < 4) : 0 ≤ T2 x y ∧ T2 x y < 4 :=
  to_fin (n := 4) (P := fun x => 0 ≤ T2 x y ∧ T2 x y < 4) (fun a => to_fin (n := 4) (P := fun y => 0 ≤ T2 (a.val : Int) y ∧ T2 (a.val : Int) y < 4) (fun b => T2_fin a b) k0 k1) h0 h1
theorem times1_cs (w : World) (x y hf : Int) (t1 t2 t3 : Tok) (hx : 0 ≤ x) (hx' : x < 16) (hy : 0 ≤ y) (hy' : y < 16) (hb : x < 2 ∨ y < 2) (news : List (Addr × Obj)) : CS w (hd.heap_39 w.params) 166 1 [.int x t1, .int y t2, .int hf t3] news (fun r n => (∃ t, r = .int (x * y) t) ∧ n = news) := by
  unfold CS
  k_fill
  intro mean mg mb dp un gd cn cs a ccd cl outer A₀ base h₀ L m s Q E B F X N T hk hd hu hret
  refine wpAny_call ?_
  k_dflt ktr_enter
  k_with_none
  k_with "k_mem" => first | exact (by with_reducible assumption) | exact (List.mem_cons_of_mem _ (by with_reducible assumption)) | exact (List.mem_cons_of_mem _ (List.mem_cons_of_mem _ (by with_reducible assumption))) | exact (List.mem_cons_of_mem _ (List.mem_cons_of_mem _ (List.mem_cons_of_mem _ (by with_reducible assumption)))) | exact (List.mem_cons_of_mem _ (List.mem_cons_of_mem _ (List.mem_cons_of_mem _ (List.mem_cons_of_mem _ (by with_reducible assumption)))))
  k_with "pj" => first | with_reducible assumption | exact pj0 (by with_reducible assumption) | exact pj1 (by with_reducible assumption) | exact pj2 (by with_reducible assumption) | exact pj3 (by with_reducible assumption) | exact pj4 (by with_reducible assumption) | exact pj5 (by with_reducible assumption) | exact pj6 (by with_reducible assumption) | exact pj7 (by with_reducible assumption) | exact pj8 (by with_reducible assumption) | exact pj9 (by with_reducible assumption) | exact pj10 (by with_reducible assumption) | exact pj11 (by with_reducible assumption) | exact pj12 (by with_reducible assumption) | exact pj13 (by with_reducible assumption) | exact pj14 (by with_reducible assumption) | exact pj15 (by with_reducible assumption) | exact pj16 (by with_reducible assumption) | exact pj17 (by with_reducible assumption) | exact pj18 (by with_reducible assumption) | exact pj19 (by with_reducible assumption) | exact pj20 (by with_reducible assumption) | exact pj21 (by with_reducible assumption) | exact pj22 (by with_reducible assumption) | exact pj23 (by with_reducible assumption) | exact pj24 (by with_reducible assumption)
  k_with "pj2" => first | exact ltR (by k_extra "lt") | exact ltL (k := 4) (by k_extra "lt") (Nat.le_of_ble_eq_true rfl) | exact ltLR (k := 4) (by k_extra "lt") (Nat.le_of_ble_eq_true rfl) | exact ltR (by k_extra "pj") | exact ltL (k := 4) (by k_extra "pj") (Nat.le_of_ble_eq_true rfl) | exact ltLR (k := 4) (by k_extra "pj") (Nat.le_of_ble_eq_true rfl)
  k_with "lt" => first | with_reducible assumption | exact ltOf (by with_reducible assumption) (by k_mem)
  k_with "k_ne" => (refine neN ?_; (try dsimp only); first | exact neK rfl | exact neK0 rfl | exact neK1 rfl | exact Nat.ne_of_lt (by k_extra "lt") | exact Nat.ne_of_gt (by k_extra "lt") | exact Nat.ne_of_lt (by k_extra "pj") | exact Nat.ne_of_gt (by k_extra "pj") | exact Nat.ne_of_lt (by k_extra "pj2") | exact Nat.ne_of_gt (by k_extra "pj2") | k_extra "pj" | k_extra "pq" | exact Ne.symm (by k_extra "pj") | omega)
  k_with "mb" => first | with_reducible exact incM | with_reducible assumption | (with_reducible refine incMT ?_; k_extra "mb") | (with_reducible refine incML ?_; k_extra "mb") | (with_reducible refine incMR ?_; k_extra "mb")
  k_with "sbl" => first | with_reducible exact incI | (with_reducible refine incT ?_; k_extra "sbl") | (with_reducible refine incL ?_; k_extra "sbl") | (with_reducible refine incR ?_; k_extra "sbl")
  k_with "sb" => first | with_reducible exact incI | with_reducible exact incN | (with_reducible refine' incC ?m9 ?r9; (case m9 => k_extra "mb"); (case r9 => k_extra "sb")) | (k_extra "sbl") | (with_reducible refine incA ?_ ?_ <;> k_extra "sb")
  k_with "mg" => first | with_reducible exact List.mem_cons_self | (with_reducible refine List.mem_cons_of_mem _ ?_; k_extra "mg")
  k_with "ne1" => first | exact h1 | exact neP h2 (by k_extra "mg") | exact neC h3 (by k_extra "mg") | fail "ne1"
  k_with "nc" => with_reducible first | exact h3 | exact ncN | (refine' ncC ?b9 ?q9; (case b9 => k_extra "ne1"); (case q9 => k_extra "nc")) | fail "nc"
  k_with "sm" => with_reducible first | rfl | (refine' sm1 ?a9 ?r9; (case a9 => k_extra "ne1"); (case r9 => k_extra "sm")) | (refine' sm2 ?h9 ?r9; (case h9 => k_extra "nc"); (case r9 => k_extra "sm")) | (refine sm3 h2 ?_; k_extra "sm") | fail "sm"
  k_with "rm" => first | exact ltA0 (by with_reducible assumption) | exact ltA1 (by with_reducible assumption) (Nat.le_of_ble_eq_true rfl) | exact ltA2 (by with_reducible assumption) (Nat.le_of_ble_eq_true rfl) | exact ltA3 (by with_reducible assumption) (Nat.le_of_ble_eq_true rfl)
  k_with "sz" => first | with_reducible assumption | with_reducible exact Nat.le_of_ble_eq_true (Eq.refl true)
  k_steps
  all_goals (refine hret _ _ _ _ (by k_asm) (by k_asm) ⟨⟨_, rfl⟩, rfl⟩)
theorem times2_cs (w : World) (x y : Int) (t1 t2 t3 : Tok) (hx : 0 ≤ x) (hx' : x < 4) (hy : 0 ≤ y) (hy' : y < 4) (news : List (Addr × Obj)) : CS w (hd.heap_39 w.params) 166 2 [.int x t1, .int y t2, .int 2 t3] news (fun r n => (∃ t, r = .int (T2 x y) t) ∧ n = news) := by
  have f1 := fdm2 hx hx'
  have f2 := fdm2 hy hy'
  have b1 := bx2 f1.2.2.1 f1.2.2.2 f1.1 f1.2.1
  have b2 := bx2 f2.2.2.1 f2.2.2.2 f2.1 f2.2.1
  have m1 := mul01 f1.1 f1.2.1 f2.1 f2.2.1
  have m2 := mul01 f1.2.2.1 f1.2.2.2 f2.2.2.1 f2.2.2.2
  have m3 := mul01 b1.1 b1.2 b2.1 b2.2
  have b3 := bx2 m3.1 m3.2 m1.1 m1.2
  have s1 : Int.fdiv 2 2 = 1 := by decide
  unfold CS
  k_fill
  intro mean mg mb dp un gd cn cs a ccd cl outer A₀ base h₀ L m s Q E B F X N T hk hd hu hret
  refine wpAny_call ?_
  k_dflt ktr_enter
  k_with_none
  k_with "k_mem" => first | exact (by with_reducible assumption) | exact (List.mem_cons_of_mem _ (by with_reducible assumption)) | exact (List.mem_cons_of_mem _ (List.mem_cons_of_mem _ (by with_reducible assumption))) | exact (List.mem_cons_of_mem _ (List.mem_cons_of_mem _ (List.mem_cons_of_mem _ (by with_reducible assumption)))) | exact (List.mem_cons_of_mem _ (List.mem_cons_of_mem _ (List.mem_cons_of_mem _ (List.mem_cons_of_mem _ (by with_reducible assumption)))))
  k_with "pj" => first | with_reducible assumption | exact pj0 (by with_reducible assumption) | exact pj1 (by with_reducible assumption) | exact pj2 (by with_reducible assumption) | exact pj3 (by with_reducible assumption) | exact pj4 (by with_reducible assumption) | exact pj5 (by with_reducible assumption) | exact pj6 (by with_reducible assumption) | exact pj7 (by with_reducible assumption) | exact pj8 (by with_reducible assumption) | exact pj9 (by with_reducible assumption) | exact pj10 (by with_reducible assumption) | exact pj11 (by with_reducible assumption) | exact pj12 (by with_reducible assumption) | exact pj13 (by with_reducible assumption) | exact pj14 (by with_reducible assumption) | exact pj15 (by with_reducible assumption) | exact pj16 (by with_reducible assumption) | exact pj17 (by with_reducible assumption) | exact pj18 (by with_reducible assumption) | exact pj19 (by with_reducible assumption) | exact pj20 (by with_reducible assumption) | exact pj21 (by with_reducible assumption) | exact pj22 (by with_reducible assumption) | exact pj23 (by with_reducible assumption) | exact pj24 (by with_reducible assumption)
  k_with "pj2" => first | exact ltR (by k_extra "lt") | exact ltL (k := 4) (by k_extra "lt") (Nat.le_of_ble_eq_true rfl) | exact ltLR (k := 4) (by k_extra "lt") (Nat.le_of_ble_eq_true rfl) | exact ltR (by k_extra "pj") | exact ltL (k := 4) (by k_extra "pj") (Nat.le_of_ble_eq_true rfl) | exact ltLR (k := 4) (by k_extra "pj") (Nat.le_of_ble_eq_true rfl)
  k_with "lt" => first | with_reducible assumption | exact ltOf (by with_reducible assumption) (by k_mem)
  k_with "k_ne" => (refine neN ?_; (try dsimp only); first | exact neK rfl | exact neK0 rfl | exact neK1 rfl | exact Nat.ne_of_lt (by k_extra "lt") | exact Nat.ne_of_gt (by k_extra "lt") | exact Nat.ne_of_lt (by k_extra "pj") | exact Nat.ne_of_gt (by k_extra "pj") | exact Nat.ne_of_lt (by k_extra "pj2") | exact Nat.ne_of_gt (by k_extra "pj2") | k_extra "pj" | k_extra "pq" | exact Ne.symm (by k_extra "pj") | omega)
  k_with "mb" => first | with_reducible exact incM | with_reducible assumption | (with_reducible refine incMT ?_; k_extra "mb") | (with_reducible refine incML ?_; k_extra "mb") | (with_reducible refine incMR ?_; k_extra "mb")
  k_with "sbl" => first | with_reducible exact incI | (with_reducible refine incT ?_; k_extra "sbl") | (with_reducible refine incL ?_; k_extra "sbl") | (with_reducible refine incR ?_; k_extra "sbl")
  k_with "sb" => first | with_reducible exact incI | with_reducible exact incN | (with_reducible refine' incC ?m9 ?r9; (case m9 => k_extra "mb"); (case r9 => k_extra "sb")) | (k_extra "sbl") | (with_reducible refine incA ?_ ?_ <;> k_extra "sb")
  k_with "mg" => first | with_reducible exact List.mem_cons_self | (with_reducible refine List.mem_cons_of_mem _ ?_; k_extra "mg")
  k_with "ne1" => first | exact h1 | exact neP h2 (by k_extra "mg") | exact neC h3 (by k_extra "mg") | fail "ne1"
  k_with "nc" => with_reducible first | exact h3 | exact ncN | (refine' ncC ?b9 ?q9; (case b9 => k_extra "ne1"); (case q9 => k_extra "nc")) | fail "nc"
  k_with "sm" => with_reducible first | rfl | (refine' sm1 ?a9 ?r9; (case a9 => k_extra "ne1"); (case r9 => k_extra "sm")) | (refine' sm2 ?h9 ?r9; (case h9 => k_extra "nc"); (case r9 => k_extra "sm")) | (refine sm3 h2 ?_; k_extra "sm") | fail "sm"
  k_with "rm" => first | exact ltA0 (by with_reducible assumption) | exact ltA1 (by with_reducible assumption) (Nat.le_of_ble_eq_true rfl) | exact ltA2 (by with_reducible assumption) (Nat.le_of_ble_eq_true rfl) | exact ltA3 (by with_reducible assumption) (Nat.le_of_ble_eq_true rfl)
  k_with "sz" => first | with_reducible assumption | with_reducible exact Nat.le_of_ble_eq_true (Eq.refl true)
  k_with "my call ref" => first | (k_here; k_dflt (refine' CS.use (times1_cs w _ _ _ _ _ _ (by omega) (by omega) (by omega) (by omega) (by omega) _) ?B ?F ?X ?N ?T ?K ?D ?U ?_; (case B => k_asm); (case F => k_asm); (case X => k_asm); (case N => k_asm); (case T => k_asm); (case K => first | exact rfl | assumption); (case D => first | k_extra "rm" | omega | (show dp + _ + _ < recursionLimit; omega) | (show dp + _ < recursionLimit; omega) | (show _ + _ < recursionLimit; decide)); (case U => first | k_extra "rm" | omega | (show un + _ + 8 * _ < cLine; omega) | (show un + 8 * _ < cLine; omega) | ktr_units); k_whole; intro r9 n9 h9 tk9 F9 N9 p9; obtain ⟨⟨t9, rfl⟩, rfl⟩ := p9; skip; (try dsimp only); (try k_fold)))
  k_steps
  all_goals (refine hret _ _ _ _ (by k_asm) (by k_asm) ⟨int_ret ?_, rfl⟩)
  all_goals (unfold T2; first | rw [if_pos (by omega)] | (rw [if_neg (by omega)]; rfl))
theorem times4_cs (w : World) (x y : Int) (t1 t2 t3 : Tok) (hx : 0 ≤ x) (hx' : x < 16) (hy : 0 ≤ y) (hy' : y < 16) (news : List (Addr × Obj)) : CS w (hd.heap_39 w.params) 166 3 [.int x t1, .int y t2, .int 4 t3] news (fun r n => (∃ t, r = .int (T4 x y) t) ∧ n = news) := by
  have f1 := fdm4 hx hx'
  have f2 := fdm4 hy hy'
  have b1 := bx4 f1.2.2.1 f1.2.2.2 f1.1 f1.2.1
  have b2 := bx4 f2.2.2.1 f2.2.2.2 f2.1 f2.2.1
  have m1 := T2_bd f1.1 f1.2.1 f2.1 f2.2.1
  have m2 := T2_bd f1.2.2.1 f1.2.2.2 f2.2.2.1 f2.2.2.2
  have m3 := T2_bd b1.1 b1.2 b2.1 b2.2
  have b3 := bx4 m3.1 m3.2 m1.1 m1.2
  have s1 : Int.fdiv 4 2 = 2 := by decide
  unfold CS
  k_fill
  intro mean mg mb dp un gd cn cs a ccd cl outer A₀ base h₀ L m s Q E B F X N T hk hd hu hret
  refine wpAny_call ?_
  k_dflt ktr_enter
  k_with_none
  k_with "k_mem" => first | exact (by with_reducible assumption) | exact (List.mem_cons_of_mem _ (by with_reducible assumption)) | exact (List.mem_cons_of_mem _ (List.mem_cons_of_mem _ (by with_reducible assumption))) | exact (List.mem_cons_of_mem _ (List.mem_cons_of_mem _ (List.mem_cons_of_mem _ (by with_reducible assumption)))) | exact (List.mem_cons_of_mem _ (List.mem_cons_of_mem _ (List.mem_cons_of_mem _ (List.mem_cons_of_mem _ (by with_reducible assumption)))))
  k_with "pj" => first | with_reducible assumption | exact pj0 (by with_reducible assumption) | exact pj1 (by with_reducible assumption) | exact pj2 (by with_reducible assumption) | exact pj3 (by with_reducible assumption) | exact pj4 (by with_reducible assumption) | exact pj5 (by with_reducible assumption) | exact pj6 (by with_reducible assumption) | exact pj7 (by with_reducible assumption) | exact pj8 (by with_reducible assumption) | exact pj9 (by with_reducible assumption) | exact pj10 (by with_reducible assumption) | exact pj11 (by with_reducible assumption) | exact pj12 (by with_reducible assumption) | exact pj13 (by with_reducible assumption) | exact pj14 (by with_reducible assumption) | exact pj15 (by with_reducible assumption) | exact pj16 (by with_reducible assumption) | exact pj17 (by with_reducible assumption) | exact pj18 (by with_reducible assumption) | exact pj19 (by with_reducible assumption) | exact pj20 (by with_reducible assumption) | exact pj21 (by with_reducible assumption) | exact pj22 (by with_reducible assumption) | exact pj23 (by with_reducible assumption) | exact pj24 (by with_reducible assumption)
  k_with "pj2" => first | exact ltR (by k_extra "lt") | exact ltL (k := 4) (by k_extra "lt") (Nat.le_of_ble_eq_true rfl) | exact ltLR (k := 4) (by k_extra "lt") (Nat.le_of_ble_eq_true rfl) | exact ltR (by k_extra "pj") | exact ltL (k := 4) (by k_extra "pj") (Nat.le_of_ble_eq_true rfl) | exact ltLR (k := 4) (by k_extra "pj") (Nat.le_of_ble_eq_true rfl)
  k_with "lt" => first | with_reducible assumption | exact ltOf (by with_reducible assumption) (by k_mem)
  k_with "k_ne" => (refine neN ?_; (try dsimp only); first | exact neK rfl | exact neK0 rfl | exact neK1 rfl | exact Nat.ne_of_lt (by k_extra "lt") | exact Nat.ne_of_gt (by k_extra "lt") | exact Nat.ne_of_lt (by k_extra "pj") | exact Nat.ne_of_gt (by k_extra "pj") | exact Nat.ne_of_lt (by k_extra "pj2") | exact Nat.ne_of_gt (by k_extra "pj2") | k_extra "pj" | k_extra "pq" | exact Ne.symm (by k_extra "pj") | omega)
  k_with "mb" => first | with_reducible exact incM | with_reducible assumption | (with_reducible refine incMT ?_; k_extra "mb") | (with_reducible refine incML ?_; k_extra "mb") | (with_reducible refine incMR ?_; k_extra "mb")
  k_with "sbl" => first | with_reducible exact incI | (with_reducible refine incT ?_; k_extra "sbl") | (with_reducible refine incL ?_; k_extra "sbl") | (with_reducible refine incR ?_; k_extra "sbl")
  k_with "sb" => first | with_reducible exact incI | with_reducible exact incN | (with_reducible refine' incC ?m9 ?r9; (case m9 => k_extra "mb"); (case r9 => k_extra "sb")) | (k_extra "sbl") | (with_reducible refine incA ?_ ?_ <;> k_extra "sb")
  k_with "mg" => first | with_reducible exact List.mem_cons_self | (with_reducible refine List.mem_cons_of_mem _ ?_; k_extra "mg")
  k_with "ne1" => first | exact h1 | exact neP h2 (by k_extra "mg") | exact neC h3 (by k_extra "mg") | fail "ne1"
  k_with "nc" => with_reducible first | exact h3 | exact ncN | (refine' ncC ?b9 ?q9; (case b9 => k_extra "ne1"); (case q9 => k_extra "nc")) | fail "nc"
  k_with "sm" => with_reducible first | rfl | (refine' sm1 ?a9 ?r9; (case a9 => k_extra "ne1"); (case r9 => k_extra "sm")) | (refine' sm2 ?h9 ?r9; (case h9 => k_extra "nc"); (case r9 => k_extra "sm")) | (refine sm3 h2 ?_; k_extra "sm") | fail "sm"
  k_with "rm" => first | exact ltA0 (by with_reducible assumption) | exact ltA1 (by with_reducible assumption) (Nat.le_of_ble_eq_true rfl) | exact ltA2 (by with_reducible assumption) (Nat.le_of_ble_eq_true rfl) | exact ltA3 (by with_reducible assumption) (Nat.le_of_ble_eq_true rfl)
  k_with "sz" => first | with_reducible assumption | with_reducible exact Nat.le_of_ble_eq_true (Eq.refl true)
  k_with "my call ref" => first | (k_here; k_dflt (refine' CS.use (times2_cs w _ _ _ _ _ (by omega) (by omega) (by omega) (by omega) _) ?B ?F ?X ?N ?T ?K ?D ?U ?_; (case B => k_asm); (case F => k_asm); (case X => k_asm); (case N => k_asm); (case T => k_asm); (case K => first | exact rfl | assumption); (case D => first | k_extra "rm" | omega | (show dp + _ + _ < recursionLimit; omega) | (show dp + _ < recursionLimit; omega) | (show _ + _ < recursionLimit; decide)); (case U => first | k_extra "rm" | omega | (show un + _ + 8 * _ < cLine; omega) | (show un + 8 * _ < cLine; omega) | ktr_units); k_whole; intro r9 n9 h9 tk9 F9 N9 p9; obtain ⟨⟨t9, rfl⟩, rfl⟩ := p9; skip; (try dsimp only); (try k_fold)))
  k_steps
  all_goals (refine hret _ _ _ _ (by k_asm) (by k_asm) ⟨int_ret ?_, rfl⟩)
  all_goals (unfold T4; first | rw [if_pos (by omega)] | (rw [if_neg (by omega)]; rfl))
end
-- part Cworth
section
theorem top_off_Cworth : True := by
  w_top off
  exact True.intro
noncomputable abbrev wnext (e s : Str) : Str := p257v (Str.ofString "257 \"" ++ s ++ e)
noncomputable def wsearch (e : Str) (port : Int) : Nat → Nat → Str → Int
  | 0, _, _ => 0
  | n + 1, k, s => if (Txt.slice (wnext e s) (some (-1)) none != Str.ofString "z") = true then (if (2 * ((wnext e s).length : Int) + 1) * 2 ^ k = port then 1 * 2 ^ k else 0) else wsearch e port n (k + 1) (wnext e s)
theorem wsearch_zero (e : Str) (p : Int) (k : Nat) (s : Str) : wsearch e p 0 k s = 0 := rfl
theorem wsearch_succ (e : Str) (p : Int) (n k : Nat) (s : Str) : wsearch e p (n + 1) k s = if (Txt.slice (wnext e s) (some (-1)) none != Str.ofString "z") = true then (if (2 * ((wnext e s).length : Int) + 1) * 2 ^ k = p then 1 * 2 ^ k else 0) else wsearch e p n (k + 1) (wnext e s) := rfl
noncomputable def WEqs (e : Str) (p : Int) (W : Nat → Nat → Str → Int) : Prop :=
  (∀ k s, W 0 k s = 0) ∧ ∀ n k s, W (n + 1) k s = if (Txt.slice (wnext e s) (some (-1)) none != Str.ofString "z") = true then (if (2 * ((wnext e s).length : Int) + 1) * 2 ^ k = p then 1 * 2 ^ k else 0) else W n (k + 1) (wnext e s)
theorem wsearch_eqs (e : Str) (p : Int) : WEqs e p (wsearch e p) := ⟨wsearch_zero e p, wsearch_succ e p⟩
theorem worth_step {e : Str} {p : Int} {W : Nat → Nat → Str → Int} (hE : WEqs e p W) {s : Str} {i : Nat} {R : Int} (hk : i < 9) (hl : (s.length : Int) ≤ 6 + 8 * (i : Int)) (he : e.length ≤ 8) (hW : W (9 - i) i s = R)
    (h9 : (wnext e s).length + 5 ≤ 5 + s.length + e.length ∨ (wnext e s).length = 0) (hs : (Txt.slice (wnext e s) (some (-1)) none != Str.ofString "z") = false) :
    ((wnext e s).length : Int) ≤ 6 + 8 * ((i + 1 : Nat) : Int) ∧ W (9 - (i + 1)) (i + 1) (wnext e s) = R := by
  obtain ⟨m, hm⟩ : ∃ m, 9 - i = m + 1 := ⟨9 - i - 1, by omega⟩
  rw [hm, hE.2, hs] at hW
  simp only [Bool.false_eq_true, if_false] at hW
  refine ⟨by omega, ?_⟩
  have e2 : 9 - (i + 1) = m := by omega
  rw [e2]
  exact hW
theorem worth_len {p : Int} {M : Str} (hp : 1 ≤ p) (hp' : p ≤ 5) (hm : 0 ≤ p → (M.length : Int) = ((1 : Nat) : Int) * p) : ((M ++ Str.ofString "z").length : Int) ≤ 6 + 8 * ((0 : Nat) : Int) := by
  rw [Str.length_append]
  have : (Str.ofString "z").length = 1 := by decide +kernel
  have hm := hm (by omega)
  rw [this]
  omega
theorem worth_hit {e : Str} {p : Int} {W : Nat → Nat → Str → Int} (hE : WEqs e p W) {s : Str} {i : Nat} {R : Int} (hk : i < 9) (hW : W (9 - i) i s = R) (hs : (Txt.slice (wnext e s) (some (-1)) none != Str.ofString "z") = true) (hq : (2 * ((wnext e s).length : Int) + 1) * 2 ^ ((0 : Int) + (i : Int)).toNat = p) :
    1 * 2 ^ ((0 : Int) + (i : Int)).toNat = R := by
  obtain ⟨m, hm⟩ : ∃ m, 9 - i = m + 1 := ⟨9 - i - 1, by omega⟩
  have e0 : ((0 : Int) + (i : Int)).toNat = i := by omega
  rw [hm, hE.2, hs] at hW
  rw [e0] at hq ⊢
  simp only [if_true, hq] at hW
  exact hW
theorem worth_miss {e : Str} {p : Int} {W : Nat → Nat → Str → Int} (hE : WEqs e p W) {s : Str} {i : Nat} {R : Int} (hk : i < 9) (hW : W (9 - i) i s = R) (hs : (Txt.slice (wnext e s) (some (-1)) none != Str.ofString "z") = true) (hq : ¬ (2 * ((wnext e s).length : Int) + 1) * 2 ^ ((0 : Int) + (i : Int)).toNat = p) :
    0 = R := by
  obtain ⟨m, hm⟩ : ∃ m, 9 - i = m + 1 := ⟨9 - i - 1, by omega⟩
  have e0 : ((0 : Int) + (i : Int)).toNat = i := by omega
  rw [hm, hE.2, hs] at hW
  rw [e0] at hq
  simp only [if_true, if_neg hq] at hW
  exact hW
theorem worth_out {e : Str} {p : Int} {W : Nat → Nat → Str → Int} (hE : WEqs e p W) {s : Str} {R : Int} (hW : W (9 - 9) 9 s = R) : 0 = R := by
  rw [← hW]
  exact (hE.1 9 s).symm
theorem worth0 (w : World) (p : Int) (e : Str) (t1 t2 t3 : Tok) (hp : 1 ≤ p) (hp' : p ≤ 5) (he : e.length ≤ 8) (W : Nat → Nat → Str → Int) (hE : WEqs e p W) (news : List (Addr × Obj)) : CS w (hd.heap_39 w.params) 152 3 [.int 0 t1, .int p t2, .str e t3] news (fun r n => (∃ t, r = .int (W 9 0 (Txt.mul (Str.ofString "\"") p ++ Str.ofString "z")) t) ∧ n = news) := by
  unfold CS
  k_fill
  intro mean mg mb dp un gd cn cs a ccd cl outer A₀ base h₀ L m s Q E B F X N T hk hd hu hret
  refine wpAny_call ?_
  k_dflt (refine' code_defT [(Str.ofString "kind", .int 0 t1), (Str.ofString "port", .int p t2), (Str.ofString "end", .str e t3)] ?k1 ?k2 ?k3 ?k4 ?k5 ?kA ?kF ?kK ?k6 ?k7 ?k8 ?k9 ?kB ?_ ?c2 ?c3 ?c4 ?c5; (case kA => exact rfl); (case kF => exact rfl); (case kK => assumption); (case k1 => k_asm); (case k2 => k_asm); (case k3 => k_asm); (case k4 => k_asm); (case k5 => k_asm); (case k6 => k_is); (case k7 => k_is); (case k8 => ktr_room); (case k9 => exact BindsTo.of_eq rfl); (case c5 => decide); (case kB => exact locs rfl); (case c2 => exact rfl); (case c3 => exact rfl); (case c4 => exact rfl); k_whole)
  intro g' L' h' tk' FG' F9 N' B' X' T'
  replace F9 := fr3 (a := Str.ofString "kind") (b := Str.ofString "port") (c := Str.ofString "end") F9
  (try dsimp only)
  (try k_fold)
  k_with_none
  k_with "k_mem" => first | exact (by with_reducible assumption) | exact (List.mem_cons_of_mem _ (by with_reducible assumption)) | exact (List.mem_cons_of_mem _ (List.mem_cons_of_mem _ (by with_reducible assumption))) | exact (List.mem_cons_of_mem _ (List.mem_cons_of_mem _ (List.mem_cons_of_mem _ (by with_reducible assumption)))) | exact (List.mem_cons_of_mem _ (List.mem_cons_of_mem _ (List.mem_cons_of_mem _ (List.mem_cons_of_mem _ (by with_reducible assumption)))))
  k_with "pj" => first | with_reducible assumption | exact pj0 (by with_reducible assumption) | exact pj1 (by with_reducible assumption) | exact pj2 (by with_reducible assumption) | exact pj3 (by with_reducible assumption) | exact pj4 (by with_reducible assumption) | exact pj5 (by with_reducible assumption) | exact pj6 (by with_reducible assumption) | exact pj7 (by with_reducible assumption) | exact pj8 (by with_reducible assumption) | exact pj9 (by with_reducible assumption) | exact pj10 (by with_reducible assumption) | exact pj11 (by with_reducible assumption) | exact pj12 (by with_reducible assumption) | exact pj13 (by with_reducible assumption) | exact pj14 (by with_reducible assumption) | exact pj15 (by with_reducible assumption) | exact pj16 (by with_reducible assumption) | exact pj17 (by with_reducible assumption) | exact pj18 (by with_reducible assumption) | exact pj19 (by with_reducible assumption) | exact pj20 (by with_reducible assumption) | exact pj21 (by with_reducible assumption) | exact pj22 (by with_reducible assumption) | exact pj23 (by with_reducible assumption) | exact pj24 (by with_reducible assumption)
  k_with "pj2" => first | exact ltR (by k_extra "lt") | exact ltL (k := 4) (by k_extra "lt") (Nat.le_of_ble_eq_true rfl) | exact ltLR (k := 4) (by k_extra "lt") (Nat.le_of_ble_eq_true rfl) | exact ltR (by k_extra "pj") | exact ltL (k := 4) (by k_extra "pj") (Nat.le_of_ble_eq_true rfl) | exact ltLR (k := 4) (by k_extra "pj") (Nat.le_of_ble_eq_true rfl)
  k_with "lt" => first | with_reducible assumption | exact ltOf (by with_reducible assumption) (by k_mem)
  k_with "k_ne" => (refine neN ?_; (try dsimp only); first | exact neK rfl | exact neK0 rfl | exact neK1 rfl | exact Nat.ne_of_lt (by k_extra "lt") | exact Nat.ne_of_gt (by k_extra "lt") | exact Nat.ne_of_lt (by k_extra "pj") | exact Nat.ne_of_gt (by k_extra "pj") | exact Nat.ne_of_lt (by k_extra "pj2") | exact Nat.ne_of_gt (by k_extra "pj2") | k_extra "pj" | k_extra "pq" | exact Ne.symm (by k_extra "pj") | omega)
  k_with "mb" => first | with_reducible exact incM | with_reducible assumption | (with_reducible refine incMT ?_; k_extra "mb") | (with_reducible refine incML ?_; k_extra "mb") | (with_reducible refine incMR ?_; k_extra "mb")
  k_with "sbl" => first | with_reducible exact incI | (with_reducible refine incT ?_; k_extra "sbl") | (with_reducible refine incL ?_; k_extra "sbl") | (with_reducible refine incR ?_; k_extra "sbl")
  k_with "sb" => first | with_reducible exact incI | with_reducible exact incN | (with_reducible refine' incC ?m9 ?r9; (case m9 => k_extra "mb"); (case r9 => k_extra "sb")) | (k_extra "sbl") | (with_reducible refine incA ?_ ?_ <;> k_extra "sb")
  k_with "mg" => first | with_reducible exact List.mem_cons_self | (with_reducible refine List.mem_cons_of_mem _ ?_; k_extra "mg")
  k_with "ne1" => first | exact h1 | exact neP h2 (by k_extra "mg") | exact neC h3 (by k_extra "mg") | fail "ne1"
  k_with "nc" => with_reducible first | exact h3 | exact ncN | (refine' ncC ?b9 ?q9; (case b9 => k_extra "ne1"); (case q9 => k_extra "nc")) | fail "nc"
  k_with "sm" => with_reducible first | rfl | (refine' sm1 ?a9 ?r9; (case a9 => k_extra "ne1"); (case r9 => k_extra "sm")) | (refine' sm2 ?h9 ?r9; (case h9 => k_extra "nc"); (case r9 => k_extra "sm")) | (refine sm3 h2 ?_; k_extra "sm") | fail "sm"
  k_with "rm" => first | exact ltA0 (by with_reducible assumption) | exact ltA1 (by with_reducible assumption) (Nat.le_of_ble_eq_true rfl) | exact ltA2 (by with_reducible assumption) (Nat.le_of_ble_eq_true rfl) | exact ltA3 (by with_reducible assumption) (Nat.le_of_ble_eq_true rfl)
  k_with "sz" => first | with_reducible assumption | with_reducible exact Nat.le_of_ble_eq_true (Eq.refl true)
  k_with "my call ref" => first | (k_here; k_dflt (refine' CS.use (p257 w _ _ (by rw [len_pre]; omega) (pre_slice _ _) (fun _ => by rw [len_pre]; omega) _) ?B ?F ?X ?N ?T ?K ?D ?U ?_; (case B => k_asm); (case F => k_asm); (case X => k_asm); (case N => k_asm); (case T => k_asm); (case K => first | exact rfl | assumption); (case D => first | k_extra "rm" | omega | (show dp + _ + _ < recursionLimit; omega) | (show dp + _ < recursionLimit; omega) | (show _ + _ < recursionLimit; decide)); (case U => first | k_extra "rm" | omega | (show un + _ + 8 * _ < cLine; omega) | (show un + 8 * _ < cLine; omega) | ktr_units); k_whole; intro r9 n9 h9 tk9 F9 N9 p9; obtain ⟨⟨t9, rfl⟩, rfl, hl9⟩ := p9; (rw [len_pre] at hl9); (try dsimp only); (try k_fold)))
  k_with "my call ref" => first | (k_here; k_dflt (refine' CS.use (lshift_cs w _ _ _ _ (by omega) (by omega) (by omega) (by omega) _) ?B ?F ?X ?N ?T ?K ?D ?U ?_; (case B => k_asm); (case F => k_asm); (case X => k_asm); (case N => k_asm); (case T => k_asm); (case K => first | exact rfl | assumption); (case D => first | k_extra "rm" | omega | (show dp + _ + _ < recursionLimit; omega) | (show dp + _ < recursionLimit; omega) | (show _ + _ < recursionLimit; decide)); (case U => first | k_extra "rm" | omega | (show un + _ + 8 * _ < cLine; omega) | (show un + 8 * _ < cLine; omega) | ktr_units); k_whole; intro r9 n9 h9 tk9 F9 N9 p9; obtain ⟨⟨t9, rfl⟩, rfl⟩ := p9; skip; (try dsimp only); (try k_fold)))
  k_with "my pyIter ref" => 
    k_here
    rename Fr _ _ _ _ => F8
    rename News _ _ _ _ => N8
    rename IsRange _ _ _ _ _ _ _ _ => R8
    with_unfolding_all refine' lp_rangeL (σ := Str × Nat) (fun _ => news) (fun c => [(Str.ofString "said", .str c.1 c.2)]) [] (fun i c => (c.1.length : Int) ≤ 6 + 8 * (i : Int) ∧ W (9 - i) i c.1 = W 9 0 (Txt.mul (Str.ofString "\"") p ++ Str.ofString "z")) (_, _) (by rfl) (by rfl) R8 (by decide) (n := 9) (by first | rfl | omega | (rw [rangeSize_nat, Int.sub_zero]; done) | (rw [rangeSize_nat]; omega)) F8 ?kN ?kk ?kp ?_ ?_
    case kN => first | exact N8 | with_unfolding_all exact N8 | (refine kst_newsOf N8 ?_; with_reducible refine Inc.use ?_; k_extra "sb") | (refine kst_newsOf N8 ?_; intro p hp; simp only [List.mem_append, List.mem_cons, List.not_mem_nil, or_false] at hp ⊢; simp only [hp, true_or, or_true])
    case kk => kst_all
    case kp => exact ⟨worth_len hp hp' (by assumption), rfl⟩
    clear F8 N8 R8
    rotate_left
    clear F8 N8 R8
    rotate_right
    all_goals first
      | (intro c i t7 u7 h7 tk7 own hi hoff hP F7 N7; obtain ⟨said, ts⟩ := c; (try dsimp only [kstB] at F7); (try dsimp only at N7); (try dsimp only at hP); obtain ⟨hP1, hP2⟩ := hP; (try dsimp only); (try k_fold))
      | (intro c u7 h7 tk7 hP F7 N7; obtain ⟨said, ts⟩ := c; (try dsimp only [kstB] at F7); (try dsimp only at N7); (try dsimp only at hP); obtain ⟨hP1, hP2⟩ := hP; (try dsimp only); (try k_fold))
  k_with "my LpEnd" => (rename News _ _ _ _ => N8; refine' lp_end (_, _) (by k_asm) N8 ?hn ?ho ?hf ?hk ?hr ?hp; (case hk => kst_all); (case hn => (try dsimp only); (first | (with_reducible refine Inc.use ?_; k_extra "sb") | (intro p hp; simp only [List.mem_append, List.mem_cons, List.not_mem_nil, or_false] at hp ⊢; first | (simp only [hp, true_or, or_true]; done) | ((repeat' (refine Or.elim hp ?_ ?_ <;> clear hp <;> intro hp)) <;> simp only [hp, true_or, or_true])))); (case ho => (first | (with_reducible refine Inc.use ?_; k_extra "sb") | (intro p hp; simp only [List.mem_append, List.mem_cons, List.not_mem_nil, or_false] at hp ⊢; first | (simp only [hp, true_or, or_true]; done) | ((repeat' (refine Or.elim hp ?_ ?_ <;> clear hp <;> intro hp)) <;> simp only [hp, true_or, or_true])))); (case hf => (try dsimp only); assumption); (case hr => first | (intro z9 h1 h2 h3; k_extra "sm"; done) | kst_same); (case hp => (try dsimp only); exact worth_step hE hi hP1 he hP2 hl9 (by assumption)))
  k_steps
  all_goals refine hret _ news _ _ (by k_asm) (by first | k_asm | (refine kst_newsOf (by k_asm) ?_; with_reducible refine Inc.use ?_; k_extra "sb") | (refine kst_newsOf (by k_asm) ?_; intro p hp; simp only [List.mem_append, List.mem_cons, List.not_mem_nil, or_false] at hp ⊢; simp only [hp, true_or, or_true])) ⟨int_ret ?_, rfl⟩
  all_goals first
    | exact worth_hit hE hi hP2 (by with_reducible assumption) (by with_reducible assumption)
    | exact worth_miss hE hi hP2 (by with_reducible assumption) (by with_reducible assumption)
    | exact worth_out hE hP2
noncomputable def endT (j : Int) : Str := if j = 0 then Str.ofString "\" is it" else if j = 1 then Str.ofString "\"" else if j = 2 then Str.ofString "" else Str.ofString "\" \"z\"\""
theorem endT_len (j : Int) : (endT j).length ≤ 8 := by
  unfold endT
  split
  · decide +kernel
  · split
    · decide +kernel
    · split
      · decide +kernel
      · decide +kernel
noncomputable def lowB (p : Int) : Int := if p = 2 then 2 else if p = 4 then 4 else 1
noncomputable def rowW (k p : Int) : Int := if k = 0 then lowB p else p - k + 1
theorem wsearch_fin : ∀ (a : Fin 5) (j : Fin 4), wsearch (endT (j.val : Int)) ((a.val : Int) + 1) 9 0 (Txt.mul (Str.ofString "\"") ((a.val : Int) + 1) ++ Str.ofString "z") = lowB ((a.val : Int) + 1) := by decide +kernel
theorem wsearch_is {p j : Int} (hp : 1 ≤ p) (hp' : p ≤ 5) (hj : 0 ≤ j) (hj' : j < 4) : wsearch (endT j) p 9 0 (Txt.mul (Str.ofString "\"") p ++ Str.ofString "z") = lowB p := by
  have h := wsearch_fin ⟨(p - 1).toNat, by omega⟩ ⟨j.toNat, by omega⟩
  have e1 : (((p - 1).toNat : Nat) : Int) + 1 = p := by omega
  have e2 : ((j.toNat : Nat) : Int) = j := by omega
  simp only [e1, e2] at h
  exact h
theorem worth1 (w : World) (k p : Int) (e : Str) (t1 t2 t3 : Tok) (hk : 0 < k) (hk' : k < 3) (hp : 1 ≤ p) (hp' : p ≤ 5) (news : List (Addr × Obj)) : CS w (hd.heap_39 w.params) 152 3 [.int k t1, .int p t2, .str e t3] news (fun r n => (∃ t, r = .int (p - k + 1) t) ∧ n = news) := by
  unfold CS
  k_fill
  intro mean mg mb dp un gd cn cs a ccd cl outer A₀ base h₀ L m s Q E B F X N T hk hd hu hret
  refine wpAny_call ?_
  k_dflt (refine' code_defT [(Str.ofString "kind", .int k t1), (Str.ofString "port", .int p t2), (Str.ofString "end", .str e t3)] ?k1 ?k2 ?k3 ?k4 ?k5 ?kA ?kF ?kK ?k6 ?k7 ?k8 ?k9 ?kB ?_ ?c2 ?c3 ?c4 ?c5; (case kA => exact rfl); (case kF => exact rfl); (case kK => assumption); (case k1 => k_asm); (case k2 => k_asm); (case k3 => k_asm); (case k4 => k_asm); (case k5 => k_asm); (case k6 => k_is); (case k7 => k_is); (case k8 => ktr_room); (case k9 => exact BindsTo.of_eq rfl); (case c5 => decide); (case kB => exact locs rfl); (case c2 => exact rfl); (case c3 => exact rfl); (case c4 => exact rfl); k_whole)
  intro g' L' h' tk' FG' F9 N' B' X' T'
  replace F9 := fr3 (a := Str.ofString "kind") (b := Str.ofString "port") (c := Str.ofString "end") F9
  (try dsimp only)
  (try k_fold)
  k_with_none
  k_with "k_mem" => first | exact (by with_reducible assumption) | exact (List.mem_cons_of_mem _ (by with_reducible assumption)) | exact (List.mem_cons_of_mem _ (List.mem_cons_of_mem _ (by with_reducible assumption))) | exact (List.mem_cons_of_mem _ (List.mem_cons_of_mem _ (List.mem_cons_of_mem _ (by with_reducible assumption)))) | exact (List.mem_cons_of_mem _ (List.mem_cons_of_mem _ (List.mem_cons_of_mem _ (List.mem_cons_of_mem _ (by with_reducible assumption)))))
  k_with "pj" => first | with_reducible assumption | exact pj0 (by with_reducible assumption) | exact pj1 (by with_reducible assumption) | exact pj2 (by with_reducible assumption) | exact pj3 (by with_reducible assumption) | exact pj4 (by with_reducible assumption) | exact pj5 (by with_reducible assumption) | exact pj6 (by with_reducible assumption) | exact pj7 (by with_reducible assumption) | exact pj8 (by with_reducible assumption) | exact pj9 (by with_reducible assumption) | exact pj10 (by with_reducible assumption) | exact pj11 (by with_reducible assumption) | exact pj12 (by with_reducible assumption) | exact pj13 (by with_reducible assumption) | exact pj14 (by with_reducible assumption) | exact pj15 (by with_reducible assumption) | exact pj16 (by with_reducible assumption) | exact pj17 (by with_reducible assumption) | exact pj18 (by with_reducible assumption) | exact pj19 (by with_reducible assumption) | exact pj20 (by with_reducible assumption) | exact pj21 (by with_reducible assumption) | exact pj22 (by with_reducible assumption) | exact pj23 (by with_reducible assumption) | exact pj24 (by with_reducible assumption)
  k_with "pj2" => first | exact ltR (by k_extra "lt") | exact ltL (k := 4) (by k_extra "lt") (Nat.le_of_ble_eq_true rfl) | exact ltLR (k := 4) (by k_extra "lt") (Nat.le_of_ble_eq_true rfl) | exact ltR (by k_extra "pj") | exact ltL (k := 4) (by k_extra "pj") (Nat.le_of_ble_eq_true rfl) | exact ltLR (k := 4) (by k_extra "pj") (Nat.le_of_ble_eq_true rfl)
  k_with "lt" => first | with_reducible assumption | exact ltOf (by with_reducible assumption) (by k_mem)
  k_with "k_ne" => (refine neN ?_; (try dsimp only); first | exact neK rfl | exact neK0 rfl | exact neK1 rfl | exact Nat.ne_of_lt (by k_extra "lt") | exact Nat.ne_of_gt (by k_extra "lt") | exact Nat.ne_of_lt (by k_extra "pj") | exact Nat.ne_of_gt (by k_extra "pj") | exact Nat.ne_of_lt (by k_extra "pj2") | exact Nat.ne_of_gt (by k_extra "pj2") | k_extra "pj" | k_extra "pq" | exact Ne.symm (by k_extra "pj") | omega)
  k_with "mb" => first | with_reducible exact incM | with_reducible assumption | (with_reducible refine incMT ?_; k_extra "mb") | (with_reducible refine incML ?_; k_extra "mb") | (with_reducible refine incMR ?_; k_extra "mb")
  k_with "sbl" => first | with_reducible exact incI | (with_reducible refine incT ?_; k_extra "sbl") | (with_reducible refine incL ?_; k_extra "sbl") | (with_reducible refine incR ?_; k_extra "sbl")
  k_with "sb" => first | with_reducible exact incI | with_reducible exact incN | (with_reducible refine' incC ?m9 ?r9; (case m9 => k_extra "mb"); (case r9 => k_extra "sb")) | (k_extra "sbl") | (with_reducible refine incA ?_ ?_ <;> k_extra "sb")
  k_with "mg" => first | with_reducible exact List.mem_cons_self | (with_reducible refine List.mem_cons_of_mem _ ?_; k_extra "mg")
  k_with "ne1" => first | exact h1 | exact neP h2 (by k_extra "mg") | exact neC h3 (by k_extra "mg") | fail "ne1"
  k_with "nc" => with_reducible first | exact h3 | exact ncN | (refine' ncC ?b9 ?q9; (case b9 => k_extra "ne1"); (case q9 => k_extra "nc")) | fail "nc"
  k_with "sm" => with_reducible first | rfl | (refine' sm1 ?a9 ?r9; (case a9 => k_extra "ne1"); (case r9 => k_extra "sm")) | (refine' sm2 ?h9 ?r9; (case h9 => k_extra "nc"); (case r9 => k_extra "sm")) | (refine sm3 h2 ?_; k_extra "sm") | fail "sm"
  k_with "rm" => first | exact ltA0 (by with_reducible assumption) | exact ltA1 (by with_reducible assumption) (Nat.le_of_ble_eq_true rfl) | exact ltA2 (by with_reducible assumption) (Nat.le_of_ble_eq_true rfl) | exact ltA3 (by with_reducible assumption) (Nat.le_of_ble_eq_true rfl)
  k_with "sz" => first | with_reducible assumption | with_reducible exact Nat.le_of_ble_eq_true (Eq.refl true)
  k_steps
  all_goals first
    | exact hret _ news _ _ (by k_asm) (by first | k_asm | (refine kst_newsOf (by k_asm) ?_; with_reducible refine Inc.use ?_; k_extra "sb") | (refine kst_newsOf (by k_asm) ?_; intro p hp; simp only [List.mem_append, List.mem_cons, List.not_mem_nil, or_false] at hp ⊢; simp only [hp, true_or, or_true])) ⟨⟨_, rfl⟩, rfl⟩
    | (exfalso; omega)
theorem worth_cs (w : World) (k p j : Int) (t1 t2 t3 : Tok) (hk : 0 ≤ k) (hk' : k < 3) (hp : 1 ≤ p) (hp' : p ≤ 5) (hj : 0 ≤ j) (hj' : j < 4) (news : List (Addr × Obj)) : CS w (hd.heap_39 w.params) 152 3 [.int k t1, .int p t2, .str (endT j) t3] news (fun r n => (∃ t, r = .int (rowW k p) t) ∧ n = news) := by
  by_cases h : k = 0
  · subst h
    have := worth0 w p (endT j) t1 t2 t3 hp hp' (endT_len j) _ (wsearch_eqs (endT j) p) news
    rw [wsearch_is hp hp' hj hj'] at this
    exact this
  · have := worth1 w k p (endT j) t1 t2 t3 (by omega) hk' hp hp' news
    unfold rowW
    rw [if_neg h]
    exact this
end
-- part Creply
section
theorem top_off_Creply : True := by
  w_top off
  exact True.intro
noncomputable def replyV (name : Str) (p c : Int) : Str :=
  pkS [Str.ofString "229 ok (", Str.ofString "229 ) 7 ("] ((c.fdiv 128).fmod 2) ++ pkS [name, Str.ofString "|"] ((c.fdiv 20).fmod 2) ++ pkS [Str.ofString "", Str.ofString "1", Str.ofString "(", Str.ofString "!0"] ((c.fdiv 4).fmod 4) ++ pkS [name, Str.ofString "|"] ((c.fdiv 20).fmod 2) ++ pkS [Str.ofString "", Str.ofString "1", Str.ofString "(", Str.ofString "!0"] ((c.fdiv 16).fmod 4) ++ pkS [name, Str.ofString "|"] ((c.fdiv 20).fmod 2) ++ (pkS [Str.ofString "", Str.ofString "0"] ((c.fdiv 64).fmod 2) ++ Str.ofString (toString p)) ++ pkS [name, Str.ofString "|"] ((c.fdiv 20).fmod 2) ++ Str.ofString ") (z)"
theorem reply_cs (w : World) (name : Str) (p c : Int) (t1 t2 t3 : Tok) (hn : name.length = 1) (hp : 1 ≤ p) (hp' : p ≤ 5) (news : List (Addr × Obj)) : CS w (hd.heap_39 w.params) 138 3 [.str name t1, .int p t2, .int c t3] news (fun r n => (∃ t, r = .str (replyV name p c) t) ∧ n = news) := by
  have l1 : (pkS [name, Str.ofString "|"] ((c.fdiv 20).fmod 2)).length ≤ 1 := by
    refine pkS_all (P := fun s => s.length ≤ 1) (fm_lo (c.fdiv _) (m := 2) (by decide)) (fm_hi (c.fdiv _) (m := 2) (by decide)) ?_
    simp only [List.forall_mem_cons]; exact ⟨by omega, by decide +kernel, fun _ h => nomatch h⟩
  have l2 : (pkS [Str.ofString "229 ok (", Str.ofString "229 ) 7 ("] ((c.fdiv 128).fmod 2)).length ≤ 9 := by
    refine pkS_all (P := fun s => s.length ≤ 9) (fm_lo (c.fdiv _) (m := 2) (by decide)) (fm_hi (c.fdiv _) (m := 2) (by decide)) ?_
    decide +kernel
  have l3 : (pkS [Str.ofString "", Str.ofString "1", Str.ofString "(", Str.ofString "!0"] ((c.fdiv 4).fmod 4)).length ≤ 2 := by
    refine pkS_all (P := fun s => s.length ≤ 2) (fm_lo (c.fdiv _) (m := 4) (by decide)) (fm_hi (c.fdiv _) (m := 4) (by decide)) ?_
    decide +kernel
  have l4 : (pkS [Str.ofString "", Str.ofString "1", Str.ofString "(", Str.ofString "!0"] ((c.fdiv 16).fmod 4)).length ≤ 2 := by
    refine pkS_all (P := fun s => s.length ≤ 2) (fm_lo (c.fdiv _) (m := 4) (by decide)) (fm_hi (c.fdiv _) (m := 4) (by decide)) ?_
    decide +kernel
  have l5 : (pkS [Str.ofString "", Str.ofString "0"] ((c.fdiv 64).fmod 2)).length ≤ 1 := by
    refine pkS_all (P := fun s => s.length ≤ 1) (fm_lo (c.fdiv _) (m := 2) (by decide)) (fm_hi (c.fdiv _) (m := 2) (by decide)) ?_
    decide +kernel
  unfold CS
  k_fill
  intro mean mg mb dp un gd cn cs a ccd cl outer A₀ base h₀ L m s Q E B F X N T hk hd hu hret
  refine wpAny_call ?_
  k_dflt (refine' code_defT [(Str.ofString "name", .str name t1), (Str.ofString "number", .int p t2), (Str.ofString "cell", .int c t3)] ?k1 ?k2 ?k3 ?k4 ?k5 ?kA ?kF ?kK ?k6 ?k7 ?k8 ?k9 ?kB ?_ ?c2 ?c3 ?c4 ?c5; (case kA => exact rfl); (case kF => exact rfl); (case kK => assumption); (case k1 => k_asm); (case k2 => k_asm); (case k3 => k_asm); (case k4 => k_asm); (case k5 => k_asm); (case k6 => k_is); (case k7 => k_is); (case k8 => ktr_room); (case k9 => exact BindsTo.of_eq rfl); (case c5 => decide); (case kB => exact locs rfl); (case c2 => exact rfl); (case c3 => exact rfl); (case c4 => exact rfl); k_whole)
  intro g' L' h' tk' FG' F9 N' B' X' T'
  replace F9 := fr3 (a := Str.ofString "name") (b := Str.ofString "number") (c := Str.ofString "cell") F9
  (try dsimp only)
  (try k_fold)
  k_with_none
  k_with "k_mem" => first | exact (by with_reducible assumption) | exact (List.mem_cons_of_mem _ (by with_reducible assumption)) | exact (List.mem_cons_of_mem _ (List.mem_cons_of_mem _ (by with_reducible assumption))) | exact (List.mem_cons_of_mem _ (List.mem_cons_of_mem _ (List.mem_cons_of_mem _ (by with_reducible assumption)))) | exact (List.mem_cons_of_mem _ (List.mem_cons_of_mem _ (List.mem_cons_of_mem _ (List.mem_cons_of_mem _ (by with_reducible assumption)))))
  k_with "pj" => first | with_reducible assumption | exact pj0 (by with_reducible assumption) | exact pj1 (by with_reducible assumption) | exact pj2 (by with_reducible assumption) | exact pj3 (by with_reducible assumption) | exact pj4 (by with_reducible assumption) | exact pj5 (by with_reducible assumption) | exact pj6 (by with_reducible assumption) | exact pj7 (by with_reducible assumption) | exact pj8 (by with_reducible assumption) | exact pj9 (by with_reducible assumption) | exact pj10 (by with_reducible assumption) | exact pj11 (by with_reducible assumption) | exact pj12 (by with_reducible assumption) | exact pj13 (by with_reducible assumption) | exact pj14 (by with_reducible assumption) | exact pj15 (by with_reducible assumption) | exact pj16 (by with_reducible assumption) | exact pj17 (by with_reducible assumption) | exact pj18 (by with_reducible assumption) | exact pj19 (by with_reducible assumption) | exact pj20 (by with_reducible assumption) | exact pj21 (by with_reducible assumption) | exact pj22 (by with_reducible assumption) | exact pj23 (by with_reducible assumption) | exact pj24 (by with_reducible assumption)
  k_with "pj2" => first | exact ltR (by k_extra "lt") | exact ltL (k := 4) (by k_extra "lt") (Nat.le_of_ble_eq_true rfl) | exact ltLR (k := 4) (by k_extra "lt") (Nat.le_of_ble_eq_true rfl) | exact ltR (by k_extra "pj") | exact ltL (k := 4) (by k_extra "pj") (Nat.le_of_ble_eq_true rfl) | exact ltLR (k := 4) (by k_extra "pj") (Nat.le_of_ble_eq_true rfl)
  k_with "lt" => first | with_reducible assumption | exact ltOf (by with_reducible assumption) (by k_mem)
  k_with "k_ne" => (refine neN ?_; (try dsimp only); first | exact neK rfl | exact neK0 rfl | exact neK1 rfl | exact Nat.ne_of_lt (by k_extra "lt") | exact Nat.ne_of_gt (by k_extra "lt") | exact Nat.ne_of_lt (by k_extra "pj") | exact Nat.ne_of_gt (by k_extra "pj") | exact Nat.ne_of_lt (by k_extra "pj2") | exact Nat.ne_of_gt (by k_extra "pj2") | k_extra "pj" | k_extra "pq" | exact Ne.symm (by k_extra "pj") | omega)
  k_with "mb" => first | with_reducible exact incM | with_reducible assumption | (with_reducible refine incMT ?_; k_extra "mb") | (with_reducible refine incML ?_; k_extra "mb") | (with_reducible refine incMR ?_; k_extra "mb")
  k_with "sbl" => first | with_reducible exact incI | (with_reducible refine incT ?_; k_extra "sbl") | (with_reducible refine incL ?_; k_extra "sbl") | (with_reducible refine incR ?_; k_extra "sbl")
  k_with "sb" => first | with_reducible exact incI | with_reducible exact incN | (with_reducible refine' incC ?m9 ?r9; (case m9 => k_extra "mb"); (case r9 => k_extra "sb")) | (k_extra "sbl") | (with_reducible refine incA ?_ ?_ <;> k_extra "sb")
  k_with "mg" => first | with_reducible exact List.mem_cons_self | (with_reducible refine List.mem_cons_of_mem _ ?_; k_extra "mg")
  k_with "ne1" => first | exact h1 | exact neP h2 (by k_extra "mg") | exact neC h3 (by k_extra "mg") | fail "ne1"
  k_with "nc" => with_reducible first | exact h3 | exact ncN | (refine' ncC ?b9 ?q9; (case b9 => k_extra "ne1"); (case q9 => k_extra "nc")) | fail "nc"
  k_with "sm" => with_reducible first | rfl | (refine' sm1 ?a9 ?r9; (case a9 => k_extra "ne1"); (case r9 => k_extra "sm")) | (refine' sm2 ?h9 ?r9; (case h9 => k_extra "nc"); (case r9 => k_extra "sm")) | (refine sm3 h2 ?_; k_extra "sm") | fail "sm"
  k_with "rm" => first | exact ltA0 (by with_reducible assumption) | exact ltA1 (by with_reducible assumption) (Nat.le_of_ble_eq_true rfl) | exact ltA2 (by with_reducible assumption) (Nat.le_of_ble_eq_true rfl) | exact ltA3 (by with_reducible assumption) (Nat.le_of_ble_eq_true rfl)
  k_with "sz" => first | with_reducible assumption | with_reducible exact Nat.le_of_ble_eq_true (Eq.refl true)
  k_with "my subscriptTail" => first
    | (k_here; k_dflt (refine' pick_item (by k_asm) (by k_mem) (fm_lo _ (by decide)) (Int.lt_trans (fm_hi _ (by decide)) (by decide)) (pk2 (fm_lo _ (by decide)) (fm_hi _ (by decide))) ?_))
    | (k_here; k_dflt (refine' pick_item (by k_asm) (by k_mem) (fm_lo _ (by decide)) (Int.lt_trans (fm_hi _ (by decide)) (by decide)) (pk4 (fm_lo _ (by decide)) (fm_hi _ (by decide))) ?_))
  repeat' (first | (k_unfold; (try dsimp only)) | (k_end; wrow_close) | ((with_reducible show wpAny _ _ (execs (_ :: _) _) _ _ _); dsimp only; walk1) | walk1 | (dsimp only; walk1) | (leave1; walk_say "STEP leave1"; try dsimp only) | fail "no step")
  all_goals exact hret _ news _ _ (by k_asm) (by first | k_asm | (refine kst_newsOf (by k_asm) ?_; with_reducible refine Inc.use ?_; k_extra "sb") | (refine kst_newsOf (by k_asm) ?_; intro p hp; simp only [List.mem_append, List.mem_cons, List.not_mem_nil, or_false] at hp ⊢; simp only [hp, true_or, or_true])) ⟨str_ret rfl, rfl⟩
end
-- part Cshape
section
theorem top_off_Cshape : True := by
  w_top off
  exact True.intro
local macro_rules | `(tactic| k_lt $h) => `(tactic| (replace $h := allLt_of $h; dsimp only [AllLt] at $h:ident))
theorem ext_upd {l1 l2 : Addr} {o o' q : Obj} {T2 T : List (Addr × Obj)} {R : List (Addr × Obj)} (h1 : ∀ x ∈ T2, l1 < x.1) (h2 : ∀ x ∈ T, x.1 < l1) (h3 : ∀ x ∈ R, x.1 < l1) (h5 : l1 < l2) :
    Upd l1 o o' ((l2, q) :: (l1, o) :: (T2 ++ (T ++ R))) ((l2, q) :: (l1, o') :: (T2 ++ (T ++ R))) := by
  refine Upd.tail (Nat.ne_of_gt h5) (Upd.head fun x hx => ?_)
  rcases List.mem_append.mp hx with h | h
  · exact Nat.ne_of_gt (h1 x h)
  · rcases List.mem_append.mp h with h | h
    · exact Nat.ne_of_lt (h2 x h)
    · exact Nat.ne_of_lt (h3 x h)
noncomputable def textV (k : Int) : Str := pkS [Str.ofString "a*c^\"*d", Str.ofString "(a^\")*(c^d)", Str.ofString "a*(c^d)^\"*c", Str.ofString "(a^\")*c^\"*d", Str.ofString "a*c^a*d^\"*(c^d)", Str.ofString "a*d^a*(c^d)"] k
noncomputable def coinsV (k : Int) : List (Int × Int) := [[(0, 2), (1, 3)], [(0, 2), (0, 3), (1, 2), (1, 3)], [(0, 2), (0, 3), (1, 2)], [(0, 2), (1, 2), (1, 3)], [(0, 2), (0, 3), (1, 2), (1, 3)], [(0, 3), (0, 2), (0, 3)]].getD k.toNat []
theorem coins_at {k : Int} (hk : 0 ≤ k) (hk' : k < 6) {T1 T2 : List (Addr × Obj)} {a b c d e f : Value} (h0 : CoinsAt T1 a [(0, 2), (1, 3)]) (h1 : CoinsAt T1 b [(0, 2), (0, 3), (1, 2), (1, 3)]) (h2 : CoinsAt T1 c [(0, 2), (0, 3), (1, 2)])
    (h3 : CoinsAt T2 d [(0, 2), (1, 2), (1, 3)]) (h4 : CoinsAt T2 e [(0, 2), (0, 3), (1, 2), (1, 3)]) (h5 : CoinsAt T2 f [(0, 3), (0, 2), (0, 3)]) : CoinsAt (T2 ++ T1) (pkV [a, b, c, d, e, f] k) (coinsV k) := by
  have m1 : ∀ p ∈ T1, p ∈ T2 ++ T1 := fun p h => List.mem_append.mpr (.inr h)
  have m2 : ∀ p ∈ T2, p ∈ T2 ++ T1 := fun p h => List.mem_append.mpr (.inl h)
  have : k = 0 ∨ k = 1 ∨ k = 2 ∨ k = 3 ∨ k = 4 ∨ k = 5 := by omega
  rcases this with rfl | rfl | rfl | rfl | rfl | rfl
  · exact h0.mono m1
  · exact h1.mono m1
  · exact h2.mono m1
  · exact h3.mono m2
  · exact h4.mono m2
  · exact h5.mono m2
theorem news_tidy {h₀ h : Heap} {L : Addr} {x y z : Addr × Obj} {A B R : List (Addr × Obj)} (N : News h₀ L h (x :: y :: (A ++ (B ++ z :: R)))) : News h₀ L h (y :: z :: ((A ++ B) ++ R)) := by
  refine kst_newsOf N fun p hp => ?_
  simp only [List.mem_append, List.mem_cons] at hp ⊢
  rcases hp with h | h | (h | h) | h <;> simp [h]
theorem news_drop2 {h₀ h : Heap} {L : Addr} {x y z : Addr × Obj} {R : List (Addr × Obj)} (N : News h₀ L h (x :: y :: z :: R)) : News h₀ L h (x :: R) := by
  refine kst_newsOf N fun p hp => ?_
  simp only [List.mem_cons] at hp ⊢
  rcases hp with h | h <;> simp [h]
theorem shape_ends {q : Addr} {T1 T2 news : List (Addr × Obj)} {p1 : Addr × Obj} {R : List (Addr × Obj)} (h1 : ∀ p ∈ T1, ∀ x ∈ p1 :: news, x.1 < p.1) (h2 : ∀ p ∈ T2, ∀ x ∈ R, x.1 < p.1) (hR : ∀ x ∈ news, x ∈ R) (hq : AllLt q (T2 ++ T1 ++ news)) :
    (∀ p ∈ T2 ++ T1, ∀ x ∈ news, x.1 < p.1) ∧ (∀ p ∈ T2 ++ T1, p.1 < q) ∧ (∀ x ∈ news, x.1 < q) := by
  have hq := allLt_mem hq
  refine ⟨fun p hp x hx => ?_, fun p hp => hq p (List.mem_append.mpr (.inl hp)), fun x hx => hq x (List.mem_append.mpr (.inr hx))⟩
  rcases List.mem_append.mp hp with h | h
  · exact h2 p h x (hR x hx)
  · exact h1 p h x (List.mem_cons_of_mem _ hx)
theorem shape_cs (w : World) (k : Int) (t1 : Tok) (hk0 : 0 ≤ k) (hk6 : k < 6) (news : List (Addr × Obj)) : CS w (hd.heap_39 w.params) 131 3 [.int k t1] news (fun r n => ∃ q c t T nn, r = .ref q ∧ n = (q, tupOf [.str (textV k) t, c] nn) :: (T ++ news) ∧ CoinsAt T c (coinsV k) ∧ (∀ p ∈ T, ∀ x ∈ news, x.1 < p.1) ∧ (∀ p ∈ T, p.1 < q) ∧ (∀ x ∈ news, x.1 < q)) := by
  unfold CS
  k_fill
  intro mean mg mb dp un gd cn cs a ccd cl outer A₀ base h₀ L m s Q E B F X N T hk hd hu hret
  refine wpAny_call ?_
  k_dflt (refine' code_defT [(Str.ofString "kind", .int k t1)] ?k1 ?k2 ?k3 ?k4 ?k5 ?kA ?kF ?kK ?k6 ?k7 ?k8 ?k9 ?kB ?_ ?c2 ?c3 ?c4 ?c5; (case kA => exact rfl); (case kF => exact rfl); (case kK => assumption); (case k1 => k_asm); (case k2 => k_asm); (case k3 => k_asm); (case k4 => k_asm); (case k5 => k_asm); (case k6 => k_is); (case k7 => k_is); (case k8 => ktr_room); (case k9 => exact BindsTo.of_eq rfl); (case c5 => decide); (case kB => exact locs rfl); (case c2 => exact rfl); (case c3 => exact rfl); (case c4 => exact rfl); k_whole)
  intro g' L' h' tk' FG' F9 N' B' X' T'
  replace F9 := fr1 (a := Str.ofString "kind") F9
  (try dsimp only)
  (try k_fold)
  k_with_none
  k_with "k_mem" => first | exact (by with_reducible assumption) | exact (List.mem_cons_of_mem _ (by with_reducible assumption)) | exact (List.mem_cons_of_mem _ (List.mem_cons_of_mem _ (by with_reducible assumption))) | exact (List.mem_cons_of_mem _ (List.mem_cons_of_mem _ (List.mem_cons_of_mem _ (by with_reducible assumption)))) | exact (List.mem_cons_of_mem _ (List.mem_cons_of_mem _ (List.mem_cons_of_mem _ (List.mem_cons_of_mem _ (by with_reducible assumption)))))
  k_with "pj" => first | with_reducible assumption | exact pj0 (by with_reducible assumption) | exact pj1 (by with_reducible assumption) | exact pj2 (by with_reducible assumption) | exact pj3 (by with_reducible assumption) | exact pj4 (by with_reducible assumption) | exact pj5 (by with_reducible assumption) | exact pj6 (by with_reducible assumption) | exact pj7 (by with_reducible assumption) | exact pj8 (by with_reducible assumption) | exact pj9 (by with_reducible assumption) | exact pj10 (by with_reducible assumption) | exact pj11 (by with_reducible assumption) | exact pj12 (by with_reducible assumption) | exact pj13 (by with_reducible assumption) | exact pj14 (by with_reducible assumption) | exact pj15 (by with_reducible assumption) | exact pj16 (by with_reducible assumption) | exact pj17 (by with_reducible assumption) | exact pj18 (by with_reducible assumption) | exact pj19 (by with_reducible assumption) | exact pj20 (by with_reducible assumption) | exact pj21 (by with_reducible assumption) | exact pj22 (by with_reducible assumption) | exact pj23 (by with_reducible assumption) | exact pj24 (by with_reducible assumption)
  k_with "pj2" => first | exact ltR (by k_extra "lt") | exact ltL (k := 4) (by k_extra "lt") (Nat.le_of_ble_eq_true rfl) | exact ltLR (k := 4) (by k_extra "lt") (Nat.le_of_ble_eq_true rfl) | exact ltR (by k_extra "pj") | exact ltL (k := 4) (by k_extra "pj") (Nat.le_of_ble_eq_true rfl) | exact ltLR (k := 4) (by k_extra "pj") (Nat.le_of_ble_eq_true rfl)
  k_with "lt" => first | with_reducible assumption | exact ltOf (by with_reducible assumption) (by k_mem)
  k_with "k_ne" => (refine neN ?_; (try dsimp only); first | exact neK rfl | exact neK0 rfl | exact neK1 rfl | exact Nat.ne_of_lt (by k_extra "lt") | exact Nat.ne_of_gt (by k_extra "lt") | exact Nat.ne_of_lt (by k_extra "pj") | exact Nat.ne_of_gt (by k_extra "pj") | exact Nat.ne_of_lt (by k_extra "pj2") | exact Nat.ne_of_gt (by k_extra "pj2") | k_extra "pj" | k_extra "pq" | exact Ne.symm (by k_extra "pj") | omega)
  k_with "mb" => first | with_reducible exact incM | with_reducible assumption | (with_reducible refine incMT ?_; k_extra "mb") | (with_reducible refine incML ?_; k_extra "mb") | (with_reducible refine incMR ?_; k_extra "mb")
  k_with "sbl" => first | with_reducible exact incI | (with_reducible refine incT ?_; k_extra "sbl") | (with_reducible refine incL ?_; k_extra "sbl") | (with_reducible refine incR ?_; k_extra "sbl")
  k_with "sb" => first | with_reducible exact incI | with_reducible exact incN | (with_reducible refine' incC ?m9 ?r9; (case m9 => k_extra "mb"); (case r9 => k_extra "sb")) | (k_extra "sbl") | (with_reducible refine incA ?_ ?_ <;> k_extra "sb")
  k_with "mg" => first | with_reducible exact List.mem_cons_self | (with_reducible refine List.mem_cons_of_mem _ ?_; k_extra "mg")
  k_with "ne1" => first | exact h1 | exact neP h2 (by k_extra "mg") | exact neC h3 (by k_extra "mg") | fail "ne1"
  k_with "nc" => with_reducible first | exact h3 | exact ncN | (refine' ncC ?b9 ?q9; (case b9 => k_extra "ne1"); (case q9 => k_extra "nc")) | fail "nc"
  k_with "sm" => with_reducible first | rfl | (refine' sm1 ?a9 ?r9; (case a9 => k_extra "ne1"); (case r9 => k_extra "sm")) | (refine' sm2 ?h9 ?r9; (case h9 => k_extra "nc"); (case r9 => k_extra "sm")) | (refine sm3 h2 ?_; k_extra "sm") | fail "sm"
  k_with "rm" => first | exact ltA0 (by with_reducible assumption) | exact ltA1 (by with_reducible assumption) (Nat.le_of_ble_eq_true rfl) | exact ltA2 (by with_reducible assumption) (Nat.le_of_ble_eq_true rfl) | exact ltA3 (by with_reducible assumption) (Nat.le_of_ble_eq_true rfl)
  k_with "sz" => first | with_reducible assumption | with_reducible exact Nat.le_of_ble_eq_true (Eq.refl true)
  k_with "my callWith" => (k_here; (with_reducible show wpAny _ _ (callWith _ _ _ (backTo _ (starEach [PySem.Expr.List (PySem.Expr.List _ _ :: _) _] _)) []) _ _ _); dsimp only; with_reducible (refine callWith_method1 ?_ star_List plain_nil))
  k_with "my eval List" =>
    k_here
    k_dflt (refine' eval_display ?he ?F ?N ?hn ?_; (case he => rfl); (case F => k_asm); (case N => k_asm); (case hn => decide))
    intro l7 vs7 T7 h7 tk7 F7 N7 hlt7 hTl7 hnl7 hL7
    dsimp only at hL7
    obtain ⟨u7, v7, w7, rfl, hu7, hv7, hw7⟩ := hL7.three
    clear hL7
    (try dsimp only)
    (try k_fold)
  k_with "my subscriptTail" => first
    | (k_here; k_dflt (refine' pick_item (by k_asm) (by k_mem) (by assumption) (by omega) (pk6 (by assumption) (by assumption)) ?_))
    | (k_here; k_dflt (refine' pick_item (vs := [_, _, _, _, _, _]) (by k_asm) (by exact List.mem_cons_self) (by assumption) (by omega) (pk_val (by assumption) (by assumption)) ?_))
  k_with "my call builtin:list.extend" => 
    k_here
    replace N7 := news_swap N7
    k_dflt (refine' kl_extend ?F N7 ?b ?e ?ne (ext_upd (fun x hx => hlt7 x hx _ List.mem_cons_self) (by assumption) (by assumption) (hnl7 _ List.mem_cons_self)) ?d ?z ?y ?_; (case F => k_asm); (case b => exact List.mem_cons_self); (case e => rfl); (case ne => kl_some); (case d => kl_no); (case z => kl_room); (case y => kl_room))
    clear N7
    intro h8 F8 N8
    replace N8 := news_tidy N8
    (try dsimp only)
    (try k_fold)
  repeat' (first | (k_unfold; (try dsimp only)) | (k_end; wrow_close) | ((with_reducible show wpAny _ _ (execs (_ :: _) _) _ _ _); dsimp only; walk1) | walk1 | (dsimp only; walk1) | (leave1; walk_say "STEP leave1"; try dsimp only) | fail "no step")
  all_goals
    rename _ ∧ _ ∧ AllLt _ _ => hL9
    rename News h₀ L _ _ => N9
    replace N9 := news_drop2 N9
    refine hret _ _ _ _ (by k_asm) N9 ⟨_, _, _, _, _, rfl, rfl, ?_, ?_⟩
    · exact coins_at hk0 hk6 (by assumption) (by assumption) (by assumption) hu7 hv7 hw7
    · exact shape_ends (by assumption) hlt7 (fun x hx => by simp [hx]) hL9.2.2
end
-- part Cworked
section
theorem top_off_Cworked : True := by
  w_top off
  exact True.intro
theorem T4_fin : ∀ a b : Fin 16, 0 ≤ T4 (a.val : Int) (b.val : Int) ∧ T4 (a.val : Int) (b.val : Int) < 16 := by decide +kernel
theorem T4_bd {x y : Int} (h0 : 0 ≤ x) (h1 : x < 16) (k0 : 0 ≤ y) (k1 : y < 16) : 0 ≤ T4 x y ∧ T4 x y < 16 :=
  to_fin (n := 16) (P := fun x => 0 ≤ T4 x y ∧ T4 x y < 16) (fun a => to_fin (n := 16) (P := fun y => 0 ≤ T4 (a.val : Int) y ∧ T4 (a.val : Int) y < 16) (fun b => T4_fin a b) k0 k1) h0 h1
noncomputable def rankF (s : Int) : Option Int := if s = 8 then some 0 else if s = 16 then some 2 else if s = 32 then some 1 else none
noncomputable def opF (s t u : Int) : Int := if s = 16 then T4 t u else Builtin.bitXor t u
noncomputable def evF (W : Int → Int) : Nat → Bool → Int → Int → List Int → Option (Int × List Int)
  | 0, _, _, _, _ => none
  | n + 1, true, r, _, st => match st with
    | [] => none
    | s :: st1 => if 256 ≤ s then (if s < 260 then evF W n false r (W (s - 256)) st1 else none) else if s = 7 then (match evF W n true 0 0 st1 with
      | some (t, _ :: st2) => evF W n false r t st2
      | _ => none) else none
  | n + 1, false, r, t, st => match st with
    | [] => none
    | s :: st1 => if s = 0 then some (t, st) else match rankF s with
      | none => none
      | some k => if r < k then (match evF W n true k 0 st1 with
        | some (u, st2) => evF W n false r (opF s t u) st2
        | none => none) else some (t, st)
theorem opF_bd {s t u : Int} (h0 : 0 ≤ t) (h1 : t < 16) (k0 : 0 ≤ u) (k1 : u < 16) : 0 ≤ opF s t u ∧ opF s t u < 16 := by
  unfold opF
  split
  · exact T4_bd h0 h1 k0 k1
  · exact bx16 h0 h1 k0 k1
theorem evF_head {W : Int → Int} {n : Nat} {r x v : Int} {st st' : List Int} (h : evF W (n + 1) true r x st = some (v, st')) :
    (∃ s st1, st = s :: st1 ∧ 256 ≤ s ∧ s < 260 ∧ evF W n false r (W (s - 256)) st1 = some (v, st')) ∨ (∃ st1 t p st2, st = 7 :: st1 ∧ evF W n true 0 0 st1 = some (t, p :: st2) ∧ evF W n false r t st2 = some (v, st')) := by
  simp only [evF] at h
  cases st with
  | nil => simp at h
  | cons s st1 =>
    simp only at h
    by_cases h1 : 256 ≤ s
    · simp only [h1, if_true] at h
      by_cases h2 : s < 260
      · simp only [h2, if_true] at h
        exact .inl ⟨s, st1, rfl, h1, h2, h⟩
      · simp [h2] at h
    · simp only [h1, if_false] at h
      by_cases h2 : s = 7
      · subst h2
        simp only [if_true] at h
        split at h
        · rename_i t p st2 e
          exact .inr ⟨st1, t, p, st2, rfl, e, h⟩
        · cases h
      · simp [h2] at h
theorem evF_loop {W : Int → Int} {n : Nat} {r t v : Int} {st st' : List Int} (h : evF W n false r t st = some (v, st')) :
    ∃ m s st1, n = m + 1 ∧ st = s :: st1 ∧ ((s = 0 ∧ v = t ∧ st' = st) ∨ (∃ k, rankF s = some k ∧ ¬ r < k ∧ v = t ∧ st' = st) ∨
      (∃ k u st2, rankF s = some k ∧ r < k ∧ evF W m true k 0 st1 = some (u, st2) ∧ evF W m false r (opF s t u) st2 = some (v, st'))) := by
  cases n with
  | zero => simp [evF] at h
  | succ m =>
    simp only [evF] at h
    cases st with
    | nil => simp at h
    | cons s st1 =>
      refine ⟨m, s, st1, rfl, rfl, ?_⟩
      simp only at h
      by_cases h1 : s = 0
      · simp only [h1, if_true, Option.some.injEq, Prod.mk.injEq] at h
        exact .inl ⟨h1, h.1.symm, by rw [h1]; exact h.2.symm⟩
      · simp only [h1, if_false] at h
        cases hr : rankF s with
        | none => simp [hr] at h
        | some k =>
          simp only [hr] at h
          by_cases h2 : r < k
          · simp only [h2, if_true] at h
            split at h
            · rename_i u st2 e
              exact .inr (.inr ⟨k, u, st2, rfl, h2, e, h⟩)
            · cases h
          · simp only [h2, if_false, Option.some.injEq, Prod.mk.injEq] at h
            exact .inr (.inl ⟨k, rfl, h2, h.1.symm, h.2.symm⟩)
theorem rankF_cases {s k : Int} (h : rankF s = some k) : (s = 8 ∧ k = 0) ∨ (s = 16 ∧ k = 2) ∨ (s = 32 ∧ k = 1) := by
  unfold rankF at h
  split at h
  · cases h; exact .inl ⟨by assumption, rfl⟩
  · split at h
    · cases h; exact .inr (.inl ⟨by assumption, rfl⟩)
    · split at h
      · cases h; exact .inr (.inr ⟨by assumption, rfl⟩)
      · cases h
theorem evF_bd {W : Int → Int} (hW : ∀ i, 0 ≤ W i ∧ W i < 16) : ∀ (n : Nat) (md : Bool) (r t v : Int) (st st' : List Int), evF W n md r t st = some (v, st') → (md = false → 0 ≤ t ∧ t < 16) → 0 ≤ v ∧ v < 16
  | 0, _, _, _, _, _, _, h, _ => by simp [evF] at h
  | n + 1, true, r, t, v, st, st', h, _ => by
    rcases evF_head h with ⟨s, st1, _, _, _, h1⟩ | ⟨st1, t', p, st2, _, h1, h2⟩
    · exact evF_bd hW n false _ _ _ _ _ h1 fun _ => hW _
    · exact evF_bd hW n false _ _ _ _ _ h2 fun _ => evF_bd hW n true _ _ _ _ _ h1 (by simp)
  | n + 1, false, r, t, v, st, st', h, ht => by
    obtain ⟨m, s, st1, e, _, h | h | ⟨k, u, st2, _, _, h1, h2⟩⟩ := evF_loop h
    · rw [h.2.1]; exact ht rfl
    · obtain ⟨_, _, _, h, _⟩ := h; rw [h]; exact ht rfl
    · obtain rfl : n = m := by omega
      have ht := ht rfl
      have hu := evF_bd hW n true _ _ _ _ _ h1 (by simp)
      exact evF_bd hW n false _ _ _ _ _ h2 fun _ => opF_bd ht.1 ht.2 hu.1 hu.2
theorem ints_snoc {us : List Value} {st : List Int} {s : Int} (h : IntsAre us (s :: st).reverse) : ∃ us0 t, us = us0 ++ [.int s t] ∧ IntsAre us0 st.reverse := by
  have h' := IntsAre.reverse h
  rw [List.reverse_reverse] at h'
  obtain ⟨t, vs, e, hv⟩ := h'.cons_inv
  refine ⟨vs.reverse, t, ?_, IntsAre.reverse hv⟩
  have := congrArg List.reverse e
  rw [List.reverse_reverse, List.reverse_cons] at this
  exact this
theorem evF_six {W : Int → Int} (hW : ∀ i, 0 ≤ W i ∧ W i < 16) {n : Nat} {r t v : Int} {st st' : List Int} (hr0 : 0 ≤ r) (hr2 : r ≤ 2) (h : evF W n false r t st = some (v, st')) :
    ∃ m s st1, n = m + 1 ∧ st = s :: st1 ∧ ((s = 0 ∧ v = t ∧ st' = st) ∨ (s = 8 ∧ v = t ∧ st' = st) ∨ (s = 16 ∧ ¬ r < 2 ∧ v = t ∧ st' = st) ∨ (s = 32 ∧ ¬ r < 1 ∧ v = t ∧ st' = st) ∨
      (∃ u st2, s = 16 ∧ r < 2 ∧ evF W m true 2 0 st1 = some (u, st2) ∧ evF W m false r (T4 t u) st2 = some (v, st') ∧ 0 ≤ u ∧ u < 16) ∨ (∃ u st2, s = 32 ∧ r < 1 ∧ evF W m true 1 0 st1 = some (u, st2) ∧ evF W m false r (Builtin.bitXor t u) st2 = some (v, st') ∧ 0 ≤ u ∧ u < 16)) := by
  obtain ⟨m, s, st1, e1, e2, h | ⟨k, hk, hr, hv, hs⟩ | ⟨k, u, st2, hk, hr, h1, h2⟩⟩ := evF_loop h
  · exact ⟨m, s, st1, e1, e2, .inl h⟩
  · rcases rankF_cases hk with ⟨rfl, rfl⟩ | ⟨rfl, rfl⟩ | ⟨rfl, rfl⟩
    · exact ⟨m, _, st1, e1, e2, .inr (.inl ⟨rfl, hv, hs⟩)⟩
    · exact ⟨m, _, st1, e1, e2, .inr (.inr (.inl ⟨rfl, hr, hv, hs⟩))⟩
    · exact ⟨m, _, st1, e1, e2, .inr (.inr (.inr (.inl ⟨rfl, hr, hv, hs⟩)))⟩
  · have hu := evF_bd hW _ _ _ _ _ _ _ h1 (by simp)
    rcases rankF_cases hk with ⟨rfl, rfl⟩ | ⟨rfl, rfl⟩ | ⟨rfl, rfl⟩
    · exact absurd hr (by omega)
    · exact ⟨m, _, st1, e1, e2, .inr (.inr (.inr (.inr (.inl ⟨u, st2, rfl, hr, h1, h2, hu⟩))))⟩
    · exact ⟨m, _, st1, e1, e2, .inr (.inr (.inr (.inr (.inr ⟨u, st2, rfl, hr, h1, h2, hu⟩))))⟩
end
-- part Cworkw
section
theorem top_off_Cworkw : True := by
  w_top off
  exact True.intro
section
variable {prog : Program} {w : World} {A : Around} {E : Value → Shared → Prop} {s : Shared}
theorem pick_last {value slice : PySem.Expr} {l : Addr} {us : List Value} {v : Value} {n : Nat} {u : Tok} {Q : Value → Shared → Prop} {h₀ : Heap} {L : Addr} {news : List (Addr × Obj)}
    (N : News h₀ L s.heap news) (hm : (l, listOf (us ++ [v]).toArray n) ∈ news) (h : Q v s)
    (hs : subscripted slice false (.ref l) (.int (-1) u) = operate [.ref l, .int (-1) u] (getItem (.ref l) (.int (-1) u)) := by with_unfolding_all rfl) :
    wpAny (model prog w) A (subscriptTail value slice (.ref l) (.int (-1) u)) Q E s := by
  refine tail_any (News.isList N hm).typeIs slot_list_getitem.lookup (wpAny_getItem_list_neg (News.isList N hm) (by decide) ?_ (by decide) ?_ h) hs
  · simp; omega
  · have : (-1 + (((us ++ [v]).toArray.size : Nat) : Int)).toNat = us.length := by simp; omega
    rw [this]
    simp
theorem pop_snoc {l : Addr} {us0 : List Value} {v : Value} {n : Nat} {Q : Value → Shared → Prop} {h₀ : Heap} {L : Addr} {m : Str → Option Value} {x : Addr × Obj} {news : List (Addr × Obj)} (F : Fr h₀ L s.heap m)
    (N : News h₀ L s.heap (x :: (l, listOf (us0 ++ [v]).toArray n) :: news)) (hx : x.1 ≠ l) (hall : ∀ p ∈ news, p.1 ≠ l) (hlen : us0.length ≤ 100)
    (h : ∀ h', Fr h₀ L h' m → News h₀ L h' (x :: (l, listOf us0.toArray (n + 1)) :: news) → Q v { s with heap := h' }) : wpAny (model prog w) A (call (.builtin "list.pop") [.ref l]) Q E s :=
  kl_pop F N (kpa_last v us0) (Upd.tail hx (Upd.head hall)) (by show (us0 ++ [v]).length ≤ _; simp only [List.length_append, List.length_cons, List.length_nil, PySem.sizeLine_eq]; omega) h
end
noncomputable def WkSpec (w : World) (W : Int → Int) (l wl : Addr) (wv : List Value) (kw : Nat) (n : Nat) : Prop :=
    ∀ (r : Int) (st st' : List Int) (v : Int) (us : List Value) (cap : Nat) (tr : Tok) (news : List (Addr × Obj)), evF W n true r 0 st = some (v, st') → 0 ≤ r → r ≤ 2 → IntsAre us st.reverse → us.length ≤ 100 → (wl, listOf wv.toArray kw) ∈ news → (∀ p ∈ news, p.1 ≠ l) →
      CS w (hd.heap_39 w.params) 173 (n + 4) [.ref l, .ref wl, .int r tr] ((l, listOf us.toArray cap) :: news) (fun q nn => ∃ t us' cap', q = .int v t ∧ nn = (l, listOf us'.toArray cap') :: news ∧ IntsAre us' st'.reverse ∧ us'.length ≤ 100)
theorem pop_head {prog : Program} {w : World} {A : Around} {E : Value → Shared → Prop} {s : Shared} {l : Addr} {us0 : List Value} {v : Value} {n : Nat} {Q : Value → Shared → Prop} {h₀ : Heap} {L : Addr} {m : Str → Option Value} {R : List (Addr × Obj)} (F : Fr h₀ L s.heap m)
    (N : News h₀ L s.heap ((l, listOf (us0 ++ [v]).toArray n) :: R)) (hall : ∀ p ∈ R, p.1 ≠ l) (hlen : us0.length ≤ 100)
    (h : ∀ h', Fr h₀ L h' m → News h₀ L h' ((l, listOf us0.toArray (n + 1)) :: R) → Q v { s with heap := h' }) : wpAny (model prog w) A (call (.builtin "list.pop") [.ref l]) Q E s :=
  kl_pop F N (kpa_last v us0) (Upd.head hall) (by show (us0 ++ [v]).length ≤ _; simp only [List.length_append, List.length_cons, List.length_nil, PySem.sizeLine_eq]; omega) h
structure WkC where
  n : Nat
  t : Int
  tk : Tok
  us : List Value
  cap : Nat
  st : List Int
theorem wk_loop (w : World) (W : Int → Int) (hW : ∀ i : Int, 0 ≤ W i ∧ W i < 16) (l wl : Addr) (wv : List Value) (kw : Nat) (N0 : Nat) (IH : ∀ n, n ≤ N0 → WkSpec w W l wl wv kw n)
    (n : Nat) (r : Int) (st st' : List Int) (v t0 x0 s0 : Int) (us : List Value) (ta tb tr ts : Tok) (cap : Nat) (d : Addr) (od : Obj) (kvs : List (Int × Value)) (news : List (Addr × Obj)) (hn : n ≤ N0) (h1 : evF W n false r t0 st = some (v, st')) (ht0 : 0 ≤ t0 ∧ t0 < 16) (hr0 : 0 ≤ r) (hr2 : r ≤ 2) (hI : IntsAre us st.reverse) (hlen : us.length ≤ 100) (hwm : (wl, listOf wv.toArray kw) ∈ news) (hall : ∀ p ∈ news, p.1 ≠ l) (hdl : d ≠ l)
    (hlo : (d == sysModules) = false) (hdi : od.IsDictOf (intKind PySem.Challenge.rw_yf0019_01.row.prog w) kvs) (hfl : PyProof.V.FlatPairs PyData.int kvs [(PyData.int 8, PyData.int 0), (PyData.int 16, PyData.int 2), (PyData.int 32, PyData.int 1)]) :
    XS w (hd.heap_39 w.params) 173 (N0 + 4) 4 (fun y => if y = Str.ofString "told" then some (.int t0 ta) else if y = Str.ofString "told" then some (.int x0 tb) else if y = Str.ofString "symbol" then some (.int s0 ts) else if y = Str.ofString "ranks" then some (.ref d) else if y = Str.ofString "rank" then some (.int r tr) else if y = Str.ofString "worths" then some (.ref wl) else if y = Str.ofString "symbols" then some (.ref l) else none)
      ((l, listOf us.toArray cap) :: (d, od) :: news) (fun q nn => ∃ t us' cap', q = .int v t ∧ nn = (l, listOf us'.toArray cap') :: (d, od) :: news ∧ IntsAre us' st'.reverse ∧ us'.length ≤ 100) := by
  unfold XS
  k_fill
  refine' fnAt_of ?k6 ?_
  case k6 => k_is
  intro mean mg mb dp un gd cn cs a ccd cl outer base g' L L' s Q B' F9 X' N' T' hk hd hu hret
  dsimp only [List.drop]
  (try k_fold)
  k_with_none
  k_with "k_mem" => first | exact (by with_reducible assumption) | exact (List.mem_cons_of_mem _ (by with_reducible assumption)) | exact (List.mem_cons_of_mem _ (List.mem_cons_of_mem _ (by with_reducible assumption))) | exact (List.mem_cons_of_mem _ (List.mem_cons_of_mem _ (List.mem_cons_of_mem _ (by with_reducible assumption)))) | exact (List.mem_cons_of_mem _ (List.mem_cons_of_mem _ (List.mem_cons_of_mem _ (List.mem_cons_of_mem _ (by with_reducible assumption)))))
  k_with "pj" => first | with_reducible assumption | exact pj0 (by with_reducible assumption) | exact pj1 (by with_reducible assumption) | exact pj2 (by with_reducible assumption) | exact pj3 (by with_reducible assumption) | exact pj4 (by with_reducible assumption) | exact pj5 (by with_reducible assumption) | exact pj6 (by with_reducible assumption) | exact pj7 (by with_reducible assumption) | exact pj8 (by with_reducible assumption) | exact pj9 (by with_reducible assumption) | exact pj10 (by with_reducible assumption) | exact pj11 (by with_reducible assumption) | exact pj12 (by with_reducible assumption) | exact pj13 (by with_reducible assumption) | exact pj14 (by with_reducible assumption) | exact pj15 (by with_reducible assumption) | exact pj16 (by with_reducible assumption) | exact pj17 (by with_reducible assumption) | exact pj18 (by with_reducible assumption) | exact pj19 (by with_reducible assumption) | exact pj20 (by with_reducible assumption) | exact pj21 (by with_reducible assumption) | exact pj22 (by with_reducible assumption) | exact pj23 (by with_reducible assumption) | exact pj24 (by with_reducible assumption)
  k_with "pj2" => first | exact ltR (by k_extra "lt") | exact ltL (k := 4) (by k_extra "lt") (Nat.le_of_ble_eq_true rfl) | exact ltLR (k := 4) (by k_extra "lt") (Nat.le_of_ble_eq_true rfl) | exact ltR (by k_extra "pj") | exact ltL (k := 4) (by k_extra "pj") (Nat.le_of_ble_eq_true rfl) | exact ltLR (k := 4) (by k_extra "pj") (Nat.le_of_ble_eq_true rfl)
  k_with "lt" => first | with_reducible assumption | exact ltOf (by with_reducible assumption) (by k_mem)
  k_with "k_ne" => (refine neN ?_; (try dsimp only); first | exact neK rfl | exact neK0 rfl | exact neK1 rfl | exact Nat.ne_of_lt (by k_extra "lt") | exact Nat.ne_of_gt (by k_extra "lt") | exact Nat.ne_of_lt (by k_extra "pj") | exact Nat.ne_of_gt (by k_extra "pj") | exact Nat.ne_of_lt (by k_extra "pj2") | exact Nat.ne_of_gt (by k_extra "pj2") | k_extra "pj" | k_extra "pq" | exact Ne.symm (by k_extra "pj") | omega)
  k_with "mb" => first | with_reducible exact incM | with_reducible assumption | (with_reducible refine incMT ?_; k_extra "mb") | (with_reducible refine incML ?_; k_extra "mb") | (with_reducible refine incMR ?_; k_extra "mb")
  k_with "sbl" => first | with_reducible exact incI | (with_reducible refine incT ?_; k_extra "sbl") | (with_reducible refine incL ?_; k_extra "sbl") | (with_reducible refine incR ?_; k_extra "sbl")
  k_with "sb" => first | with_reducible exact incI | with_reducible exact incN | (with_reducible refine' incC ?m9 ?r9; (case m9 => k_extra "mb"); (case r9 => k_extra "sb")) | (k_extra "sbl") | (with_reducible refine incA ?_ ?_ <;> k_extra "sb")
  k_with "mg" => first | with_reducible exact List.mem_cons_self | (with_reducible refine List.mem_cons_of_mem _ ?_; k_extra "mg")
  k_with "ne1" => first | exact h1 | exact neP h2 (by k_extra "mg") | exact neC h3 (by k_extra "mg") | fail "ne1"
  k_with "nc" => with_reducible first | exact h3 | exact ncN | (refine' ncC ?b9 ?q9; (case b9 => k_extra "ne1"); (case q9 => k_extra "nc")) | fail "nc"
  k_with "sm" => with_reducible first | rfl | (refine' sm1 ?a9 ?r9; (case a9 => k_extra "ne1"); (case r9 => k_extra "sm")) | (refine' sm2 ?h9 ?r9; (case h9 => k_extra "nc"); (case r9 => k_extra "sm")) | (refine sm3 h2 ?_; k_extra "sm") | fail "sm"
  k_with "rm" => first | exact ltA0 (by with_reducible assumption) | exact ltA1 (by with_reducible assumption) (Nat.le_of_ble_eq_true rfl) | exact ltA2 (by with_reducible assumption) (Nat.le_of_ble_eq_true rfl) | exact ltA3 (by with_reducible assumption) (Nat.le_of_ble_eq_true rfl)
  k_with "sz" => first | with_reducible assumption | with_reducible exact Nat.le_of_ble_eq_true (Eq.refl true)
  have hall2 : ∀ p ∈ (d, od) :: news, p.1 ≠ l := List.forall_mem_cons.mpr ⟨hdl, hall⟩
  k_with "my exec While BoolOp cons nil" => 
    k_here
    k_dflt (refine' ksw_while (σ := WkC) (fun c => (l, listOf c.us.toArray c.cap) :: (d, od) :: news) (fun c => [(Str.ofString "told", Value.int c.t c.tk)]) (fun _ => True) [Str.ofString "symbol", Str.ofString "right"] (fun c => evF W c.n false r c.t c.st = some (v, st') ∧ 0 ≤ c.t ∧ c.t < 16 ∧ IntsAre c.us c.st.reverse ∧ c.us.length ≤ 100 ∧ c.n ≤ N0) (fun c => c.n) ⟨n, t0, ta, us, cap, st⟩ ?F ?N trivial ?k ?p ?_; (case F => k_asm); (case N => k_asm); (case k => kst_all); (case p => exact ⟨h1, ht0.1, ht0.2, hI, hlen, hn⟩))
    clear F9 N'
    intro c u7 h7 tk7 _ hP F7 N7
    obtain ⟨n1, t1, tk1, us1, cap1, sx⟩ := c
    dsimp only [kstB] at F7 N7 hP
    obtain ⟨hP1, hP2, hP3, hP4, hP5, hP6⟩ := hP
    obtain ⟨m1, s1, st2, rfl, rfl, hc⟩ := evF_six hW hr0 hr2 hP1
    obtain ⟨us2, ts2, rfl, hI2⟩ := ints_snoc hP4
    rw [List.length_append] at hP5
    simp only [List.length_cons, List.length_nil] at hP5
    clear hP4
    rcases hc with ⟨rfl, rfl, rfl⟩ | ⟨rfl, rfl, rfl⟩ | ⟨rfl, hrk, rfl, rfl⟩ | ⟨rfl, hrk, rfl, rfl⟩ | ⟨u1, st3, rfl, hrk, he1, he2, hu1, hu2⟩ | ⟨u1, st3, rfl, hrk, he1, he2, hu1, hu2⟩
    all_goals ((try dsimp only); (try k_fold))
  k_with "my call builtin:list.pop" => (k_here; k_dflt (refine' pop_head ?F ?N hall2 ?z ?_; (case F => k_asm); (case N => k_asm); (case z => omega)); intro h9 F9 N9; (try dsimp only); (try k_fold))
  k_with "my subscriptTail" => first
    | (k_here; k_dflt (refine' pick_last ?N ?M ?_; (case N => k_asm); (case M => exact List.mem_cons_self)))
    | (k_here; (k_dflt (refine' item_intTab (TabAt.ofNews ?N ?M hlo hdi hfl) (by rfl) ?_; (case N => k_asm); (case M => exact List.mem_cons_of_mem _ List.mem_cons_self))); intro v9 hv9; obtain ⟨tv9, rfl⟩ := PyProof.V.Flat.int_inv hv9; (try dsimp only); (try k_fold))
  k_with "my subscriptTail Name UnaryOp ref int" => (k_here; k_dflt (refine' pick_last ?N ?M ?_; (case N => k_asm); (case M => exact List.mem_cons_self)))
  k_with "my subscriptTail Name Subscript ref int" => (k_here; (k_dflt (refine' item_intTab (TabAt.ofNews ?N ?M hlo hdi hfl) (by rfl) ?_; (case N => k_asm); (case M => exact List.mem_cons_of_mem _ List.mem_cons_self))); intro v9 hv9; obtain ⟨tv9, rfl⟩ := PyProof.V.Flat.int_inv hv9; (try dsimp only); (try k_fold))
  k_with "my subscriptTail Name Name ref int" => (k_here; (k_dflt (refine' item_intTab (TabAt.ofNews ?N ?M hlo hdi hfl) (by rfl) ?_; (case N => k_asm); (case M => exact List.mem_cons_of_mem _ List.mem_cons_self))); intro v9 hv9; obtain ⟨tv9, rfl⟩ := PyProof.V.Flat.int_inv hv9; (try dsimp only); (try k_fold))
  k_with "my call ref" => first
    | first | (k_here; k_dflt (refine' CS.use (eof_cs w _ _ _) ?B ?F ?X ?N ?T ?K ?D ?U ?_; (case B => k_asm); (case F => k_asm); (case X => k_asm); (case N => k_asm); (case T => k_asm); (case K => first | exact rfl | assumption); (case D => first | k_extra "rm" | omega | (show dp + _ + _ < recursionLimit; omega) | (show dp + _ < recursionLimit; omega) | (show _ + _ < recursionLimit; decide)); (case U => first | k_extra "rm" | omega | (show un + _ + 8 * _ < cLine; omega) | (show un + 8 * _ < cLine; omega) | ktr_units); k_whole; intro r9 n9 h9 tk9 F9 N9 p9; obtain ⟨rfl, rfl⟩ := p9; skip; (try dsimp only); (try k_fold)))
    | first | (k_here; k_dflt (refine' CS.use (IH m1 (by omega) _ _ _ _ _ _ _ _ he1 (by decide) (by decide) hI2 (by omega) (List.mem_cons_of_mem _ hwm) hall2) ?B ?F ?X ?N ?T ?K ?D ?U ?_; (case B => k_asm); (case F => k_asm); (case X => k_asm); (case N => k_asm); (case T => k_asm); (case K => first | exact rfl | assumption); (case D => first | k_extra "rm" | omega | (show dp + _ + _ < recursionLimit; omega) | (show dp + _ < recursionLimit; omega) | (show _ + _ < recursionLimit; decide)); (case U => first | k_extra "rm" | omega | (show un + _ + 8 * _ < cLine; omega) | (show un + 8 * _ < cLine; omega) | ktr_units); k_whole; intro r9 n9 h9 tk9 F9 N9 p9; obtain ⟨t9, us9, cap9, rfl, rfl, hI9, hl9⟩ := p9; skip; (try dsimp only); (try k_fold)))
    | first | (k_here; k_dflt (refine' CS.use (times4_cs w _ _ _ _ _ hP2 hP3 hu1 hu2 _) ?B ?F ?X ?N ?T ?K ?D ?U ?_; (case B => k_asm); (case F => k_asm); (case X => k_asm); (case N => k_asm); (case T => k_asm); (case K => first | exact rfl | assumption); (case D => first | k_extra "rm" | omega | (show dp + _ + _ < recursionLimit; omega) | (show dp + _ < recursionLimit; omega) | (show _ + _ < recursionLimit; decide)); (case U => first | k_extra "rm" | omega | (show un + _ + 8 * _ < cLine; omega) | (show un + 8 * _ < cLine; omega) | ktr_units); k_whole; intro r9 n9 h9 tk9 F9 N9 p9; obtain ⟨⟨t9, rfl⟩, rfl⟩ := p9; skip; (try dsimp only); (try k_fold)))
    | first | (k_here; k_dflt (refine' CS.use (ixor_cs w _ _ _ _ _) ?B ?F ?X ?N ?T ?K ?D ?U ?_; (case B => k_asm); (case F => k_asm); (case X => k_asm); (case N => k_asm); (case T => k_asm); (case K => first | exact rfl | assumption); (case D => first | k_extra "rm" | omega | (show dp + _ + _ < recursionLimit; omega) | (show dp + _ < recursionLimit; omega) | (show _ + _ < recursionLimit; decide)); (case U => first | k_extra "rm" | omega | (show un + _ + 8 * _ < cLine; omega) | (show un + 8 * _ < cLine; omega) | ktr_units); k_whole; intro r9 n9 h9 tk9 F9 N9 p9; obtain ⟨⟨t9, rfl⟩, rfl⟩ := p9; skip; (try dsimp only); (try k_fold)))
    | fail
  k_with "my KswEnd" => first
    | (rename News _ _ _ _ => N8; (try simp only [List.push_toArray] at N8); refine' ksw_end (σ := WkC) ⟨m1, T4 t1 u1, _, us9, cap9, st3⟩ (by k_asm) N8 ?hn ?hf ?hk ?hr ?hp ?hm; (case hk => kst_all); (case hn => (try dsimp only); first | (intro p hp; exact hp) | (first | (with_reducible refine Inc.use ?_; k_extra "sb") | (intro p hp; simp only [List.mem_append, List.mem_cons, List.not_mem_nil, or_false] at hp ⊢; first | (simp only [hp, true_or, or_true]; done) | ((repeat' (refine Or.elim hp ?_ ?_ <;> clear hp <;> intro hp)) <;> simp only [hp, true_or, or_true])))); (case hf => trivial); (case hr => first | (intro z9 h2 h3; k_extra "sm"; done) | ksw_same); (case hp => (try dsimp only); exact ⟨he2, (T4_bd hP2 hP3 hu1 hu2).1, (T4_bd hP2 hP3 hu1 hu2).2, hI9, hl9, by omega⟩); (case hm => (try dsimp only); omega))
    | (rename News _ _ _ _ => N8; (try simp only [List.push_toArray] at N8); refine' ksw_end (σ := WkC) ⟨m1, Builtin.bitXor t1 u1, _, us9, cap9, st3⟩ (by k_asm) N8 ?hn ?hf ?hk ?hr ?hp ?hm; (case hk => kst_all); (case hn => (try dsimp only); first | (intro p hp; exact hp) | (first | (with_reducible refine Inc.use ?_; k_extra "sb") | (intro p hp; simp only [List.mem_append, List.mem_cons, List.not_mem_nil, or_false] at hp ⊢; first | (simp only [hp, true_or, or_true]; done) | ((repeat' (refine Or.elim hp ?_ ?_ <;> clear hp <;> intro hp)) <;> simp only [hp, true_or, or_true])))); (case hf => trivial); (case hr => first | (intro z9 h2 h3; k_extra "sm"; done) | ksw_same); (case hp => (try dsimp only); exact ⟨he2, (bx16 hP2 hP3 hu1 hu2).1, (bx16 hP2 hP3 hu1 hu2).2, hI9, hl9, by omega⟩); (case hm => (try dsimp only); omega))
  repeat' (first | (k_unfold; (try dsimp only)) | (k_end; wrow_close) | ((with_reducible show wpAny _ _ (execs (_ :: _) _) _ _ _); dsimp only; walk1) | walk1 | (dsimp only; walk1) | (leave1; walk_say "STEP leave1"; try dsimp only) | fail "no step")
  all_goals dsimp only
  all_goals exact hret _ _ _ _ _ (by k_asm) (by k_asm) ⟨_, _, _, rfl, rfl, by rw [List.reverse_cons]; exact IntsAre.append hI2 (.cons _ _ .nil), by rw [List.length_append]; simp only [List.length_cons, List.length_nil]; omega⟩
theorem news_two {h₀ h : Heap} {L : Addr} {x y : Addr × Obj} {R : List (Addr × Obj)} (N : News h₀ L h (x :: y :: R)) : News h₀ L h (y :: x :: R) := by
  refine kst_newsOf N fun p hp => ?_
  simp only [List.mem_cons] at hp ⊢
  rcases hp with h | h | h <;> simp [h]
theorem news_drop {h₀ h : Heap} {L : Addr} {x y : Addr × Obj} {R : List (Addr × Obj)} (N : News h₀ L h (x :: y :: R)) : News h₀ L h (x :: R) := by
  refine kst_newsOf N fun p hp => ?_
  simp only [List.mem_cons] at hp ⊢
  rcases hp with h | h <;> simp [h]
theorem workA (w : World) (W : Int → Int) (hW : ∀ i : Int, 0 ≤ W i ∧ W i < 16) (l wl : Addr) (wv : List Value) (kw : Nat) (hwv : ∀ i : Int, 0 ≤ i → i < 4 → ∃ t, wv[i.toNat]? = some (Value.int (W i) t)) (n : Nat) (IH : ∀ k, k ≤ n → WkSpec w W l wl wv kw k)
    (r : Int) (st1 st' : List Int) (v s0 : Int) (us0 : List Value) (ts0 : Tok) (cap : Nat) (tr : Tok) (news : List (Addr × Obj)) (hs0 : 256 ≤ s0) (hs1 : s0 < 260) (h1 : evF W n false r (W (s0 - 256)) st1 = some (v, st')) (hr0 : 0 ≤ r) (hr2 : r ≤ 2) (hI0 : IntsAre us0 st1.reverse) (hlen : us0.length ≤ 99) (hwm : (wl, listOf wv.toArray kw) ∈ news) (hall : ∀ p ∈ news, p.1 ≠ l) :
      CS w (hd.heap_39 w.params) 173 (n + 1 + 4) [.ref l, .ref wl, .int r tr] ((l, listOf (us0 ++ [Value.int s0 ts0]).toArray cap) :: news) (fun q nn => ∃ t us' cap', q = .int v t ∧ nn = (l, listOf us'.toArray cap') :: news ∧ IntsAre us' st'.reverse ∧ us'.length ≤ 100) := by
  unfold CS
  k_fill
  intro mean mg mb dp un gd cn cs a ccd cl outer A₀ base h₀ L m s Q E B F X N T hk hd hu hret
  refine wpAny_call ?_
  k_dflt (refine' code_defT [(Str.ofString "symbols", .ref l), (Str.ofString "worths", .ref wl), (Str.ofString "rank", .int r tr)] ?k1 ?k2 ?k3 ?k4 ?k5 ?kA ?kF ?kK ?k6 ?k7 ?k8 ?k9 ?kB ?_ ?c2 ?c3 ?c4 ?c5; (case kA => exact rfl); (case kF => exact rfl); (case kK => assumption); (case k1 => k_asm); (case k2 => k_asm); (case k3 => k_asm); (case k4 => k_asm); (case k5 => k_asm); (case k6 => k_is); (case k7 => k_is); (case k8 => ktr_room); (case k9 => exact BindsTo.of_eq rfl); (case c5 => decide); (case kB => exact locs rfl); (case c2 => exact rfl); (case c3 => exact rfl); (case c4 => exact rfl); k_whole)
  intro g' L' h' tk' FG' F9 N' B' X' T'
  replace F9 := fr3 (a := Str.ofString "symbols") (b := Str.ofString "worths") (c := Str.ofString "rank") F9
  (try dsimp only)
  (try k_fold)
  k_with_none
  k_with "k_mem" => first | exact (by with_reducible assumption) | exact (List.mem_cons_of_mem _ (by with_reducible assumption)) | exact (List.mem_cons_of_mem _ (List.mem_cons_of_mem _ (by with_reducible assumption))) | exact (List.mem_cons_of_mem _ (List.mem_cons_of_mem _ (List.mem_cons_of_mem _ (by with_reducible assumption)))) | exact (List.mem_cons_of_mem _ (List.mem_cons_of_mem _ (List.mem_cons_of_mem _ (List.mem_cons_of_mem _ (by with_reducible assumption)))))
  k_with "pj" => first | with_reducible assumption | exact pj0 (by with_reducible assumption) | exact pj1 (by with_reducible assumption) | exact pj2 (by with_reducible assumption) | exact pj3 (by with_reducible assumption) | exact pj4 (by with_reducible assumption) | exact pj5 (by with_reducible assumption) | exact pj6 (by with_reducible assumption) | exact pj7 (by with_reducible assumption) | exact pj8 (by with_reducible assumption) | exact pj9 (by with_reducible assumption) | exact pj10 (by with_reducible assumption) | exact pj11 (by with_reducible assumption) | exact pj12 (by with_reducible assumption) | exact pj13 (by with_reducible assumption) | exact pj14 (by with_reducible assumption) | exact pj15 (by with_reducible assumption) | exact pj16 (by with_reducible assumption) | exact pj17 (by with_reducible assumption) | exact pj18 (by with_reducible assumption) | exact pj19 (by with_reducible assumption) | exact pj20 (by with_reducible assumption) | exact pj21 (by with_reducible assumption) | exact pj22 (by with_reducible assumption) | exact pj23 (by with_reducible assumption) | exact pj24 (by with_reducible assumption)
  k_with "pj2" => first | exact ltR (by k_extra "lt") | exact ltL (k := 4) (by k_extra "lt") (Nat.le_of_ble_eq_true rfl) | exact ltLR (k := 4) (by k_extra "lt") (Nat.le_of_ble_eq_true rfl) | exact ltR (by k_extra "pj") | exact ltL (k := 4) (by k_extra "pj") (Nat.le_of_ble_eq_true rfl) | exact ltLR (k := 4) (by k_extra "pj") (Nat.le_of_ble_eq_true rfl)
  k_with "lt" => first | with_reducible assumption | exact ltOf (by with_reducible assumption) (by k_mem)
  k_with "k_ne" => (refine neN ?_; (try dsimp only); first | exact neK rfl | exact neK0 rfl | exact neK1 rfl | exact Nat.ne_of_lt (by k_extra "lt") | exact Nat.ne_of_gt (by k_extra "lt") | exact Nat.ne_of_lt (by k_extra "pj") | exact Nat.ne_of_gt (by k_extra "pj") | exact Nat.ne_of_lt (by k_extra "pj2") | exact Nat.ne_of_gt (by k_extra "pj2") | k_extra "pj" | k_extra "pq" | exact Ne.symm (by k_extra "pj") | omega)
  k_with "mb" => first | with_reducible exact incM | with_reducible assumption | (with_reducible refine incMT ?_; k_extra "mb") | (with_reducible refine incML ?_; k_extra "mb") | (with_reducible refine incMR ?_; k_extra "mb")
  k_with "sbl" => first | with_reducible exact incI | (with_reducible refine incT ?_; k_extra "sbl") | (with_reducible refine incL ?_; k_extra "sbl") | (with_reducible refine incR ?_; k_extra "sbl")
  k_with "sb" => first | with_reducible exact incI | with_reducible exact incN | (with_reducible refine' incC ?m9 ?r9; (case m9 => k_extra "mb"); (case r9 => k_extra "sb")) | (k_extra "sbl") | (with_reducible refine incA ?_ ?_ <;> k_extra "sb")
  k_with "mg" => first | with_reducible exact List.mem_cons_self | (with_reducible refine List.mem_cons_of_mem _ ?_; k_extra "mg")
  k_with "ne1" => first | exact h1 | exact neP h2 (by k_extra "mg") | exact neC h3 (by k_extra "mg") | fail "ne1"
  k_with "nc" => with_reducible first | exact h3 | exact ncN | (refine' ncC ?b9 ?q9; (case b9 => k_extra "ne1"); (case q9 => k_extra "nc")) | fail "nc"
  k_with "sm" => with_reducible first | rfl | (refine' sm1 ?a9 ?r9; (case a9 => k_extra "ne1"); (case r9 => k_extra "sm")) | (refine' sm2 ?h9 ?r9; (case h9 => k_extra "nc"); (case r9 => k_extra "sm")) | (refine sm3 h2 ?_; k_extra "sm") | fail "sm"
  k_with "rm" => first | exact ltA0 (by with_reducible assumption) | exact ltA1 (by with_reducible assumption) (Nat.le_of_ble_eq_true rfl) | exact ltA2 (by with_reducible assumption) (Nat.le_of_ble_eq_true rfl) | exact ltA3 (by with_reducible assumption) (Nat.le_of_ble_eq_true rfl)
  k_with "sz" => first | with_reducible assumption | with_reducible exact Nat.le_of_ble_eq_true (Eq.refl true)
  k_with "my call builtin:list.pop" => (k_here; (k_dflt (refine' pop_snoc ?F ?N ?U hall ?z ?_; (case F => k_asm); (case N => k_asm); (case U => k_ne); (case z => omega)); intro h9 F9 N9; (try dsimp only); (try k_fold)))
  k_with "my call ref" => first
    | first | (k_here; k_dflt (refine' CS.use (nterm_cs w _ _ _) ?B ?F ?X ?N ?T ?K ?D ?U ?_; (case B => k_asm); (case F => k_asm); (case X => k_asm); (case N => k_asm); (case T => k_asm); (case K => first | exact rfl | assumption); (case D => first | k_extra "rm" | omega | (show dp + _ + _ < recursionLimit; omega) | (show dp + _ < recursionLimit; omega) | (show _ + _ < recursionLimit; decide)); (case U => first | k_extra "rm" | omega | (show un + _ + 8 * _ < cLine; omega) | (show un + 8 * _ < cLine; omega) | ktr_units); k_whole; intro r9 n9 h9 tk9 F9 N9 p9; obtain ⟨rfl, rfl⟩ := p9; skip; (try dsimp only); (try k_fold)))
    | fail
  k_with "my subscriptTail Name BinOp ref int" =>
    obtain ⟨t9, hv9⟩ := hwv (s0 - 256) (by omega) (by omega)
    k_here
    k_dflt (refine' pick_item (by k_asm) (by exact List.mem_cons_of_mem _ (List.mem_cons_of_mem _ hwm)) ?_ ?_ hv9 ?_)
    omega
    omega
    (try k_fold)
  k_with "my execs cons" => (k_here; (with_reducible show wpAny _ _ (execs (Stmt.While _ _ _ _ :: _) _) _ _ _); ((k_dflt (refine' XS.use ?C ?ho ?hr ?B ?F ?X ?N ?T ?K ?D ?U ?_; (case B => k_asm); (case F => k_asm); (case X => k_asm); (case ho => k_is); (case N => exact news_two (by k_asm)); (case T => k_asm); (case K => first | exact rfl | assumption); (case C => exact wk_loop w W hW l wl wv kw n IH n r st1 st' v (W (s0 - 256)) _ s0 us0 _ _ tr _ _ _ _ _ news (by omega) h1 (hW _) hr0 hr2 hI0 (by omega) hwm hall (by k_ne) (by assumption) (by assumption) (by assumption)); (case hr => rfl); (case D => first | k_extra "rm" | omega); (case U => first | k_extra "rm" | omega))); intro r9 m9 n9 h9 tk9 F9 N9 p9; obtain ⟨t9, us9, cap9, rfl, rfl, hI9, hl9⟩ := p9; (try dsimp only); (try k_fold)))
  repeat' (first | (k_unfold; (try dsimp only)) | (k_end; wrow_close) | ((with_reducible show wpAny _ _ (execs (_ :: _) _) _ _ _); dsimp only; walk1) | walk1 | (dsimp only; walk1) | (leave1; walk_say "STEP leave1"; try dsimp only) | fail "no step")
  all_goals (rename News h₀ L _ _ => N9; exact hret _ _ _ _ (by k_asm) (news_drop N9) ⟨_, _, _, rfl, rfl, hI9, hl9⟩)
theorem workB (w : World) (W : Int → Int) (hW : ∀ i : Int, 0 ≤ W i ∧ W i < 16) (l wl : Addr) (wv : List Value) (kw : Nat) (n : Nat) (IH : ∀ k, k ≤ n → WkSpec w W l wl wv kw k)
    (r : Int) (st1 st2 st' : List Int) (v v1 p1 : Int) (us0 : List Value) (ts0 : Tok) (cap : Nat) (tr : Tok) (news : List (Addr × Obj)) (h1 : evF W n true 0 0 st1 = some (v1, p1 :: st2)) (h2 : evF W n false r v1 st2 = some (v, st')) (hr0 : 0 ≤ r) (hr2 : r ≤ 2) (hI0 : IntsAre us0 st1.reverse) (hlen : us0.length ≤ 99) (hwm : (wl, listOf wv.toArray kw) ∈ news) (hall : ∀ p ∈ news, p.1 ≠ l) :
      CS w (hd.heap_39 w.params) 173 (n + 1 + 4) [.ref l, .ref wl, .int r tr] ((l, listOf (us0 ++ [Value.int 7 ts0]).toArray cap) :: news) (fun q nn => ∃ t us' cap', q = .int v t ∧ nn = (l, listOf us'.toArray cap') :: news ∧ IntsAre us' st'.reverse ∧ us'.length ≤ 100) := by
  have hv1 := evF_bd hW _ _ _ _ _ _ _ h1 (by simp)
  unfold CS
  k_fill
  intro mean mg mb dp un gd cn cs a ccd cl outer A₀ base h₀ L m s Q E B F X N T hk hd hu hret
  refine wpAny_call ?_
  k_dflt (refine' code_defT [(Str.ofString "symbols", .ref l), (Str.ofString "worths", .ref wl), (Str.ofString "rank", .int r tr)] ?k1 ?k2 ?k3 ?k4 ?k5 ?kA ?kF ?kK ?k6 ?k7 ?k8 ?k9 ?kB ?_ ?c2 ?c3 ?c4 ?c5; (case kA => exact rfl); (case kF => exact rfl); (case kK => assumption); (case k1 => k_asm); (case k2 => k_asm); (case k3 => k_asm); (case k4 => k_asm); (case k5 => k_asm); (case k6 => k_is); (case k7 => k_is); (case k8 => ktr_room); (case k9 => exact BindsTo.of_eq rfl); (case c5 => decide); (case kB => exact locs rfl); (case c2 => exact rfl); (case c3 => exact rfl); (case c4 => exact rfl); k_whole)
  intro g' L' h' tk' FG' F9 N' B' X' T'
  replace F9 := fr3 (a := Str.ofString "symbols") (b := Str.ofString "worths") (c := Str.ofString "rank") F9
  (try dsimp only)
  (try k_fold)
  k_with_none
  k_with "k_mem" => first | exact (by with_reducible assumption) | exact (List.mem_cons_of_mem _ (by with_reducible assumption)) | exact (List.mem_cons_of_mem _ (List.mem_cons_of_mem _ (by with_reducible assumption))) | exact (List.mem_cons_of_mem _ (List.mem_cons_of_mem _ (List.mem_cons_of_mem _ (by with_reducible assumption)))) | exact (List.mem_cons_of_mem _ (List.mem_cons_of_mem _ (List.mem_cons_of_mem _ (List.mem_cons_of_mem _ (by with_reducible assumption)))))
  k_with "pj" => first | with_reducible assumption | exact pj0 (by with_reducible assumption) | exact pj1 (by with_reducible assumption) | exact pj2 (by with_reducible assumption) | exact pj3 (by with_reducible assumption) | exact pj4 (by with_reducible assumption) | exact pj5 (by with_reducible assumption) | exact pj6 (by with_reducible assumption) | exact pj7 (by with_reducible assumption) | exact pj8 (by with_reducible assumption) | exact pj9 (by with_reducible assumption) | exact pj10 (by with_reducible assumption) | exact pj11 (by with_reducible assumption) | exact pj12 (by with_reducible assumption) | exact pj13 (by with_reducible assumption) | exact pj14 (by with_reducible assumption) | exact pj15 (by with_reducible assumption) | exact pj16 (by with_reducible assumption) | exact pj17 (by with_reducible assumption) | exact pj18 (by with_reducible assumption) | exact pj19 (by with_reducible assumption) | exact pj20 (by with_reducible assumption) | exact pj21 (by with_reducible assumption) | exact pj22 (by with_reducible assumption) | exact pj23 (by with_reducible assumption) | exact pj24 (by with_reducible assumption)
  k_with "pj2" => first | exact ltR (by k_extra "lt") | exact ltL (k := 4) (by k_extra "lt") (Nat.le_of_ble_eq_true rfl) | exact ltLR (k := 4) (by k_extra "lt") (Nat.le_of_ble_eq_true rfl) | exact ltR (by k_extra "pj") | exact ltL (k := 4) (by k_extra "pj") (Nat.le_of_ble_eq_true rfl) | exact ltLR (k := 4) (by k_extra "pj") (Nat.le_of_ble_eq_true rfl)
  k_with "lt" => first | with_reducible assumption | exact ltOf (by with_reducible assumption) (by k_mem)
  k_with "k_ne" => (refine neN ?_; (try dsimp only); first | exact neK rfl | exact neK0 rfl | exact neK1 rfl | exact Nat.ne_of_lt (by k_extra "lt") | exact Nat.ne_of_gt (by k_extra "lt") | exact Nat.ne_of_lt (by k_extra "pj") | exact Nat.ne_of_gt (by k_extra "pj") | exact Nat.ne_of_lt (by k_extra "pj2") | exact Nat.ne_of_gt (by k_extra "pj2") | k_extra "pj" | k_extra "pq" | exact Ne.symm (by k_extra "pj") | omega)
  k_with "mb" => first | with_reducible exact incM | with_reducible assumption | (with_reducible refine incMT ?_; k_extra "mb") | (with_reducible refine incML ?_; k_extra "mb") | (with_reducible refine incMR ?_; k_extra "mb")
  k_with "sbl" => first | with_reducible exact incI | (with_reducible refine incT ?_; k_extra "sbl") | (with_reducible refine incL ?_; k_extra "sbl") | (with_reducible refine incR ?_; k_extra "sbl")
  k_with "sb" => first | with_reducible exact incI | with_reducible exact incN | (with_reducible refine' incC ?m9 ?r9; (case m9 => k_extra "mb"); (case r9 => k_extra "sb")) | (k_extra "sbl") | (with_reducible refine incA ?_ ?_ <;> k_extra "sb")
  k_with "mg" => first | with_reducible exact List.mem_cons_self | (with_reducible refine List.mem_cons_of_mem _ ?_; k_extra "mg")
  k_with "ne1" => first | exact h1 | exact neP h2 (by k_extra "mg") | exact neC h3 (by k_extra "mg") | fail "ne1"
  k_with "nc" => with_reducible first | exact h3 | exact ncN | (refine' ncC ?b9 ?q9; (case b9 => k_extra "ne1"); (case q9 => k_extra "nc")) | fail "nc"
  k_with "sm" => with_reducible first | rfl | (refine' sm1 ?a9 ?r9; (case a9 => k_extra "ne1"); (case r9 => k_extra "sm")) | (refine' sm2 ?h9 ?r9; (case h9 => k_extra "nc"); (case r9 => k_extra "sm")) | (refine sm3 h2 ?_; k_extra "sm") | fail "sm"
  k_with "rm" => first | exact ltA0 (by with_reducible assumption) | exact ltA1 (by with_reducible assumption) (Nat.le_of_ble_eq_true rfl) | exact ltA2 (by with_reducible assumption) (Nat.le_of_ble_eq_true rfl) | exact ltA3 (by with_reducible assumption) (Nat.le_of_ble_eq_true rfl)
  k_with "sz" => first | with_reducible assumption | with_reducible exact Nat.le_of_ble_eq_true (Eq.refl true)
  k_with "my call builtin:list.pop" => first
    | (k_here; (k_dflt (refine' pop_snoc ?F ?N ?U hall ?z ?_; (case F => k_asm); (case N => k_asm); (case U => k_ne); (case z => omega)); intro h9 F9 N9; (try dsimp only); (try k_fold)))
    | (obtain ⟨us8, t8, rfl, hI8⟩ := ints_snoc hI9; rw [List.length_append] at hl9; simp only [List.length_cons, List.length_nil] at hl9; clear hI9; k_here; (k_dflt (refine' pop_head ?F ?N ?U ?z ?_; (case F => k_asm); (case N => k_asm); (case U => exact List.forall_mem_cons.mpr ⟨by k_ne, hall⟩); (case z => omega)); intro h9 F9 N9; (try dsimp only); (try k_fold)))
  k_with "my call ref" => first
    | first | (k_here; k_dflt (refine' CS.use (nterm_cs w _ _ _) ?B ?F ?X ?N ?T ?K ?D ?U ?_; (case B => k_asm); (case F => k_asm); (case X => k_asm); (case N => k_asm); (case T => k_asm); (case K => first | exact rfl | assumption); (case D => first | k_extra "rm" | omega | (show dp + _ + _ < recursionLimit; omega) | (show dp + _ < recursionLimit; omega) | (show _ + _ < recursionLimit; decide)); (case U => first | k_extra "rm" | omega | (show un + _ + 8 * _ < cLine; omega) | (show un + 8 * _ < cLine; omega) | ktr_units); k_whole; intro r9 n9 h9 tk9 F9 N9 p9; obtain ⟨rfl, rfl⟩ := p9; skip; (try dsimp only); (try k_fold)))
    | (k_here; k_dflt (refine' CS.use ?C ?B ?F ?X ?N ?T ?K ?D ?U ?_; (case B => k_asm); (case F => k_asm); (case X => k_asm); (case N => exact news_two (by k_asm)); (case T => k_asm); (case K => first | exact rfl | assumption); (case C => exact IH n (by omega) 0 st1 (p1 :: st2) v1 us0 _ _ _ h1 (by decide) (by decide) hI0 (by omega) (List.mem_cons_of_mem _ hwm) (List.forall_mem_cons.mpr ⟨by k_ne, hall⟩)); (case D => first | k_extra "rm" | omega | (show dp + _ + _ < recursionLimit; omega) | (show dp + _ < recursionLimit; omega) | (show _ + _ < recursionLimit; decide)); (case U => first | k_extra "rm" | omega | (show un + _ + 8 * _ < cLine; omega) | (show un + 8 * _ < cLine; omega) | ktr_units)); intro r9 n9 h9 tk9 F9 N9 p9; obtain ⟨t9, us9, cap9, rfl, rfl, hI9, hl9⟩ := p9; skip; (try dsimp only); (try k_fold))
    | fail
  k_with "my execs cons" => (k_here; (with_reducible show wpAny _ _ (execs (Stmt.While _ _ _ _ :: _) _) _ _ _); ((k_dflt (refine' XS.use ?C ?ho ?hr ?B ?F ?X ?N ?T ?K ?D ?U ?_; (case B => k_asm); (case F => k_asm); (case X => k_asm); (case ho => k_is); (case N => k_asm); (case T => k_asm); (case K => first | exact rfl | assumption); (case C => exact wk_loop w W hW l wl wv kw n IH n r st2 st' v v1 _ 7 us8 _ _ tr _ _ _ _ _ news (by omega) h2 hv1 hr0 hr2 hI8 (by omega) hwm hall (by k_ne) (by assumption) (by assumption) (by assumption)); (case hr => rfl); (case D => first | k_extra "rm" | omega); (case U => first | k_extra "rm" | omega))); intro r9 m9 n9 h9 tk9 F9 N9 p9; obtain ⟨t9, us9, cap9, rfl, rfl, hI9, hl9⟩ := p9; (try dsimp only); (try k_fold)))
  repeat' (first | (k_unfold; (try dsimp only)) | (k_end; wrow_close) | ((with_reducible show wpAny _ _ (execs (_ :: _) _) _ _ _); dsimp only; walk1) | walk1 | (dsimp only; walk1) | (leave1; walk_say "STEP leave1"; try dsimp only) | fail "no step")
  all_goals (rename News h₀ L _ _ => N9; exact hret _ _ _ _ (by k_asm) (news_drop N9) ⟨_, _, _, rfl, rfl, hI9, hl9⟩)
theorem worked_all (w : World) (W : Int → Int) (hW : ∀ i : Int, 0 ≤ W i ∧ W i < 16) (l wl : Addr) (wv : List Value) (kw : Nat) (hwv : ∀ i : Int, 0 ≤ i → i < 4 → ∃ t, wv[i.toNat]? = some (Value.int (W i) t)) : ∀ n k, k ≤ n → WkSpec w W l wl wv kw k := by
  intro n
  induction n with
  | zero =>
    intro k hk r st st' v us cap tr news h
    obtain rfl : k = 0 := by omega
    simp [evF] at h
  | succ n IH =>
    intro k hk
    by_cases hkn : k ≤ n
    · exact IH k hkn
    · obtain rfl : k = n + 1 := by omega
      intro r st st' v us cap tr news h hr0 hr2 hI hlen hwm hall
      rcases evF_head h with ⟨s0, st1, rfl, hs0, hs1, h1⟩ | ⟨st1, t', p, st2, rfl, h1, h2⟩
      · obtain ⟨us0, ts0, rfl, hI0⟩ := ints_snoc hI
        rw [List.length_append] at hlen
        simp only [List.length_cons, List.length_nil] at hlen
        exact workA w W hW l wl wv kw hwv n IH r st1 st' v s0 us0 ts0 cap tr news hs0 hs1 h1 hr0 hr2 hI0 (by omega) hwm hall
      · obtain ⟨us0, ts0, rfl, hI0⟩ := ints_snoc hI
        rw [List.length_append] at hlen
        simp only [List.length_cons, List.length_nil] at hlen
        exact workB w W hW l wl wv kw n IH r st1 st2 st' v t' p us0 ts0 cap tr news h1 h2 hr0 hr2 hI0 (by omega) hwm hall
end
-- part Csyms
section
theorem top_off_Csyms : True := by
  w_top off
  exact True.intro
noncomputable abbrev slT (x : Str) (i k : Int) : Str := Txt.slice x (some i) (some (i + k))
noncomputable def szF (x : Str) (i : Int) : Int := if inT (slT x i 3) = true then 3 else if inT (slT x i 2) = true then 2 else 1
noncomputable def pcF (x : Str) (i : Int) : Str := slT x i (szF x i)
theorem pc3 {x : Str} {i : Int} (h : inT (slT x i 3) = true) : pcF x i = slT x i 3 := by unfold pcF szF; rw [if_pos h]
theorem pc2 {x : Str} {i : Int} (h : inT (slT x i 3) = false) (h' : inT (slT x i 2) = true) : pcF x i = slT x i 2 := by unfold pcF szF; rw [if_neg (by rw [h]; decide), if_pos h']
theorem pc1 {x : Str} {i : Int} (h : inT (slT x i 3) = false) (h' : inT (slT x i 2) = false) : pcF x i = slT x i 1 := by unfold pcF szF; rw [if_neg (by rw [h]; decide), if_neg (by rw [h']; decide)]
noncomputable abbrev isP (p : Str) : Bool := (Builtin.Str.occurrences (Str.ofString "a\"cd") p 0 (Str.ofString "a\"cd").length 1).isEmpty
noncomputable def symF (p : Str) : Int := if isP p = true then tabI p else 256 + Txt.find (Str.ofString "a\"cd") p
noncomputable def okF (p : Str) : Bool := if isP p = true then inT p else true
noncomputable def symsF (x : Str) : Nat → Int → Option (List Int)
  | 0, _ => none
  | n + 1, i => if i < x.length then (if okF (pcF x i) = true then (symsF x n (i + (pcF x i).length)).map (symF (pcF x i) :: ·) else none) else some []
noncomputable def SyP (x : Str) (full : List Int) (n : Nat) (i : Int) (acc : List Int) : Prop := ∃ rest, symsF x n i = some rest ∧ acc ++ rest = full
theorem syms_step {x : Str} {full acc : List Int} {n : Nat} {i : Int} {p : Str} (h : SyP x full n i acc) (hi : i < x.length) (hp : pcF x i = p) : ∃ m, n = m + 1 ∧ okF p = true ∧ SyP x full m (i + p.length) (acc ++ [symF p]) := by
  obtain ⟨rest, h1, h2⟩ := h
  cases n with
  | zero => simp [symsF] at h1
  | succ m =>
    simp only [symsF, hi, if_true, hp] at h1
    by_cases ho : okF p = true
    · simp only [ho, if_true] at h1
      cases hr : symsF x m (i + p.length) with
      | none => simp [hr] at h1
      | some r =>
        simp [hr] at h1
        refine ⟨m, rfl, ho, r, hr, ?_⟩
        rw [← h2, ← h1]
        simp
    · simp [ho] at h1
theorem syms_pos {x : Str} {full acc : List Int} {n : Nat} {i : Int} (h : SyP x full n i acc) : 0 < n := by
  obtain ⟨rest, h1, _⟩ := h
  cases n with
  | zero => simp [symsF] at h1
  | succ m => omega
theorem syms_end {x : Str} {full acc : List Int} {n : Nat} {i : Int} (h : SyP x full n i acc) (hi : ¬ i < x.length) : acc = full := by
  obtain ⟨rest, h1, h2⟩ := h
  cases n with
  | zero => simp [symsF] at h1
  | succ m =>
    simp only [symsF, hi, if_false, Option.some.injEq] at h1
    rw [← h2, ← h1, List.append_nil]
theorem syms_in {x : Str} {full acc : List Int} {n : Nat} {i : Int} {p : Str} (h : SyP x full n i acc) (hi : i < x.length) (hp : pcF x i = p) (ho : isP p = true) : inT p = true := by
  obtain ⟨m, _, h1, _⟩ := syms_step h hi hp
  unfold okF at h1
  rw [if_pos ho] at h1
  exact h1
theorem syms_p1 {x : Str} {full acc : List Int} {n : Nat} {i : Int} {p : Str} (h : SyP x full n i acc) (hi : i < x.length) (hp : pcF x i = p) (ho : isP p = false) : SyP x full (n - 1) (i + p.length) (acc ++ [256 + Txt.find (Str.ofString "a\"cd") p]) := by
  obtain ⟨m, rfl, _, h1⟩ := syms_step h hi hp
  unfold symF at h1
  rw [if_neg (by rw [ho]; decide)] at h1
  exact h1
theorem syms_p2 {x : Str} {full acc : List Int} {n : Nat} {i : Int} {p : Str} (h : SyP x full n i acc) (hi : i < x.length) (hp : pcF x i = p) (ho : isP p = true) : SyP x full (n - 1) (i + p.length) (acc ++ [tabI p]) := by
  obtain ⟨m, rfl, _, h1⟩ := syms_step h hi hp
  unfold symF at h1
  rw [if_pos ho] at h1
  exact h1
structure SyC where
  n : Nat
  i : Int
  ti : Tok
  us : List Value
  cap : Nat
theorem news_first {h₀ h : Heap} {L : Addr} {x a b c : Addr × Obj} {R : List (Addr × Obj)} (N : News h₀ L h (x :: a :: b :: c :: R)) : News h₀ L h (x :: R) := by
  refine kst_newsOf N fun p hp => ?_
  simp only [List.mem_cons] at hp ⊢
  rcases hp with h | h <;> simp [h]
theorem syms_ints {ws : List Value} {acc full : List Int} {t : Tok} (h : IntsAre ws acc.reverse) (e : acc = full) : IntsAre ([Value.int 0 t] ++ ws) (full ++ [0]).reverse := by
  subst e
  rw [List.reverse_append]
  exact IntsAre.append (.cons 0 t .nil) h
theorem syms_cs (w : World) (x : Str) (t1 : Tok) (full : List Int) (hf : SyP x full 21 0 []) (hx : x.length ≤ 20) (news : List (Addr × Obj)) : CS w (hd.heap_39 w.params) 159 2 [.str x t1] news (fun r n => ∃ q us c, r = .ref q ∧ n = (q, listOf us.toArray c) :: news ∧ IntsAre us (full ++ [0]).reverse ∧ (∀ p ∈ news, p.1 < q)) := by
  unfold CS
  k_fill
  intro mean mg mb dp un gd cn cs a ccd cl outer A₀ base h₀ L m s Q E B F X N T hk hd hu hret
  refine wpAny_call ?_
  k_dflt (refine' code_defT [(Str.ofString "text", .str x t1)] ?k1 ?k2 ?k3 ?k4 ?k5 ?kA ?kF ?kK ?k6 ?k7 ?k8 ?k9 ?kB ?_ ?c2 ?c3 ?c4 ?c5; (case kA => exact rfl); (case kF => exact rfl); (case kK => assumption); (case k1 => k_asm); (case k2 => k_asm); (case k3 => k_asm); (case k4 => k_asm); (case k5 => k_asm); (case k6 => k_is); (case k7 => k_is); (case k8 => ktr_room); (case k9 => exact BindsTo.of_eq rfl); (case c5 => decide); (case kB => exact locs rfl); (case c2 => exact rfl); (case c3 => exact rfl); (case c4 => exact rfl); k_whole)
  intro g' L' h' tk' FG' F9 N' B' X' T'
  replace F9 := fr1 (a := Str.ofString "text") F9
  (try dsimp only)
  (try k_fold)
  k_with_none
  k_with "k_mem" => first | exact (by with_reducible assumption) | exact (List.mem_cons_of_mem _ (by with_reducible assumption)) | exact (List.mem_cons_of_mem _ (List.mem_cons_of_mem _ (by with_reducible assumption))) | exact (List.mem_cons_of_mem _ (List.mem_cons_of_mem _ (List.mem_cons_of_mem _ (by with_reducible assumption)))) | exact (List.mem_cons_of_mem _ (List.mem_cons_of_mem _ (List.mem_cons_of_mem _ (List.mem_cons_of_mem _ (by with_reducible assumption)))))
  k_with "pj" => first | with_reducible assumption | exact pj0 (by with_reducible assumption) | exact pj1 (by with_reducible assumption) | exact pj2 (by with_reducible assumption) | exact pj3 (by with_reducible assumption) | exact pj4 (by with_reducible assumption) | exact pj5 (by with_reducible assumption) | exact pj6 (by with_reducible assumption) | exact pj7 (by with_reducible assumption) | exact pj8 (by with_reducible assumption) | exact pj9 (by with_reducible assumption) | exact pj10 (by with_reducible assumption) | exact pj11 (by with_reducible assumption) | exact pj12 (by with_reducible assumption) | exact pj13 (by with_reducible assumption) | exact pj14 (by with_reducible assumption) | exact pj15 (by with_reducible assumption) | exact pj16 (by with_reducible assumption) | exact pj17 (by with_reducible assumption) | exact pj18 (by with_reducible assumption) | exact pj19 (by with_reducible assumption) | exact pj20 (by with_reducible assumption) | exact pj21 (by with_reducible assumption) | exact pj22 (by with_reducible assumption) | exact pj23 (by with_reducible assumption) | exact pj24 (by with_reducible assumption)
  k_with "pj2" => first | exact ltR (by k_extra "lt") | exact ltL (k := 4) (by k_extra "lt") (Nat.le_of_ble_eq_true rfl) | exact ltLR (k := 4) (by k_extra "lt") (Nat.le_of_ble_eq_true rfl) | exact ltR (by k_extra "pj") | exact ltL (k := 4) (by k_extra "pj") (Nat.le_of_ble_eq_true rfl) | exact ltLR (k := 4) (by k_extra "pj") (Nat.le_of_ble_eq_true rfl)
  k_with "lt" => first | with_reducible assumption | exact ltOf (by with_reducible assumption) (by k_mem)
  k_with "k_ne" => (refine neN ?_; (try dsimp only); first | exact neK rfl | exact neK0 rfl | exact neK1 rfl | exact Nat.ne_of_lt (by k_extra "lt") | exact Nat.ne_of_gt (by k_extra "lt") | exact Nat.ne_of_lt (by k_extra "pj") | exact Nat.ne_of_gt (by k_extra "pj") | exact Nat.ne_of_lt (by k_extra "pj2") | exact Nat.ne_of_gt (by k_extra "pj2") | k_extra "pj" | k_extra "pq" | exact Ne.symm (by k_extra "pj") | omega)
  k_with "mb" => first | with_reducible exact incM | with_reducible assumption | (with_reducible refine incMT ?_; k_extra "mb") | (with_reducible refine incML ?_; k_extra "mb") | (with_reducible refine incMR ?_; k_extra "mb")
  k_with "sbl" => first | with_reducible exact incI | (with_reducible refine incT ?_; k_extra "sbl") | (with_reducible refine incL ?_; k_extra "sbl") | (with_reducible refine incR ?_; k_extra "sbl")
  k_with "sb" => first | with_reducible exact incI | with_reducible exact incN | (with_reducible refine' incC ?m9 ?r9; (case m9 => k_extra "mb"); (case r9 => k_extra "sb")) | (k_extra "sbl") | (with_reducible refine incA ?_ ?_ <;> k_extra "sb")
  k_with "mg" => first | with_reducible exact List.mem_cons_self | (with_reducible refine List.mem_cons_of_mem _ ?_; k_extra "mg")
  k_with "ne1" => first | exact h1 | exact neP h2 (by k_extra "mg") | exact neC h3 (by k_extra "mg") | fail "ne1"
  k_with "nc" => with_reducible first | exact h3 | exact ncN | (refine' ncC ?b9 ?q9; (case b9 => k_extra "ne1"); (case q9 => k_extra "nc")) | fail "nc"
  k_with "sm" => with_reducible first | rfl | (refine' sm1 ?a9 ?r9; (case a9 => k_extra "ne1"); (case r9 => k_extra "sm")) | (refine' sm2 ?h9 ?r9; (case h9 => k_extra "nc"); (case r9 => k_extra "sm")) | (refine sm3 h2 ?_; k_extra "sm") | fail "sm"
  k_with "rm" => first | exact ltA0 (by with_reducible assumption) | exact ltA1 (by with_reducible assumption) (Nat.le_of_ble_eq_true rfl) | exact ltA2 (by with_reducible assumption) (Nat.le_of_ble_eq_true rfl) | exact ltA3 (by with_reducible assumption) (Nat.le_of_ble_eq_true rfl)
  k_with "sz" => first | with_reducible assumption | with_reducible exact Nat.le_of_ble_eq_true (Eq.refl true)
  k_with "my exec While Compare cons nil" => 
    k_here
    rename News _ _ _ _ => N8
    k_dflt (refine' ksw_while (σ := SyC) (fun c => (_, listOf c.us.toArray c.cap) :: news) (fun c => [(Str.ofString "at", Value.int c.i c.ti)]) (fun _ => True) [Str.ofString "size", Str.ofString "piece"] (fun c => 0 ≤ c.i ∧ (∃ acc, IntsAre c.us acc ∧ SyP x full c.n c.i acc) ∧ c.us.length + c.n ≤ 21) (fun c => c.n) ⟨21, 0, _, [], 0⟩ ?F9 N8 trivial ?k9 ?p9 ?_; (case F9 => k_asm); (case k9 => kst_all); (case p9 => exact ⟨Int.le_refl 0, ⟨_, .nil, hf⟩, Nat.le_refl 21⟩))
    clear N8
    intro c u7 h7 tk7 _ hP F7 N7
    obtain ⟨n1, i1, ti1, us1, cap1⟩ := c
    dsimp only [kstB] at F7 N7 hP
    obtain ⟨hP1, ⟨acc1, hP2, hP3⟩, hP4⟩ := hP
    (try dsimp only)
    (try k_fold)
  k_with "my exec While BoolOp cons nil" => 
    k_here
    k_dflt (refine' ksw_while (σ := Int × Tok) (fun _ => (_, listOf us1.toArray cap1) :: news) (fun c => [(Str.ofString "size", Value.int c.1 c.2)]) (fun _ => True) [] (fun c => c.1 = 3 ∨ (c.1 = 2 ∧ inT (slT x i1 3) = false) ∨ (c.1 = 1 ∧ inT (slT x i1 3) = false ∧ inT (slT x i1 2) = false)) (fun c => c.1.toNat) ⟨3, _⟩ ?F9 ?N9 trivial ?k9 ?p9 ?_; (case F9 => k_asm); (case N9 => k_asm); (case k9 => kst_all); (case p9 => exact .inl rfl))
    (try clear F7 N7)
    intro c u8 h8 tk8 _ hS F8 N8
    obtain ⟨z1, tz1⟩ := c
    dsimp only [kstB] at F8 N8 hS
    rcases hS with rfl | ⟨rfl, hz3⟩ | ⟨rfl, hz3, hz2⟩
    all_goals ((try dsimp only); (try k_fold))
  k_with "my compareOp NotIn str ref" => (k_here; (k_dflt (refine' tab_notin ?F9 ?X9 ?_; (case F9 => k_asm); (case X9 => k_asm))))
  k_with "my subscriptTail" => (k_here; (k_dflt (refine' tab_item ?F9 ?X9 ?x9 ?_; (case F9 => k_asm); (case X9 => k_asm); (case x9 => exact syms_in hP3 (by with_reducible assumption) (by first | exact pc3 (by with_reducible assumption) | exact pc2 (by with_reducible assumption) (by with_reducible assumption) | exact pc1 (by with_reducible assumption) (by with_reducible assumption)) (by with_reducible assumption))); intro u9; (try dsimp only); (try k_fold)))
  k_with "my callWith" => first | (k_here; (with_reducible show wpAny _ _ (callWith _ _ _ (backTo _ (starEach [PySem.Expr.Subscript _ _ _] _)) []) _ _ _); dsimp only; with_reducible (refine callWith_method1 ?_ star_Sub plain_nil)) | (k_here; (with_reducible show wpAny _ _ (callWith _ _ _ (backTo _ (starEach [PySem.Expr.BinOp _ _ _ _] _)) []) _ _ _); dsimp only; with_reducible (refine callWith_method1 ?_ star_Bin plain_nil))
  k_with "my KswEnd" => first
    | (rename News _ _ _ _ => N8; (try simp only [List.push_toArray] at N8); refine' ksw_end (σ := Int × Tok) ⟨3 - 1, _⟩ (by k_asm) N8 ?hn ?hf ?hk ?hr ?hp ?hm; (case hk => kst_all); (case hn => (try dsimp only); first | (intro p hp; exact hp) | (first | (with_reducible refine Inc.use ?_; k_extra "sb") | (intro p hp; simp only [List.mem_append, List.mem_cons, List.not_mem_nil, or_false] at hp ⊢; first | (simp only [hp, true_or, or_true]; done) | ((repeat' (refine Or.elim hp ?_ ?_ <;> clear hp <;> intro hp)) <;> simp only [hp, true_or, or_true])))); (case hf => trivial); (case hr => first | (intro z9 h2 h3; k_extra "sm"; done) | ksw_same); (case hp => (try dsimp only); exact .inr (.inl ⟨rfl, by with_reducible assumption⟩)); (case hm => (try dsimp only); decide))
    | (rename News _ _ _ _ => N8; (try simp only [List.push_toArray] at N8); refine' ksw_end (σ := Int × Tok) ⟨2 - 1, _⟩ (by k_asm) N8 ?hn ?hf ?hk ?hr ?hp ?hm; (case hk => kst_all); (case hn => (try dsimp only); first | (intro p hp; exact hp) | (first | (with_reducible refine Inc.use ?_; k_extra "sb") | (intro p hp; simp only [List.mem_append, List.mem_cons, List.not_mem_nil, or_false] at hp ⊢; first | (simp only [hp, true_or, or_true]; done) | ((repeat' (refine Or.elim hp ?_ ?_ <;> clear hp <;> intro hp)) <;> simp only [hp, true_or, or_true])))); (case hf => trivial); (case hr => first | (intro z9 h2 h3; k_extra "sm"; done) | ksw_same); (case hp => (try dsimp only); exact .inr (.inr ⟨rfl, hz3, by with_reducible assumption⟩)); (case hm => (try dsimp only); decide))
    | (rename News _ _ _ _ => N8; (try simp only [List.push_toArray] at N8); refine' ksw_end (σ := SyC) ⟨n1 - 1, _, _, _, _⟩ (by k_asm) N8 ?hn ?hf ?hk ?hr ?hp ?hm; (case hk => kst_all); (case hn => (try dsimp only); first | (intro p hp; exact hp) | (first | (with_reducible refine Inc.use ?_; k_extra "sb") | (intro p hp; simp only [List.mem_append, List.mem_cons, List.not_mem_nil, or_false] at hp ⊢; first | (simp only [hp, true_or, or_true]; done) | ((repeat' (refine Or.elim hp ?_ ?_ <;> clear hp <;> intro hp)) <;> simp only [hp, true_or, or_true])))); (case hf => trivial); (case hr => first | (intro z9 h2 h3; k_extra "sm"; done) | ksw_same); (case hp => (try dsimp only); (refine ⟨by omega, ⟨_, IntsAre.append hP2 (.cons _ _ .nil), ?_⟩, by rw [List.length_append]; simp only [List.length_cons, List.length_nil]; have := syms_pos hP3; omega⟩; first | exact syms_p1 hP3 (by with_reducible assumption) (by first | exact pc3 (by with_reducible assumption) | exact pc2 (by with_reducible assumption) (by with_reducible assumption) | exact pc1 (by with_reducible assumption) (by with_reducible assumption)) (by with_reducible assumption) | exact syms_p2 hP3 (by with_reducible assumption) (by first | exact pc3 (by with_reducible assumption) | exact pc2 (by with_reducible assumption) (by with_reducible assumption) | exact pc1 (by with_reducible assumption) (by with_reducible assumption)) (by with_reducible assumption))); (case hm => (try dsimp only); (have := syms_pos hP3; omega)))
  k_with "my binaryOp Add ref ref" => 
      have hlen9 := IntsAre.length hP2
      rename IntsAre _ (List.reverse _) => hI9
      have hlen8 := IntsAre.length hI9
      rw [List.length_reverse] at hlen8
      k_here
      k_dflt (refine' cat_lists ?F9 ?N9 ?l9 ?b9 ?z9 ?_; (case F9 => k_asm); (case N9 => k_asm); (case l9 => exact List.mem_cons_of_mem _ List.mem_cons_self); (case b9 => exact List.mem_cons_self); (case z9 => (simp only [List.length_cons, List.length_nil]; omega)))
      intro d9 h9 F9 N9 hlt9
      (try dsimp only)
      (try k_fold)
  repeat' (first | (k_unfold; (try dsimp only)) | (k_end; wrow_close) | ((with_reducible show wpAny _ _ (execs (_ :: _) _) _ _ _); dsimp only; walk1) | walk1 | (dsimp only; walk1) | (leave1; walk_say "STEP leave1"; try dsimp only) | fail "no step")
  all_goals (have hacc := syms_end hP3 (by with_reducible assumption); rename News h₀ L _ _ => N9; exact hret _ _ _ _ (by k_asm) (news_first N9) ⟨_, _, _, rfl, rfl, syms_ints (by with_reducible assumption) hacc, fun p hp => hlt9 p (by simp [hp])⟩)
end
-- part CompI
section
theorem top_off_CompI : True := by
  w_top off
  exact True.intro
theorem comp_ind {prog : Program} {w : World} {A : Around} {s : Shared} {h₀ : Heap} {L : Addr} {m : Str → Option Value} {env : Env} {elt : PySem.Expr} {x : Str} {scope : Scope} {cl : List (Str × Addr)} {S : List (Addr × Obj) → Prop} {P : Nat → Value → Prop} {Fin : List Value → List (Addr × Obj) → Prop} (n : Nat) (Inv : Nat → List Value → List (Addr × Obj) → Prop)
    (turn : ∀ i ys news v I oI C oC D m₂ h tk (E' : Value → Shared → Prop), i < n → Inv i ys news → P i v → LCg.NsObj oC m₂ → m₂ x = some v → Fr h₀ L h m → News h₀ L h ((I, oI) :: (C, oC) :: (D, LCg.lst ys) :: news) → LCg.Off3 I C D news → ((@Ne Nat I C) ∧ (@Ne Nat I D) ∧ (@Ne Nat C D)) →
      wpAny (model prog w) A (eval elt (compEnvC scope cl C env)) (LCg.CompEnd h₀ L m { s with heap := h, toks := tk } I oI C oC D (LCg.lst ys) S (fun y news' => Inv (i + 1) (ys ++ [y]) news')) E' { s with heap := h, toks := tk })
    (fin : ∀ ys news, Inv n ys news → Fin ys news) : ∀ (k i : Nat) (ys : List Value) (news : List (Addr × Obj)), i + k = n → Inv i ys news → LCg.CompRest prog w A h₀ L m env elt x scope cl s S P Fin k i ys news
  | 0, i, ys, news, e, hI => by
    obtain rfl : i = n := by omega
    exact fin ys news hI
  | k + 1, i, ys, news, e, hI => by
    refine LCg.CompRest.succ fun v I oI C oC D m₂ h tk E' hP hC hx F N off ne => ?_
    refine wpAny_mono (turn i ys news v I oI C oC D m₂ h tk E' (by omega) hI hP hC hx F N off ne) (fun y s₂ h2 => ?_) fun _ _ e => e
    obtain ⟨h', tk', news', e1, F', N', off', hS, r⟩ := h2
    exact ⟨h', tk', news', e1, F', N', off', hS, comp_ind n Inv turn fin k (i + 1) (ys ++ [y]) news' (by omega) r⟩
end
-- part Cturned
section
theorem top_off_Cturned : True := by
  w_top off
  exact True.intro
noncomputable def downV (p : Nat) : Nat → List Int
  | 0 => []
  | n + 1 => (p : Int) :: downV (p - 1) n
noncomputable def turnedV (k p : Nat) : List (List Int) :=
  if k = 0 then (List.range p).map fun l => downV p (p - l)
  else (if k = 1 then [[(p : Int)]] else []) ++ (List.range (p - 1)).map fun (o : Nat) => [(p : Int), (o : Int) + 1]
noncomputable def RowsAre (T : List (Addr × Obj)) : List Value → List (List Int) → Prop
  | [], [] => True
  | v :: vs, r :: rs => (∃ q n us, v = .ref q ∧ (q, listOf us.toArray n) ∈ T ∧ IntsAre us r) ∧ RowsAre T vs rs
  | _, _ => False
theorem RowsAre.mono {T T' : List (Addr × Obj)} (h : ∀ p ∈ T, p ∈ T') : ∀ {vs : List Value} {rs : List (List Int)}, RowsAre T vs rs → RowsAre T' vs rs
  | [], [], _ => trivial
  | _ :: _, _ :: _, ⟨⟨q, n, us, e, hm, hi⟩, r⟩ => ⟨⟨q, n, us, e, h _ hm, hi⟩, RowsAre.mono h r⟩
  | [], _ :: _, x => x.elim
  | _ :: _, [], x => x.elim
theorem ints_of : ∀ (vs : List Value) (a c : Int) (n : Nat), vs.length = n → (∀ (j : Nat) (v : Value), vs[j]? = some v → ∃ t, v = .int (a + j * c) t) → IntsAre vs ((List.range n).map fun i => a + (i : Nat) * c)
  | [], a, c, n, e, _ => by subst e; exact IntsAre.nil
  | v :: r, a, c, n, e, h => by
    subst e
    rw [List.length_cons, List.range_succ_eq_map, List.map_cons, List.map_map]
    obtain ⟨t, ht⟩ := h 0 v rfl
    subst ht
    refine IntsAre.cons _ _ ?_
    have := ints_of r (a + c) c r.length rfl fun j v hj => by
      obtain ⟨t', ht'⟩ := h (j + 1) v hj
      refine ⟨t', ht'.trans ?_⟩
      congr 1
      push_cast
      rw [Int.add_mul]; omega
    have e2 : (List.range r.length).map (fun i : Nat => a + c + (i : Int) * c) = (List.range r.length).map ((fun i : Nat => a + (i : Int) * c) ∘ Nat.succ) := by
      refine List.map_congr_left fun i _ => ?_
      simp only [Function.comp_apply, Nat.succ_eq_add_one]
      push_cast
      rw [Int.add_mul]; omega
    rw [← e2]
    exact this
theorem list_rng {prog : Program} {w : World} {A : Around} {E : Value → Shared → Prop} {s : Shared} {h₀ : Heap} {L : Addr} {m : Str → Option Value} {Q : Value → Shared → Prop} {r : Addr} {a b c : Int} {t u v : Tok} (n : Nat) {news : List (Addr × Obj)} (hh : A.handled = none) (F : Fr h₀ L s.heap m) (N : News h₀ L s.heap news)
    (hr : IsRange s.heap r a b c t u v) (hsmall : Builtin.Range.small a b c = true) (hn : Builtin.Range.rangeSize a b c = (n : Int)) (hlen : n ≤ 2 ^ 24)
    (h : ∀ D us c' h' tk, Fr h₀ L h' m → News h₀ L h' ((D, listOf (List.toArray us) c') :: news) → (∀ p ∈ news, p.1 < D) → IntsAre us ((List.range n).map fun i => a + (i : Nat) * c) → Q (.ref D) { s with heap := h', toks := tk }) :
    wpAny (model prog w) A (call (.type "list") [.ref r]) Q E s := by
  refine call_list_range hh hr hsmall hn hlen fun h' tk acc c hk hD hI => ?_
  have hD' : h'.get? s.heap.objs.size = some (listOf (List.toArray acc.toList) c) := by
    rw [Array.toArray_toList]
    exact hD
  exact h _ acc.toList c h' tk (F.keeps hk) (news_pushed F N hk hD' rfl) (fun p hp => Heap.lt_size (N p hp).1) (ints_of _ _ _ _ (by rw [Array.length_toList]; exact hI.1) fun j v hj => hI.2 j v (by rw [← hj, Array.getElem?_toList]))
theorem pure_end {h₀ g h : Heap} {L L' : Addr} {m' : Str → Option Value} {T news : List (Addr × Obj)} (N0 : News h₀ L g news) (F : Fr g L' h m') (NT : News g L' h T) (kN : News h₀ L h T) : News h₀ L h (T ++ news) ∧ (∀ x ∈ T, ∀ y ∈ news, x.1 ≠ y.1) := by
  refine ⟨fun p hp => ?_, fun x hx y hy e => ?_⟩
  · rcases List.mem_append.mp hp with h | h
    · exact kN p h
    · exact ⟨F.keep _ _ (N0 p h).1, (N0 p h).2⟩
  · have h1 := (NT x hx).2.2
    have h2 := (N0 y hy).1
    rw [e, h2] at h1
    cases h1
theorem rows_snoc1 {T : List (Addr × Obj)} {q : Addr} {n : Nat} {us : List Value} {r : List Int} (hm : (q, listOf us.toArray n) ∈ T) (hi : IntsAre us r) : ∀ {vs : List Value} {B : List (List Int)}, RowsAre T vs B → RowsAre T (vs ++ [.ref q]) (B ++ [r])
  | [], [], _ => ⟨⟨q, n, us, rfl, hm, hi⟩, trivial⟩
  | _ :: _, _ :: _, ⟨a, x⟩ => ⟨a, rows_snoc1 hm hi x⟩
  | [], _ :: _, x => x.elim
  | _ :: _, [], x => x.elim
theorem rng_fin : ∀ (p : Fin 6) (i : Fin 6), i.val < p.val → Builtin.Range.small (p.val : Int) (0 + (i.val : Int)) (-1) = true ∧ Builtin.Range.rangeSize (p.val : Int) (0 + (i.val : Int)) (-1) = ((p.val - i.val : Nat) : Int) := by decide +kernel
theorem rng_dn {p : Int} (hp : ((p.toNat : Nat) : Int) = p) (h6 : p < 6) {i : Nat} (hi : i < p.toNat) : Builtin.Range.small p (0 + (i : Int)) (-1) = true ∧ Builtin.Range.rangeSize p (0 + (i : Int)) (-1) = ((p.toNat - i : Nat) : Int) := by
  have h := rng_fin ⟨p.toNat, by omega⟩ ⟨i, by omega⟩ hi
  dsimp only at h
  rwa [hp] at h
theorem downV_eq : ∀ (n p : Nat), n ≤ p → (List.range n).map (fun j : Nat => (p : Int) + (j : Int) * (-1)) = downV p n
  | 0, _, _ => rfl
  | n + 1, p, h => by
    rw [List.range_succ_eq_map, List.map_cons, List.map_map]
    show _ = (p : Int) :: downV (p - 1) n
    rw [← downV_eq n (p - 1) (by omega)]
    refine congr (congrArg List.cons (by simp)) (List.map_congr_left fun j _ => ?_)
    simp only [Function.comp_apply, Nat.succ_eq_add_one]
    push_cast
    omega
theorem rows_nth {T : List (Addr × Obj)} : ∀ {vs : List Value} {B : List (List Int)}, RowsAre T vs B → vs.length = B.length
  | [], [], _ => rfl
  | _ :: _, _ :: _, ⟨_, x⟩ => congrArg (· + 1) (rows_nth x)
  | [], _ :: _, x => x.elim
  | _ :: _, [], x => x.elim
noncomputable def RInv (cell : Addr × Obj) (f : Nat → List Int) (i : Nat) (ys : List Value) (news : List (Addr × Obj)) : Prop :=
  ∃ T, news = cell :: T ∧ RowsAre T ys ((List.range i).map f)
theorem RInv.dest {cell : Addr × Obj} {f : Nat → List Int} {i : Nat} {ys : List Value} {news : List (Addr × Obj)} (h : RInv cell f i ys news) : ∃ T, news = cell :: T ∧ RowsAre T ys ((List.range i).map f) := h
theorem RInv.zero {cell : Addr × Obj} {f : Nat → List Int} : RInv cell f 0 [] [cell] := ⟨[], rfl, trivial⟩
theorem RInv.step {cell : Addr × Obj} {f : Nat → List Int} {i : Nat} {ys : List Value} {T : List (Addr × Obj)} {q : Addr} {n : Nat} {us : List Value} (h : RowsAre T ys ((List.range i).map f)) (hi : IntsAre us (f i)) :
    RInv cell f (i + 1) (ys ++ [.ref q]) (cell :: (q, listOf us.toArray n) :: T) := by
  refine ⟨_, rfl, ?_⟩
  rw [List.range_succ, List.map_append]
  exact rows_snoc1 List.mem_cons_self hi (h.mono fun p hp => List.mem_cons_of_mem _ hp)
theorem sub_comp1 {α : Type} {I C D c q : α} {T : List α} : ∀ p ∈ I :: C :: D :: c :: q :: T, p ∈ q :: I :: C :: D :: c :: T := by
  intro p hp
  simp only [List.mem_cons] at hp ⊢
  rcases hp with h | h | h | h | h | h <;> simp [h]
theorem off3_in1 {I C D : Addr} {c q : Addr × Obj} {T : List (Addr × Obj)} (h : LCg.Off3 I C D (c :: T)) (h1 : I < q.1) (h2 : C < q.1) (h3 : D < q.1) : LCg.Off3 I C D (c :: q :: T) := ⟨h.1, ⟨Nat.ne_of_gt h1, Nat.ne_of_gt h2, Nat.ne_of_gt h3⟩, h.2⟩
theorem turned_cs (w : World) (k p : Int) (t1 t2 : Tok) (hk0 : 0 ≤ k) (hk3 : k < 3) (hp0 : 0 < p) (hp6 : p < 6) (news : List (Addr × Obj)) : CS w (hd.heap_39 w.params) 178 3 [.int k t1, .int p t2] news (fun r n => ∃ q vs nn T, r = .ref q ∧ n = T ++ news ∧ (q, listOf vs.toArray nn) ∈ T ∧ RowsAre T vs (turnedV k.toNat p.toNat) ∧ (∀ x ∈ T, ∀ y ∈ news, x.1 ≠ y.1)) := by
  unfold CS
  k_fill
  intro mean mg mb dp un gd cn cs a ccd cl outer A₀ base h₀ L m s Q E B F X N T hk hd hu hret
  refine wpAny_call ?_
  k_dflt (refine' code_defP1 [(Str.ofString "kind", .int k t1), (Str.ofString "place", .int p t2)] (Str.ofString "place") (some (.int p t2)) (fun y => if y = Str.ofString "kind" then some (.int k t1) else none) ?k1 ?k2 ?k3 ?k4 ?k5 ?kA ?kF ?kK ?k6 ?k7 ?k8 ?k9 ?kB ?kD ?kc ?km ?kv ?_ ?c2 ?c3 ?c4; (case kA => exact rfl); (case kF => exact rfl); (case kK => assumption); (case k1 => k_asm); (case k2 => k_asm); (case k3 => k_asm); (case k4 => k_asm); (case k5 => k_asm); (case k6 => k_is); (case k7 => k_is); (case k8 => ktr_room); (case k9 => exact BindsTo.of_eq rfl); (case kB => exact rfl); (case kD => decide +kernel); (case kc => intro l; exact rfl); (case km => intro L'; exact rfl); (case kv => intro L'; exact rfl); (case c2 => exact rfl); (case c3 => exact rfl); (case c4 => exact rfl); k_whole)
  intro g0 L0 h0 tk0 o0 N0 lt0 FG' F9 N' d1' B' X' T'
  (try dsimp only)
  (try k_fold)
  k_with_none
  k_with "k_mem" => first | exact (by with_reducible assumption) | exact (List.mem_cons_of_mem _ (by with_reducible assumption)) | exact (List.mem_cons_of_mem _ (List.mem_cons_of_mem _ (by with_reducible assumption))) | exact (List.mem_cons_of_mem _ (List.mem_cons_of_mem _ (List.mem_cons_of_mem _ (by with_reducible assumption)))) | exact (List.mem_cons_of_mem _ (List.mem_cons_of_mem _ (List.mem_cons_of_mem _ (List.mem_cons_of_mem _ (by with_reducible assumption)))))
  k_with "pj" => first | with_reducible assumption | exact pj0 (by with_reducible assumption) | exact pj1 (by with_reducible assumption) | exact pj2 (by with_reducible assumption) | exact pj3 (by with_reducible assumption) | exact pj4 (by with_reducible assumption) | exact pj5 (by with_reducible assumption) | exact pj6 (by with_reducible assumption) | exact pj7 (by with_reducible assumption) | exact pj8 (by with_reducible assumption) | exact pj9 (by with_reducible assumption) | exact pj10 (by with_reducible assumption) | exact pj11 (by with_reducible assumption) | exact pj12 (by with_reducible assumption) | exact pj13 (by with_reducible assumption) | exact pj14 (by with_reducible assumption) | exact pj15 (by with_reducible assumption) | exact pj16 (by with_reducible assumption) | exact pj17 (by with_reducible assumption) | exact pj18 (by with_reducible assumption) | exact pj19 (by with_reducible assumption) | exact pj20 (by with_reducible assumption) | exact pj21 (by with_reducible assumption) | exact pj22 (by with_reducible assumption) | exact pj23 (by with_reducible assumption) | exact pj24 (by with_reducible assumption)
  k_with "pj2" => first | exact ltR (by k_extra "lt") | exact ltL (k := 4) (by k_extra "lt") (Nat.le_of_ble_eq_true rfl) | exact ltLR (k := 4) (by k_extra "lt") (Nat.le_of_ble_eq_true rfl) | exact ltR (by k_extra "pj") | exact ltL (k := 4) (by k_extra "pj") (Nat.le_of_ble_eq_true rfl) | exact ltLR (k := 4) (by k_extra "pj") (Nat.le_of_ble_eq_true rfl)
  k_with "lt" => first | with_reducible assumption | exact ltOf (by with_reducible assumption) (by k_mem)
  k_with "k_ne" => (refine neN ?_; (try dsimp only); first | exact neK rfl | exact neK0 rfl | exact neK1 rfl | exact Nat.ne_of_lt (by k_extra "lt") | exact Nat.ne_of_gt (by k_extra "lt") | exact Nat.ne_of_lt (by k_extra "pj") | exact Nat.ne_of_gt (by k_extra "pj") | exact Nat.ne_of_lt (by k_extra "pj2") | exact Nat.ne_of_gt (by k_extra "pj2") | k_extra "pj" | k_extra "pq" | exact Ne.symm (by k_extra "pj") | omega)
  k_with "mb" => first | with_reducible exact incM | with_reducible assumption | (with_reducible refine incMT ?_; k_extra "mb") | (with_reducible refine incML ?_; k_extra "mb") | (with_reducible refine incMR ?_; k_extra "mb")
  k_with "sbl" => first | with_reducible exact incI | (with_reducible refine incT ?_; k_extra "sbl") | (with_reducible refine incL ?_; k_extra "sbl") | (with_reducible refine incR ?_; k_extra "sbl")
  k_with "sb" => first | with_reducible exact incI | with_reducible exact incN | (with_reducible refine' incC ?m9 ?r9; (case m9 => k_extra "mb"); (case r9 => k_extra "sb")) | (k_extra "sbl") | (with_reducible refine incA ?_ ?_ <;> k_extra "sb")
  k_with "mg" => first | with_reducible exact List.mem_cons_self | (with_reducible refine List.mem_cons_of_mem _ ?_; k_extra "mg")
  k_with "ne1" => first | exact h1 | exact neP h2 (by k_extra "mg") | exact neC h3 (by k_extra "mg") | fail "ne1"
  k_with "nc" => with_reducible first | exact h3 | exact ncN | (refine' ncC ?b9 ?q9; (case b9 => k_extra "ne1"); (case q9 => k_extra "nc")) | fail "nc"
  k_with "sm" => with_reducible first | rfl | (refine' sm1 ?a9 ?r9; (case a9 => k_extra "ne1"); (case r9 => k_extra "sm")) | (refine' sm2 ?h9 ?r9; (case h9 => k_extra "nc"); (case r9 => k_extra "sm")) | (refine sm3 h2 ?_; k_extra "sm") | fail "sm"
  k_with "rm" => first | exact ltA0 (by with_reducible assumption) | exact ltA1 (by with_reducible assumption) (Nat.le_of_ble_eq_true rfl) | exact ltA2 (by with_reducible assumption) (Nat.le_of_ble_eq_true rfl) | exact ltA3 (by with_reducible assumption) (Nat.le_of_ble_eq_true rfl)
  k_with "sz" => first | with_reducible assumption | with_reducible exact Nat.le_of_ble_eq_true (Eq.refl true)
  have hp9 : ((p.toNat : Nat) : Int) = p := by omega
  k_with "my eval ListComp" => (k_here; k_dflt (refine LCg.ListComp_U (F₀ := by k_asm) (by with_unfolding_all rfl) (by decide) (by rfl) (by decide) (by rfl) ?_); k_dflt lcg_toSrc)
  k_with "my exec Assign cons ListComp" => (k_here; k_dflt (refine LCg.Assign_ListComp_U (F₀ := by k_asm) (by rfl) (by with_unfolding_all rfl) (by with_unfolding_all rfl) (by decide) (by rfl) (by decide) (by rfl) (by rfl) (by rfl) ?_); k_dflt lcg_toSrc)
  k_with "my CompSrc" => first
    | (k_here
       k_dflt (refine LCg.CompSrc.range (n := p.toNat) (by rfl) (by k_asm) (by k_asm) (by assumption) (small_one (by decide) (by decide) (by omega) (by omega)) (by rw [rangeSize_nat, Int.sub_zero]; done) (by simp only [PySem.sizeLine_eq]; omega) ?_)
       intro g'
       refine comp_ind p.toNat (RInv (L0 + 1, o0) (fun l => downV p.toNat (p.toNat - l))) ?_ ?_ _ 0 [] _ (by omega) RInv.zero
       all_goals first
         | (intro i ys news9 v I oI C oC D m₂ h9 tk9 E9 hi9 hI9 hP9 hC9 hx9 F9 N9 off9 ne9
            obtain ⟨T9, rfl, hR9⟩ := hI9.dest
            obtain ⟨t9, rfl⟩ := hP9
            (try dsimp only)
            (try k_fold))
         | (intro ys news9 hI9
            obtain ⟨T9, rfl, hR9⟩ := hI9.dest
            (try dsimp only)
            (try k_fold)))
    | (k_here
       k_dflt (refine LCg.CompSrc.range (n := (p - 1).toNat) (by rfl) (by k_asm) (by k_asm) (by assumption) (small_one (by decide) (by decide) (by omega) (by omega)) (by rw [rangeSize_nat]) (by simp only [PySem.sizeLine_eq]; omega) ?_)
       intro g'
       refine comp_ind (p - 1).toNat (RInv (L0 + 1, o0) (fun o => [(p.toNat : Int), (o : Int) + 1])) ?_ ?_ _ 0 [] _ (by omega) RInv.zero
       all_goals first
         | (intro i ys news9 v I oI C oC D m₂ h9 tk9 E9 hi9 hI9 hP9 hC9 hx9 F9 N9 off9 ne9
            obtain ⟨T9, rfl, hR9⟩ := hI9.dest
            obtain ⟨t9, rfl⟩ := hP9
            (try dsimp only)
            (try k_fold))
         | (intro ys news9 hI9
            obtain ⟨T9, rfl, hR9⟩ := hI9.dest
            (try dsimp only)
            (try k_fold)))
  k_with "my eval Name" => (k_here; (with_reducible show wpAny _ _ (eval (Expr.Name _ _) (compEnvC _ _ _ _)) _ _ _); k_dflt (first | refine LCgL.ld_own (by k_asm) (by k_mem) (by assumption) (by with_reducible assumption) ?_ | (refine' lcf_cell ?N ?c ?m ?d ?_ ?a ?b; (case a => rfl); (case b => rfl); (case N => k_asm); (case c => rfl); (case m => k_mem); (case d => k_asm); k_whole) | refine LCgL.ld_built (by k_asm) (by k_asm) (by k_asm) (by k_is) (by boot_by_name) (by decide) ?_ | refine LCgL.ld_global (by k_asm) (by k_asm) (by k_asm) (by k_is) ?_))
  k_with "my call type:list" => (k_here; (with_reducible show wpAny _ _ (call (Value.type "list") [Value.ref _]) _ _ _); rename IsRange _ _ _ _ _ _ _ _ => rgX; (with_unfolding_all refine' list_rng (p.toNat - i) (by rfl) (by k_asm) (by k_asm) rgX (rng_dn hp9 hp6 hi9).1 (rng_dn hp9 hp6 hi9).2 (by omega) ?_); intro D8 us8 c8 h8 tk8 F8 N8 l8 hJ8)
  k_with "my CompEnd" => first
    | (have hJ7 : IntsAre us8 (downV p.toNat (p.toNat - i)) := by
         rw [← downV_eq (p.toNat - i) p.toNat (by omega), hp9]; exact hJ8
       refine LCg.CompEnd.intro (by k_asm) (by k_asm) ((L0 + 1, o0) :: (D8, _) :: T9) ?s9 ?o9 trivial (RInv.step (n := c8) hR9 hJ7)
       (case s9 => exact sub_comp1)
       (case o9 => exact off3_in1 off9 (l8 (I, oI) List.mem_cons_self) (l8 (C, oC) (List.mem_cons_of_mem _ List.mem_cons_self)) (l8 (D, _) (List.mem_cons_of_mem _ (List.mem_cons_of_mem _ List.mem_cons_self)))))
    | (rename News g0 L0 _ _ => N8
       rename ∀ (p : Addr × Obj), p ∈ _ → p.1 < _ => l8
       have hJ7 : IntsAre [Value.int p t2, Value.int (1 + (i : Int)) t9] [(p.toNat : Int), (i : Int) + 1] := by
         rw [hp9, Int.add_comm (i : Int) 1]; exact .cons _ _ (.cons _ _ .nil)
       refine LCg.CompEnd.intro (by k_asm) N8 ((L0 + 1, o0) :: (_, _) :: T9) ?s9 ?o9 trivial (RInv.step (n := 0) hR9 hJ7)
       (case s9 => exact sub_comp1)
       (case o9 => exact off3_in1 off9 (l8 (I, oI) List.mem_cons_self) (l8 (C, oC) (List.mem_cons_of_mem _ List.mem_cons_self)) (l8 (D, _) (List.mem_cons_of_mem _ (List.mem_cons_of_mem _ List.mem_cons_self)))))
  k_with "my binaryOp Add ref ref" => (k_here; (k_dflt (refine' cat_lists ?F ?N List.mem_cons_self (List.mem_cons_of_mem _ (List.mem_cons_of_mem _ List.mem_cons_self)) ?z ?_; (case F => k_asm); (case N => k_asm); (case z => (rw [rows_nth hR9]; simp; omega)))); intro d8 h8 F8 N8 l8; (try dsimp only); (try k_fold))
  have ek : k = 0 ∨ k = 1 ∨ k = 2 := by omega
  rcases ek with rfl | rfl | rfl
  all_goals clear hk0 hk3
  rotate_left 1
  repeat' (first | (k_unfold; (try dsimp only)) | (k_end; wrow_close) | ((with_reducible show wpAny _ _ (execs (_ :: _) _) _ _ _); dsimp only; walk1) | walk1 | (dsimp only; walk1) | (leave1; walk_say "STEP leave1"; try dsimp only) | fail "no step")
  all_goals
    rename News g0 L0 _ _ => NT
    rename News h₀ L _ _ => kN
    rename Fr g0 L0 _ _ => FT
    obtain ⟨z1, z2⟩ := pure_end N0 FT NT kN
    refine hret _ _ _ _ (by k_asm) z1 ⟨_, _, _, _, rfl, rfl, List.mem_cons_self, ?_, z2⟩
    have e9 : (p - 1).toNat = p.toNat - 1 := by omega
    first
      | exact hR9.mono fun x hx => List.mem_cons_of_mem _ (List.mem_cons_of_mem _ hx)
      | (rw [e9] at hR9; exact hR9.mono fun x hx => List.mem_cons_of_mem _ (List.mem_cons_of_mem _ hx))
      | (rw [e9] at hR9; exact ⟨⟨_, _, _, rfl, by k_mem, by rw [hp9]; exact .cons _ _ .nil⟩, hR9.mono fun x hx => by k_mem⟩)
      | fail "no end"
end
-- part Bplain
section
theorem top_off_Bplain : True := by
  w_top off
  exact True.intro
noncomputable def cellO (B : List (List Int)) (r c : Int) : Option Int := if 0 ≤ r ∧ r < 100 ∧ 0 ≤ c ∧ c < 100 then (B[r.toNat]?).bind (·[c.toNat]?) else none
noncomputable def colO (B : List (List Int)) (r : Int) : List Int → Int → Option Int
  | [], w => some w
  | c :: cs, w => (cellO B r c).bind fun v => colO B r cs (Builtin.bitXor w v)
noncomputable def rowO (B : List (List Int)) (cs : List Int) : List Int → Int → Option Int
  | [], w => some w
  | r :: rs, w => (colO B r cs w).bind (rowO B cs rs)
noncomputable def colsO (B : List (List Int)) (rs : List Int) : List (List Int) → List Int → Option (List Int)
  | [], l => some l
  | cs :: css, l => (rowO B cs rs 0).bind fun w => if l.length < 100 then colsO B rs css (l ++ [w]) else none
noncomputable def rowsO (B : List (List Int)) (css : List (List Int)) : List (List Int) → List Int → Option (List Int)
  | [], l => some l
  | rs :: rss, l => (colsO B rs css l).bind (rowsO B css rss)
noncomputable def mexO : Nat → List Int → Int → Option Int
  | 0, _, _ => none
  | n + 1, l, k => if l.any (· == k) then mexO n l (k + 1) else some k
noncomputable def setO (B : List (List Int)) (x y v : Int) : Option (List (List Int)) :=
  if 0 ≤ x ∧ x < 100 ∧ 0 ≤ y ∧ y < 100 then (B[x.toNat]?).bind fun r => if y < r.length then some (B.set x.toNat (r.set y.toNat v)) else none else none
noncomputable def boardO (k0 k1 wi : Int) : Nat → Int → List (List Int) → Option (List (List Int))
  | 0, _, B => some B
  | n + 1, p, B =>
    let x := p.fdiv wi + 1
    let y := p.fmod wi + 1
    if 0 < x ∧ x < 6 ∧ 0 < y ∧ y < 6 then
      (rowsO B (turnedV k1.toNat y.toNat) (turnedV k0.toNat x.toNat) []).bind fun l => (mexO 40 l 0).bind fun v => (setO B x y v).bind fun B' => boardO k0 k1 wi n (p + 1) B'
    else none
theorem drop_get {α : Type} {l : List α} {i : Nat} {x : α} (h : l[i]? = some x) : l.drop i = x :: l.drop (i + 1) := by
  obtain ⟨hi, e⟩ := List.getElem?_eq_some_iff.mp h
  rw [List.drop_eq_getElem_cons hi, e]
theorem ints_get : ∀ {us : List Value} {ns : List Int}, IntsAre us ns → ∀ {i : Nat} {v : Value}, us[i]? = some v → ∃ x t, v = .int x t ∧ ns[i]? = some x
  | _, _, .nil, i, v, h => by simp at h
  | _, _, .cons n t r, 0, v, h => by simp at h; exact ⟨n, t, h.symm, rfl⟩
  | _, _, .cons n t r, i + 1, v, h => ints_get r (i := i) (by simpa using h)
theorem ints_get2 : ∀ {us : List Value} {ns : List Int}, IntsAre us ns → ∀ {i : Nat} {x : Int}, ns[i]? = some x → ∃ t, us[i]? = some (.int x t)
  | _, _, .nil, i, v, h => by simp at h
  | _, _, .cons n t r, 0, v, h => by simp at h; subst h; exact ⟨t, rfl⟩
  | _, _, .cons n t r, i + 1, v, h => ints_get2 r (i := i) (by simpa using h)
theorem rows_get {T : List (Addr × Obj)} : ∀ {vs : List Value} {B : List (List Int)}, RowsAre T vs B → ∀ {i : Nat} {v : Value}, vs[i]? = some v → ∃ (q : Addr) (n : Nat) (us : List Value) (r : List Int), v = .ref q ∧ (q, listOf us.toArray n) ∈ T ∧ IntsAre us r ∧ B[i]? = some r
  | [], [], _, i, v, h => by simp at h
  | v' :: vs, r :: rs, ⟨⟨q, n, us, e, hm, hi⟩, x⟩, 0, v, h => by simp at h; subst h; exact ⟨q, n, us, r, e, hm, hi, rfl⟩
  | v' :: vs, r :: rs, ⟨_, x⟩, i + 1, v, h => rows_get x (i := i) (by simpa using h)
  | [], _ :: _, x, _, _, _ => x.elim
  | _ :: _, [], x, _, _, _ => x.elim
theorem rows_get2 {T : List (Addr × Obj)} : ∀ {vs : List Value} {B : List (List Int)}, RowsAre T vs B → ∀ {i : Nat} {r : List Int}, B[i]? = some r → ∃ (q : Addr) (n : Nat) (us : List Value), vs[i]? = some (.ref q) ∧ (q, listOf us.toArray n) ∈ T ∧ IntsAre us r
  | [], [], _, i, v, h => by simp at h
  | v' :: vs, r' :: rs, ⟨⟨q, n, us, e, hm, hi⟩, x⟩, 0, r, h => by simp at h; subst h; exact ⟨q, n, us, by rw [e]; rfl, hm, hi⟩
  | v' :: vs, r' :: rs, ⟨_, x⟩, i + 1, r, h => rows_get2 x (i := i) (by simpa using h)
  | [], _ :: _, x, _, _, _ => x.elim
  | _ :: _, [], x, _, _, _ => x.elim
theorem rows_len {T : List (Addr × Obj)} : ∀ {vs : List Value} {B : List (List Int)}, RowsAre T vs B → vs.length = B.length
  | [], [], _ => rfl
  | v' :: vs, r :: rs, ⟨_, x⟩ => by simp [rows_len x]
  | [], _ :: _, x => x.elim
  | _ :: _, [], x => x.elim
theorem cellO_some {B : List (List Int)} {r c v : Int} (h : cellO B r c = some v) : 0 ≤ r ∧ r < 2 ^ 63 ∧ 0 ≤ c ∧ c < 2 ^ 63 ∧ ∃ rr, B[r.toNat]? = some rr ∧ rr[c.toNat]? = some v := by
  unfold cellO at h
  split at h
  · rename_i hb
    cases e : B[r.toNat]? with
    | none => rw [e] at h; cases h
    | some rr => rw [e] at h; exact ⟨by omega, by omega, by omega, by omega, rr, rfl, h⟩
  · cases h
theorem cell_at {T : List (Addr × Obj)} {vs : List Value} {B : List (List Int)} {r c v : Int} (hR : RowsAre T vs B) (h : cellO B r c = some v) :
    0 ≤ r ∧ r < 2 ^ 63 ∧ 0 ≤ c ∧ c < 2 ^ 63 ∧ ∃ (q : Addr) (n : Nat) (us : List Value) (t : Tok), vs[r.toNat]? = some (.ref q) ∧ (q, listOf us.toArray n) ∈ T ∧ us[c.toNat]? = some (.int v t) := by
  obtain ⟨h1, h2, h3, h4, rr, h5, h6⟩ := cellO_some h
  obtain ⟨q, n, us, h7, h8, h9⟩ := rows_get2 hR h5
  obtain ⟨t, h10⟩ := ints_get2 h9 h6
  exact ⟨h1, h2, h3, h4, q, n, us, t, h7, h8, h10⟩
theorem col_step {B : List (List Int)} {r w W : Int} {us : List Value} {cs : List Int} {i : Nat} {v : Value} (hi : IntsAre us cs) (hv : us[i]? = some v) (h : colO B r (cs.drop i) w = some W) :
    ∃ c t x, v = .int c t ∧ cellO B r c = some x ∧ colO B r (cs.drop (i + 1)) (Builtin.bitXor w x) = some W := by
  obtain ⟨c, t, rfl, e⟩ := ints_get hi hv
  rw [drop_get e] at h
  simp only [colO] at h
  cases e2 : cellO B r c with
  | none => rw [e2] at h; cases h
  | some x => rw [e2] at h; exact ⟨c, t, x, rfl, e2, h⟩
theorem row_step {B : List (List Int)} {cs : List Int} {w W : Int} {us : List Value} {rs : List Int} {i : Nat} {v : Value} (hi : IntsAre us rs) (hv : us[i]? = some v) (h : rowO B cs (rs.drop i) w = some W) :
    ∃ r t x, v = .int r t ∧ colO B r cs w = some x ∧ rowO B cs (rs.drop (i + 1)) x = some W := by
  obtain ⟨r, t, rfl, e⟩ := ints_get hi hv
  rw [drop_get e] at h
  simp only [rowO] at h
  cases e2 : colO B r cs w with
  | none => rw [e2] at h; cases h
  | some x => rw [e2] at h; exact ⟨r, t, x, rfl, e2, h⟩
theorem cols_step {B : List (List Int)} {rs : List Int} {css : List (List Int)} {l f : List Int} {T : List (Addr × Obj)} {vs : List Value} {i : Nat} {v : Value} (hR : RowsAre T vs css) (hv : vs[i]? = some v) (h : colsO B rs (css.drop i) l = some f) :
    ∃ (q : Addr) (n : Nat) (us : List Value) (cs : List Int) (W : Int), v = .ref q ∧ (q, listOf us.toArray n) ∈ T ∧ IntsAre us cs ∧ rowO B cs rs 0 = some W ∧ l.length < 100 ∧ colsO B rs (css.drop (i + 1)) (l ++ [W]) = some f := by
  obtain ⟨q, n, us, cs, rfl, hm, hi, e⟩ := rows_get hR hv
  rw [drop_get e] at h
  simp only [colsO] at h
  cases e2 : rowO B cs rs 0 with
  | none => rw [e2] at h; cases h
  | some W =>
    rw [e2] at h
    simp only [Option.bind_some] at h
    split at h
    · exact ⟨q, n, us, cs, W, rfl, hm, hi, e2, by assumption, h⟩
    · cases h
theorem rows_step {B : List (List Int)} {css rss : List (List Int)} {l f : List Int} {T : List (Addr × Obj)} {vs : List Value} {i : Nat} {v : Value} (hR : RowsAre T vs rss) (hv : vs[i]? = some v) (h : rowsO B css (rss.drop i) l = some f) :
    ∃ (q : Addr) (n : Nat) (us : List Value) (rs l' : List Int), v = .ref q ∧ (q, listOf us.toArray n) ∈ T ∧ IntsAre us rs ∧ colsO B rs css l = some l' ∧ rowsO B css (rss.drop (i + 1)) l' = some f := by
  obtain ⟨q, n, us, rs, rfl, hm, hi, e⟩ := rows_get hR hv
  rw [drop_get e] at h
  simp only [rowsO] at h
  cases e2 : colsO B rs css l with
  | none => rw [e2] at h; cases h
  | some l' => rw [e2] at h; exact ⟨q, n, us, rs, l', rfl, hm, hi, e2, h⟩
theorem mex_step {n : Nat} {l : List Int} {k v : Int} (h : mexO n l k = some v) : ∃ m, n = m + 1 ∧ ((l.any (· == k) = true ∧ mexO m l (k + 1) = some v) ∨ (l.any (· == k) = false ∧ v = k)) := by
  cases n with
  | zero => cases h
  | succ m =>
    refine ⟨m, rfl, ?_⟩
    unfold mexO at h
    split at h
    · exact .inl ⟨by assumption, h⟩
    · rename_i hn
      cases h
      exact .inr ⟨Bool.eq_false_iff.mpr hn, rfl⟩
theorem board_step {k0 k1 wi : Int} {n : Nat} {p : Int} {B F : List (List Int)} (h : boardO k0 k1 wi (n + 1) p B = some F) :
    ∃ l v B', 0 < p.fdiv wi + 1 ∧ p.fdiv wi + 1 < 6 ∧ 0 < p.fmod wi + 1 ∧ p.fmod wi + 1 < 6 ∧ rowsO B (turnedV k1.toNat (p.fmod wi + 1).toNat) (turnedV k0.toNat (p.fdiv wi + 1).toNat) [] = some l ∧ mexO 40 l 0 = some v ∧ setO B (p.fdiv wi + 1) (p.fmod wi + 1) v = some B' ∧ boardO k0 k1 wi n (p + 1) B' = some F := by
  simp only [boardO] at h
  split at h
  · rename_i hb
    obtain ⟨l, h1, h⟩ := Option.bind_eq_some_iff.mp h
    obtain ⟨v, h2, h⟩ := Option.bind_eq_some_iff.mp h
    obtain ⟨B', h3, h⟩ := Option.bind_eq_some_iff.mp h
    exact ⟨l, v, B', hb.1, hb.2.1, hb.2.2.1, hb.2.2.2, h1, h2, h3, h⟩
  · cases h
theorem upd_nodup {a : Addr} {o o' : Obj} : ∀ {T : List (Addr × Obj)}, (a, o) ∈ T → (T.map (·.1)).Nodup → ∃ T', Upd a o o' T T' ∧ T'.map (·.1) = T.map (·.1) ∧ (a, o') ∈ T' ∧ ∀ p ∈ T, p.1 ≠ a → p ∈ T'
  | [], h, _ => nomatch h
  | p :: T, h, hn => by
    rw [List.map_cons, List.nodup_cons] at hn
    by_cases e : p.1 = a
    · have hp : p = (a, o) := by
        rcases List.mem_cons.mp h with h | h
        · exact h.symm
        · exact absurd (List.mem_map.mpr ⟨(a, o), h, e.symm⟩) hn.1
      subst hp
      refine ⟨(a, o') :: T, Upd.head fun x hx e' => hn.1 (List.mem_map.mpr ⟨x, hx, e'⟩), rfl, List.mem_cons_self, fun q hq hne => ?_⟩
      rcases List.mem_cons.mp hq with rfl | hq
      · exact absurd rfl hne
      · exact List.mem_cons_of_mem _ hq
    · have hm : (a, o) ∈ T := by
        rcases List.mem_cons.mp h with h | h
        · exact absurd (by rw [← h]) e
        · exact h
      obtain ⟨T', U, e1, e2, e3⟩ := upd_nodup (o' := o') hm hn.2
      refine ⟨p :: T', Upd.tail e U, by rw [List.map_cons, List.map_cons, e1], List.mem_cons_of_mem _ e2, fun q hq hne => ?_⟩
      rcases List.mem_cons.mp hq with rfl | hq
      · exact List.mem_cons_self
      · exact List.mem_cons_of_mem _ (e3 q hq hne)
theorem rows_same {T T' : List (Addr × Obj)} {a : Addr} (hk : ∀ p ∈ T, p.1 ≠ a → p ∈ T') : ∀ {vs : List Value} {B : List (List Int)}, Value.ref a ∉ vs → RowsAre T vs B → RowsAre T' vs B
  | [], [], _, _ => trivial
  | v' :: vs, r :: rs, hn, ⟨⟨q, n, us, e, hm, hi⟩, x⟩ => by
    subst e
    exact ⟨⟨q, n, us, rfl, hk _ hm (fun e' => hn (by rw [← e']; exact List.mem_cons_self)), hi⟩, rows_same hk (fun h => hn (List.mem_cons_of_mem _ h)) x⟩
  | [], _ :: _, _, x => x.elim
  | _ :: _, [], _, x => x.elim
theorem rows_set {T T' : List (Addr × Obj)} {a : Addr} {n : Nat} {us' : List Value} {r' : List Int} (hk : ∀ p ∈ T, p.1 ≠ a → p ∈ T') (hm' : (a, listOf us'.toArray n) ∈ T') (hi' : IntsAre us' r') : ∀ {vs : List Value} {B : List (List Int)} {i : Nat}, vs.Nodup → vs[i]? = some (.ref a) → RowsAre T vs B → RowsAre T' vs (B.set i r')
  | [], [], i, _, h, _ => by simp at h
  | v' :: vs, r :: rs, 0, hn, h, ⟨_, x⟩ => by
    simp at h
    subst h
    exact ⟨⟨a, n, us', rfl, hm', hi'⟩, rows_same hk (List.nodup_cons.mp hn).1 x⟩
  | v' :: vs, r :: rs, i + 1, hn, h, ⟨⟨q, n, us, e, hm, hi⟩, x⟩ => by
    have h' : vs[i]? = some (.ref a) := by simpa using h
    refine ⟨⟨q, n, us, e, hk _ hm fun e' => ?_, hi⟩, rows_set hk hm' hi' (List.nodup_cons.mp hn).2 h' x⟩
    have e' : q = a := e'
    subst e' e
    exact (List.nodup_cons.mp hn).1 (List.mem_of_getElem? h')
  | [], _ :: _, _, _, _, x => x.elim
  | _ :: _, [], _, _, _, x => x.elim
structure BdAt (T : List (Addr × Obj)) (b : Addr) (vs : List Value) (nb : Nat) (B : List (List Int)) : Prop where
  mem : (b, listOf vs.toArray nb) ∈ T
  rows : RowsAre T vs B
  nd : (T.map (·.1)).Nodup
  vnd : vs.Nodup
  off : Value.ref b ∉ vs
theorem BdAt.upd {T : List (Addr × Obj)} {b : Addr} {vs : List Value} {nb : Nat} {B B' : List (List Int)} {x y v : Int} (h : BdAt T b vs nb B) (hs : setO B x y v = some B') :
    0 ≤ x ∧ x < 2 ^ 63 ∧ 0 ≤ y ∧ y < 2 ^ 63 ∧ ∃ (q : Addr) (n : Nat) (us : List Value) (r : List Int), vs[x.toNat]? = some (.ref q) ∧ (q, listOf us.toArray n) ∈ T ∧ IntsAre us r ∧ y < r.length ∧ ∀ t, ∃ T', Upd q (listOf us.toArray n) (listOf (us.set y.toNat (.int v t)).toArray n) T T' ∧ T'.map (·.1) = T.map (·.1) ∧ BdAt T' b vs nb B' := by
  unfold setO at hs
  split at hs
  · rename_i hb
    cases e : B[x.toNat]? with
    | none => rw [e] at hs; cases hs
    | some r =>
      rw [e] at hs
      simp only [Option.bind_some] at hs
      split at hs
      · rename_i hy
        cases hs
        obtain ⟨q, n, us, h1, h2, h3⟩ := rows_get2 h.rows e
        refine ⟨by omega, by omega, by omega, by omega, q, n, us, r, h1, h2, h3, hy, fun t => ?_⟩
        obtain ⟨T', U, e1, e2, e3⟩ := upd_nodup (o' := listOf (us.set y.toNat (.int v t)).toArray n) h2 h.nd
        refine ⟨T', U, e1, e3 _ h.mem fun e' => ?_, rows_set e3 e2 (ints_set h3 _) h.vnd h1 h.rows, by rw [e1]; exact h.nd, h.vnd, h.off⟩
        have e' : b = q := e'
        subst e'
        exact h.off (List.mem_of_getElem? h1)
      · cases hs
  · cases hs
end
-- part Cboard
section
theorem top_off_Cboard : True := by
  w_top off
  exact True.intro
theorem flat_one {α : Type} (x : α) : ∀ n : Nat, (List.replicate n [x]).flatten = List.replicate n x
  | 0 => rfl
  | n + 1 => by rw [List.replicate_succ, List.replicate_succ, List.flatten_cons, flat_one x n]; rfl
theorem ints_repl (x : Int) (t : Tok) : ∀ n : Nat, IntsAre (List.replicate n (.int x t)) (List.replicate n x)
  | 0 => .nil
  | n + 1 => by rw [List.replicate_succ, List.replicate_succ]; exact .cons _ _ (ints_repl x t n)
noncomputable def ZInv (cell : Addr × Obj) (z : List Int) (i : Nat) (ys : List Value) (news : List (Addr × Obj)) : Prop :=
  ∃ T, news = cell :: T ∧ RowsAre T ys (List.replicate i z) ∧ (T.map (·.1)).Nodup ∧ ys.Nodup ∧ ∀ p ∈ T, p.1 ≠ cell.1
theorem ZInv.dest {cell : Addr × Obj} {z : List Int} {i : Nat} {ys : List Value} {news : List (Addr × Obj)} (h : ZInv cell z i ys news) : ∃ T, news = cell :: T ∧ RowsAre T ys (List.replicate i z) ∧ (T.map (·.1)).Nodup ∧ ys.Nodup ∧ ∀ p ∈ T, p.1 ≠ cell.1 := h
theorem rows_snoc {T : List (Addr × Obj)} {q : Addr} {n : Nat} {us : List Value} {r : List Int} (hm : (q, listOf us.toArray n) ∈ T) (hi : IntsAre us r) : ∀ {vs : List Value} {B : List (List Int)}, RowsAre T vs B → RowsAre T (vs ++ [.ref q]) (B ++ [r])
  | [], [], _ => ⟨⟨q, n, us, rfl, hm, hi⟩, trivial⟩
  | _ :: _, _ :: _, ⟨a, x⟩ => ⟨a, rows_snoc hm hi x⟩
  | [], _ :: _, x => x.elim
  | _ :: _, [], x => x.elim
theorem rows_ref {T : List (Addr × Obj)} {q : Addr} : ∀ {vs : List Value} {B : List (List Int)}, RowsAre T vs B → Value.ref q ∈ vs → ∃ o, (q, o) ∈ T
  | [], [], _, h => nomatch h
  | v :: vs, _ :: _, ⟨⟨q', n, us, e, hm, _⟩, x⟩, h => by
    rcases List.mem_cons.mp h with h | h
    · rw [e] at h; cases h; exact ⟨_, hm⟩
    · exact rows_ref x h
  | [], _ :: _, x, _ => x.elim
  | _ :: _, [], x, _ => x.elim
theorem ZInv.step {cell : Addr × Obj} {z : List Int} {i : Nat} {ys : List Value} {news : List (Addr × Obj)} {q : Addr} {n : Nat} {us : List Value} (h : ZInv cell z i ys news) (hi : IntsAre us z) (hq : ∀ p ∈ news, p.1 < q) :
    ∃ T, news = cell :: T ∧ ZInv cell z (i + 1) (ys ++ [.ref q]) (cell :: (q, listOf us.toArray n) :: T) := by
  obtain ⟨T, rfl, h1, h2, h3, h4⟩ := h
  refine ⟨T, rfl, (q, listOf us.toArray n) :: T, rfl, ?_, ?_, ?_, ?_⟩
  · rw [List.replicate_succ']
    exact rows_snoc List.mem_cons_self hi (h1.mono fun p hp => List.mem_cons_of_mem _ hp)
  · rw [List.map_cons, List.nodup_cons]
    refine ⟨fun hm => ?_, h2⟩
    obtain ⟨p, hp, e⟩ := List.mem_map.mp hm
    have := hq p (List.mem_cons_of_mem _ hp)
    rw [e] at this
    exact Nat.lt_irrefl _ this
  · rw [List.nodup_append]
    refine ⟨h3, by simp, fun a ha b hb e => ?_⟩
    rw [List.mem_singleton.mp hb] at e
    subst e
    obtain ⟨o, ho⟩ := rows_ref h1 ha
    have := hq _ (List.mem_cons_of_mem _ ho)
    exact Nat.lt_irrefl _ this
  · intro p hp
    rcases List.mem_cons.mp hp with rfl | hp
    · exact Nat.ne_of_gt (hq cell List.mem_cons_self)
    · exact h4 p hp
theorem ZInv.zero {cell : Addr × Obj} {z : List Int} : ZInv cell z 0 [] [cell] := ⟨[], rfl, trivial, List.nodup_nil, List.nodup_nil, fun _ h => nomatch h⟩
theorem BdAt.first {b : Addr} {T : List (Addr × Obj)} {ys : List Value} {B : List (List Int)} (hR : RowsAre T ys B) (hn : (T.map (·.1)).Nodup) (hv : ys.Nodup) (ho : LCg.Off1 b T) : BdAt ((b, listOf ys.toArray ys.length) :: T) b ys ys.length B := by
  have off : ∀ {T : List (Addr × Obj)}, LCg.Off1 b T → ∀ p ∈ T, p.1 ≠ b := by
    intro T
    induction T with
    | nil => intro _ p hp; cases hp
    | cons q r ih =>
      intro h p hp
      rcases List.mem_cons.mp hp with e | e
      · subst e; exact h.1
      · exact ih h.2 p e
  refine ⟨List.mem_cons_self, hR.mono fun p hp => List.mem_cons_of_mem _ hp, ?_, hv, fun h => ?_⟩
  · rw [List.map_cons, List.nodup_cons]
    refine ⟨fun hm => ?_, hn⟩
    obtain ⟨p, hp, e⟩ := List.mem_map.mp hm
    exact off ho p hp e
  · obtain ⟨o, hm⟩ := rows_ref hR h
    exact off ho _ hm rfl
theorem news_twoB {h₀ h : Heap} {L : Addr} {x y : Addr × Obj} {R : List (Addr × Obj)} (N : News h₀ L h (x :: y :: R)) : News h₀ L h (y :: x :: R) := by
  refine kst_newsOf N fun p hp => ?_
  simp only [List.mem_cons] at hp ⊢
  rcases hp with h | h | h <;> simp [h]
theorem sub_comp {α : Type} {I C D c q l : α} {T : List α} : ∀ p ∈ I :: C :: D :: c :: q :: T, p ∈ q :: l :: I :: C :: D :: c :: T := by
  intro p hp
  simp only [List.mem_cons] at hp ⊢
  rcases hp with h | h | h | h | h | h <;> simp [h]
structure PlC where
  T : List (Addr × Obj)
  B : List (List Int)
theorem off3_ins {I C D : Addr} {c q : Addr × Obj} {T : List (Addr × Obj)} (h : LCg.Off3 I C D (c :: T)) (h1 : I < q.1) (h2 : C < q.1) (h3 : D < q.1) : LCg.Off3 I C D (c :: q :: T) := ⟨h.1, ⟨Nat.ne_of_gt h1, Nat.ne_of_gt h2, Nat.ne_of_gt h3⟩, h.2⟩
theorem off1_hd {D : Addr} {c : Addr × Obj} {T : List (Addr × Obj)} (h : LCg.Off1 D (c :: T)) : D ≠ c.1 := Ne.symm h.1
theorem off1_tl {D : Addr} {c : Addr × Obj} {T : List (Addr × Obj)} (h : LCg.Off1 D (c :: T)) : LCg.Off1 D T := h.2
structure LfC where
  us : List Value
  l : List Int
  cap : Nat
structure WtC where
  w : Int
  t : Tok
structure MxC where
  n : Nat
  k : Int
  t : Tok
theorem tidyB {h₀ h : Heap} {L : Addr} {x c : Addr × Obj} {A B O : List (Addr × Obj)} (N : News h₀ L h (A ++ ((x :: (c :: B ++ O))))) : News h₀ L h (x :: c :: (A ++ (B ++ O))) := by
  refine kst_newsOf N fun p hp => ?_
  simp only [List.mem_append, List.mem_cons] at hp ⊢
  rcases hp with h | h | h | h | h <;> simp [h]
theorem tidyB2 {h₀ h : Heap} {L : Addr} {x c : Addr × Obj} {A B O : List (Addr × Obj)} (N : News h₀ L h (A ++ ((x :: c :: B) ++ O))) : News h₀ L h (x :: c :: (A ++ (B ++ O))) := by
  refine kst_newsOf N fun p hp => ?_
  simp only [List.mem_append, List.mem_cons] at hp ⊢
  rcases hp with h | h | h | h | h <;> simp [h]
theorem offB {a : Addr} {o : Obj} {c : Addr × Obj} {A B O : List (Addr × Obj)} (h1 : ∀ p ∈ c :: B ++ O, p.1 < a) (h2 : ∀ x ∈ A, ∀ y ∈ (a, o) :: (c :: B ++ O), x.1 ≠ y.1) : ∀ p ∈ c :: (A ++ (B ++ O)), p.1 ≠ a := by
  intro p hp
  simp only [List.mem_append, List.mem_cons] at hp
  rcases hp with h | h | h | h
  · exact Nat.ne_of_lt (h1 p (by simp [h]))
  · exact h2 p h (a, o) List.mem_cons_self
  · exact Nat.ne_of_lt (h1 p (by simp [h]))
  · exact Nat.ne_of_lt (h1 p (by simp [h]))
theorem offB2 {a : Addr} {o : Obj} {c : Addr × Obj} {A B O : List (Addr × Obj)} (h1 : ∀ p ∈ c :: B, p.1 ≠ a) (h2 : ∀ x ∈ A, ∀ y ∈ ((a, o) :: c :: B) ++ O, x.1 ≠ y.1) (h3 : OwnOff O (((a, o) :: c :: B).map (·.1))) : ∀ p ∈ c :: (A ++ (B ++ O)), p.1 ≠ a := by
  intro p hp
  simp only [List.mem_append, List.mem_cons] at hp
  rcases hp with h | h | h | h
  · exact h1 p (by simp [h])
  · exact h2 p h (a, o) (by simp)
  · exact h1 p (by simp [h])
  · exact h3 p h a (by simp)
theorem offB3 {a : Addr} {o : Obj} {c : Addr × Obj} {B O : List (Addr × Obj)} (h1 : ∀ p ∈ c :: B, p.1 ≠ a) (h3 : OwnOff O (((a, o) :: c :: B).map (·.1))) : ∀ p ∈ c :: (B ++ O), p.1 ≠ a := by
  intro p hp
  simp only [List.mem_append, List.mem_cons] at hp
  rcases hp with h | h | h
  · exact h1 p (by simp [h])
  · exact h1 p (by simp [h])
  · exact h3 p h a (by simp)
theorem col_end {B : List (List Int)} {r w W : Int} {us : List Value} {cs : List Int} (hi : IntsAre us cs) (h : colO B r (cs.drop us.length) w = some W) : w = W := by
  rw [hi.length, List.drop_length] at h
  exact Option.some.inj h
theorem row_end {B : List (List Int)} {cs : List Int} {w W : Int} {us : List Value} {rs : List Int} (hi : IntsAre us rs) (h : rowO B cs (rs.drop us.length) w = some W) : w = W := by
  rw [hi.length, List.drop_length] at h
  exact Option.some.inj h
theorem cols_end {B : List (List Int)} {rs : List Int} {css : List (List Int)} {l f : List Int} {T : List (Addr × Obj)} {vs : List Value} (hR : RowsAre T vs css) (h : colsO B rs (css.drop vs.length) l = some f) : l = f := by
  rw [rows_len hR, List.drop_length] at h
  exact Option.some.inj h
theorem rows_end {B : List (List Int)} {css rss : List (List Int)} {l f : List Int} {T : List (Addr × Obj)} {vs : List Value} (hR : RowsAre T vs rss) (h : rowsO B css (rss.drop vs.length) l = some f) : l = f := by
  rw [rows_len hR, List.drop_length] at h
  exact Option.some.inj h
theorem upd_app {a : Addr} {o o' : Obj} {T T' R : List (Addr × Obj)} (U : Upd a o o' T T') (h : ∀ p ∈ R, p.1 ≠ a) : Upd a o o' (T ++ R) (T' ++ R) := by
  induction U with
  | head h1 => exact Upd.head fun p hp => (List.mem_append.mp hp).elim (h1 p) (h p)
  | tail h1 _ ih => exact Upd.tail h1 ih
theorem news_put {h₀ h : Heap} {L : Addr} {x c : Addr × Obj} {A T O : List (Addr × Obj)} (N : News h₀ L h (x :: c :: (A ++ (T ++ O)))) : News h₀ L h (T ++ (c :: O)) := by
  refine kst_newsOf N fun p hp => ?_
  simp only [List.mem_append, List.mem_cons] at hp ⊢
  rcases hp with h | h | h <;> simp [h]
theorem news_back {h₀ h : Heap} {L : Addr} {c : Addr × Obj} {T O : List (Addr × Obj)} (N : News h₀ L h (T ++ (c :: O))) : News h₀ L h (c :: T ++ O) := by
  refine kst_newsOf N fun p hp => ?_
  simp only [List.mem_append, List.mem_cons] at hp ⊢
  rcases hp with (h | h) | h <;> simp [h]
theorem own_row {c q : Addr × Obj} {T O : List (Addr × Obj)} (h : OwnOff O ((c :: T).map (·.1))) (hc : ∀ p ∈ T, p.1 ≠ c.1) (hq : q ∈ T) : ∀ p ∈ c :: O, p.1 ≠ q.1 := by
  intro p hp
  rcases List.mem_cons.mp hp with rfl | hp
  · exact Ne.symm (hc q hq)
  · exact h p hp q.1 (List.mem_map.mpr ⟨q, List.mem_cons_of_mem _ hq, rfl⟩)
theorem ne_map {T T' : List (Addr × Obj)} {a : Addr} (e : T'.map (·.1) = T.map (·.1)) (h : ∀ p ∈ T, p.1 ≠ a) : ∀ p ∈ T', p.1 ≠ a := by
  intro p hp e'
  have : a ∈ T.map (·.1) := by rw [← e]; exact List.mem_map.mpr ⟨p, hp, e'⟩
  obtain ⟨q, hq, e2⟩ := List.mem_map.mp this
  exact h q hq e2
theorem set_row {prog : Program} {w : World} {A : Around} {E : Value → Shared → Prop} {s : Shared} {h₀ : Heap} {L : Addr} {m : Str → Option Value} {x c : Addr × Obj} {A1 T O : List (Addr × Obj)} {q b : Addr} {us vs : List Value} {n nb : Nat} {r : List Int} {y v : Int} {u t : Tok} {B' : List (List Int)} {Q : Unit → Shared → Prop}
    (F : Fr h₀ L s.heap m) (N : News h₀ L s.heap (x :: c :: (A1 ++ (T ++ O)))) (hoff : OwnOff O ((c :: T).map (·.1))) (hc : ∀ p ∈ T, p.1 ≠ c.1) (hq : (q, listOf us.toArray n) ∈ T) (hi : IntsAre us r) (y0 : 0 ≤ y) (y1 : y < 2 ^ 63) (hy : y < r.length)
    (hU : ∀ t, ∃ T', Upd q (listOf us.toArray n) (listOf (us.set y.toNat (.int v t)).toArray n) T T' ∧ T'.map (·.1) = T.map (·.1) ∧ BdAt T' b vs nb B')
    (h : ∀ T' h', Fr h₀ L h' m → News h₀ L h' (c :: T' ++ O) → T'.map (·.1) = T.map (·.1) → BdAt T' b vs nb B' → Q () { s with heap := h' }) : wpAny (model prog w) A (setItem (.ref q) (.int y u) (.int v t)) Q E s := by
  obtain ⟨T', U, e, hb⟩ := hU t
  exact ksa_set F (news_put N) (upd_app U (own_row hoff hc hq)) hi y0 hy y1 fun h' F' N' _ _ _ => h T' h' F' (news_back N') e hb
theorem own_map {c : Addr × Obj} {T T' O : List (Addr × Obj)} (e : T'.map (·.1) = T.map (·.1)) (h : OwnOff O ((c :: T).map (·.1))) : OwnOff O ((c :: T').map (·.1)) := by
  rw [List.map_cons, e, ← List.map_cons]; exact h
theorem board_end {k0 k1 wi p : Int} {n : Nat} {B F : List (List Int)} (h : boardO k0 k1 wi (n - n) p B = some F) : B = F := by
  rw [Nat.sub_self] at h
  exact Option.some.inj h
structure BTurn (k0 k1 wi : Int) (n i : Nat) (B F : List (List Int)) (l : List Int) (v : Int) (B' : List (List Int)) (rss css : List (List Int)) : Prop where
  hr : turnedV k0.toNat ((0 + (i : Int)).fdiv wi + 1).toNat = rss
  hc : turnedV k1.toNat ((0 + (i : Int)).fmod wi + 1).toNat = css
  e1 : 0 < (0 + (i : Int)).fdiv wi + 1
  e2 : (0 + (i : Int)).fdiv wi + 1 < 6
  e3 : 0 < (0 + (i : Int)).fmod wi + 1
  e4 : (0 + (i : Int)).fmod wi + 1 < 6
  e5 : rowsO B css rss [] = some l
  e6 : mexO 40 l 0 = some v
  e7 : setO B ((0 + (i : Int)).fdiv wi + 1) ((0 + (i : Int)).fmod wi + 1) v = some B'
  e8 : boardO k0 k1 wi (n - (i + 1)) (0 + ((i + 1 : Nat) : Int)) B' = some F
theorem board_turn {k0 k1 wi : Int} {n i : Nat} {B F : List (List Int)} (hi : i < n) (h : boardO k0 k1 wi (n - i) (0 + (i : Int)) B = some F) : ∃ l v B' rss css, BTurn k0 k1 wi n i B F l v B' rss css := by
  rw [show n - i = (n - (i + 1)) + 1 by omega] at h
  obtain ⟨l, v, B', h1, h2, h3, h4, h5, h6, h7, h8⟩ := board_step h
  refine ⟨l, v, B', _, _, rfl, rfl, h1, h2, h3, h4, h5, h6, h7, ?_⟩
  rw [show (0 + ((i + 1 : Nat) : Int)) = 0 + (i : Int) + 1 by push_cast; omega]
  exact h8
theorem board_cs (w : World) (kl : Addr) (k0 k1 ht wi : Int) (tk0 tk1 t1 t2 : Tok) (nk : Nat) (Bf : List (List Int)) (hk00 : 0 ≤ k0) (hk03 : k0 < 3) (hk10 : 0 ≤ k1) (hk13 : k1 < 3) (hh0 : 0 < ht) (hh5 : ht < 5) (hw0 : 0 < wi) (hw6 : wi < 6) (news : List (Addr × Obj)) (hkm : (kl, listOf [Value.int k0 tk0, .int k1 tk1].toArray nk) ∈ news)
    (hB : boardO k0 k1 wi (ht * wi).toNat 0 (List.replicate (ht + 1).toNat (List.replicate (wi + 1).toNat 0)) = some Bf) :
    CS w (hd.heap_39 w.params) 183 5 [.ref kl, .int ht t1, .int wi t2] news (fun r n => ∃ q vs nn T, r = .ref q ∧ n = T ++ news ∧ (q, listOf vs.toArray nn) ∈ T ∧ RowsAre T vs Bf ∧ (∀ x ∈ T, ∀ y ∈ news, x.1 ≠ y.1)) := by
  unfold CS
  k_fill
  intro mean mg mb dp un gd cn cs a ccd cl outer A₀ base h₀ L m s Q E B F X N T hk hd hu hret
  refine wpAny_call ?_
  k_dflt (refine' code_defP1 [(Str.ofString "kinds", .ref kl), (Str.ofString "high", .int ht t1), (Str.ofString "wide", .int wi t2)] (Str.ofString "wide") (some (.int wi t2)) (fun y => if y = Str.ofString "high" then some (.int ht t1) else if y = Str.ofString "kinds" then some (.ref kl) else none) ?k1 ?k2 ?k3 ?k4 ?k5 ?kA ?kF ?kK ?k6 ?k7 ?k8 ?k9 ?kB ?kD ?kc ?km ?kv ?_ ?c2 ?c3 ?c4; (case kA => exact rfl); (case kF => exact rfl); (case kK => assumption); (case k1 => k_asm); (case k2 => k_asm); (case k3 => k_asm); (case k4 => k_asm); (case k5 => k_asm); (case k6 => k_is); (case k7 => k_is); (case k8 => ktr_room); (case k9 => exact BindsTo.of_eq rfl); (case kB => exact rfl); (case kD => decide +kernel); (case kc => intro l; exact rfl); (case km => intro L'; exact rfl); (case kv => intro L'; exact rfl); (case c2 => exact rfl); (case c3 => exact rfl); (case c4 => exact rfl); k_whole)
  intro g0 L0 h0 tkz o0 N0 lt0 FG' F9 N' d1' B' X' T'
  have hKl : g0.IsList kl [Value.int k0 tk0, .int k1 tk1].toArray := News.isList N0 hkm
  have hm0 : 0 ≤ ht * wi := Int.mul_nonneg (by omega) (by omega)
  have hm1 : ht * wi ≤ 4 * 5 := Int.mul_le_mul (by omega) (by omega) (by omega) (by omega)
  (try dsimp only)
  (try k_fold)
  k_with_none
  k_with "k_mem" => first | exact (by with_reducible assumption) | exact (List.mem_cons_of_mem _ (by with_reducible assumption)) | exact (List.mem_cons_of_mem _ (List.mem_cons_of_mem _ (by with_reducible assumption))) | exact (List.mem_cons_of_mem _ (List.mem_cons_of_mem _ (List.mem_cons_of_mem _ (by with_reducible assumption)))) | exact (List.mem_cons_of_mem _ (List.mem_cons_of_mem _ (List.mem_cons_of_mem _ (List.mem_cons_of_mem _ (by with_reducible assumption)))))
  k_with "pj" => first | with_reducible assumption | exact pj0 (by with_reducible assumption) | exact pj1 (by with_reducible assumption) | exact pj2 (by with_reducible assumption) | exact pj3 (by with_reducible assumption) | exact pj4 (by with_reducible assumption) | exact pj5 (by with_reducible assumption) | exact pj6 (by with_reducible assumption) | exact pj7 (by with_reducible assumption) | exact pj8 (by with_reducible assumption) | exact pj9 (by with_reducible assumption) | exact pj10 (by with_reducible assumption) | exact pj11 (by with_reducible assumption) | exact pj12 (by with_reducible assumption) | exact pj13 (by with_reducible assumption) | exact pj14 (by with_reducible assumption) | exact pj15 (by with_reducible assumption) | exact pj16 (by with_reducible assumption) | exact pj17 (by with_reducible assumption) | exact pj18 (by with_reducible assumption) | exact pj19 (by with_reducible assumption) | exact pj20 (by with_reducible assumption) | exact pj21 (by with_reducible assumption) | exact pj22 (by with_reducible assumption) | exact pj23 (by with_reducible assumption) | exact pj24 (by with_reducible assumption)
  k_with "pj2" => first | exact ltR (by k_extra "lt") | exact ltL (k := 4) (by k_extra "lt") (Nat.le_of_ble_eq_true rfl) | exact ltLR (k := 4) (by k_extra "lt") (Nat.le_of_ble_eq_true rfl) | exact ltR (by k_extra "pj") | exact ltL (k := 4) (by k_extra "pj") (Nat.le_of_ble_eq_true rfl) | exact ltLR (k := 4) (by k_extra "pj") (Nat.le_of_ble_eq_true rfl)
  k_with "lt" => first | with_reducible assumption | exact ltOf (by with_reducible assumption) (by k_mem)
  k_with "k_ne" => (refine neN ?_; (try dsimp only); first | exact neK rfl | exact neK0 rfl | exact neK1 rfl | exact Nat.ne_of_lt (by k_extra "lt") | exact Nat.ne_of_gt (by k_extra "lt") | exact Nat.ne_of_lt (by k_extra "pj") | exact Nat.ne_of_gt (by k_extra "pj") | exact Nat.ne_of_lt (by k_extra "pj2") | exact Nat.ne_of_gt (by k_extra "pj2") | k_extra "pj" | k_extra "pq" | exact Ne.symm (by k_extra "pj") | omega)
  k_with "mb" => first | with_reducible exact incM | with_reducible assumption | (with_reducible refine incMT ?_; k_extra "mb") | (with_reducible refine incML ?_; k_extra "mb") | (with_reducible refine incMR ?_; k_extra "mb")
  k_with "sbl" => first | with_reducible exact incI | (with_reducible refine incT ?_; k_extra "sbl") | (with_reducible refine incL ?_; k_extra "sbl") | (with_reducible refine incR ?_; k_extra "sbl")
  k_with "sb" => first | with_reducible exact incI | with_reducible exact incN | (with_reducible refine' incC ?m9 ?r9; (case m9 => k_extra "mb"); (case r9 => k_extra "sb")) | (k_extra "sbl") | (with_reducible refine incA ?_ ?_ <;> k_extra "sb")
  k_with "mg" => first | with_reducible exact List.mem_cons_self | (with_reducible refine List.mem_cons_of_mem _ ?_; k_extra "mg")
  k_with "ne1" => first | exact h1 | exact neP h2 (by k_extra "mg") | exact neC h3 (by k_extra "mg") | fail "ne1"
  k_with "nc" => with_reducible first | exact h3 | exact ncN | (refine' ncC ?b9 ?q9; (case b9 => k_extra "ne1"); (case q9 => k_extra "nc")) | fail "nc"
  k_with "sm" => with_reducible first | rfl | (refine' sm1 ?a9 ?r9; (case a9 => k_extra "ne1"); (case r9 => k_extra "sm")) | (refine' sm2 ?h9 ?r9; (case h9 => k_extra "nc"); (case r9 => k_extra "sm")) | (refine sm3 h2 ?_; k_extra "sm") | fail "sm"
  k_with "rm" => first | exact ltA0 (by with_reducible assumption) | exact ltA1 (by with_reducible assumption) (Nat.le_of_ble_eq_true rfl) | exact ltA2 (by with_reducible assumption) (Nat.le_of_ble_eq_true rfl) | exact ltA3 (by with_reducible assumption) (Nat.le_of_ble_eq_true rfl)
  k_with "sz" => first | with_reducible assumption | with_reducible exact Nat.le_of_ble_eq_true (Eq.refl true)
  k_with "my exec Assign cons ListComp" => (k_here; k_dflt (refine LCg.Assign_ListComp_U (F₀ := by k_asm) (by rfl) (by with_unfolding_all rfl) (by with_unfolding_all rfl) (by decide) (by rfl) (by decide) (by rfl) (by rfl) (by rfl) ?_); k_dflt lcg_toSrc)
  k_with "my CompSrc" => 
    k_here
    k_dflt (refine LCg.CompSrc.range (n := (ht + 1).toNat) (by rfl) (by k_asm) (by k_asm) (by assumption) (small_one (by decide) (by decide) (by omega) (by omega)) (by rw [rangeSize_nat, Int.sub_zero]) (by simp only [PySem.sizeLine_eq]; omega) ?_)
    intro g'
    refine comp_ind (ht + 1).toNat (ZInv (L0 + 1, o0) (List.replicate (wi + 1).toNat 0)) ?_ ?_ _ 0 [] _ (by omega) ZInv.zero
    all_goals first
      | (intro i ys news9 v I oI C oC D m₂ h9 tk9 E9 hi9 hI9 hP9 hC9 hx9 F9 N9 off9 ne9
         obtain ⟨T9, rfl, _⟩ := hI9.dest
         obtain ⟨t9, rfl⟩ := hP9
         (try dsimp only)
         (try k_fold))
      | (intro ys news9 hI9
         obtain ⟨T9, rfl, hR9, hn9, hv9, hc9⟩ := hI9.dest
         (try dsimp only)
         (try k_fold))
  k_with "my eval Name" => (k_here; (with_reducible show wpAny _ _ (eval (Expr.Name _ _) (compEnvC _ _ _ _)) _ _ _); k_dflt (first | refine LCgL.ld_own (by k_asm) (by k_mem) (by assumption) (by with_reducible assumption) ?_ | (refine' lcf_cell ?N ?c ?m ?d ?_ ?a ?b; (case a => rfl); (case b => rfl); (case N => k_asm); (case c => rfl); (case m => k_mem); (case d => k_asm); k_whole) | refine LCgL.ld_built (by k_asm) (by k_asm) (by k_asm) (by k_is) (by boot_by_name) (by decide) ?_ | refine LCgL.ld_global (by k_asm) (by k_asm) (by k_asm) (by k_is) ?_))
  k_with "my binaryOp Mult ref int" => (k_here; (k_dflt (refine' KMa.mul ?F ?N ?l ?lo ?hi ?z (flat_one _ _) ?_; (case F => k_asm); (case N => k_asm); (case l => is_list); (case lo => omega); (case hi => omega); (case z => simp only [List.length_cons, List.length_nil]; omega))); intro D9 h9 F9 N9 l9; (try k_fold))
  k_with "my CompEnd" => 
    (obtain ⟨T8, e8, z8⟩ := ZInv.step hI9 (ints_repl _ _ _) (fun p hp => l9 p (List.mem_cons_of_mem _ (List.mem_cons_of_mem _ (List.mem_cons_of_mem _ (List.mem_cons_of_mem _ hp)))))
     cases e8
     refine LCg.CompEnd.intro (by k_asm) N9 ((L0 + 1, o0) :: (D9, _) :: T9) ?s9 ?o9 trivial z8
     (case s9 => exact sub_comp)
     (case o9 => exact off3_ins off9 (l9 (I, oI) (List.mem_cons_of_mem _ List.mem_cons_self)) (l9 (C, oC) (List.mem_cons_of_mem _ (List.mem_cons_of_mem _ List.mem_cons_self))) (l9 (D, _) (List.mem_cons_of_mem _ (List.mem_cons_of_mem _ (List.mem_cons_of_mem _ List.mem_cons_self))))))
  k_with "my FinA" => 
    (unfold LCg.FinA
     intro b h8 tk8 F8 N8 o8
     have bd : BdAt ((b, _) :: T9) b ys ys.length (List.replicate (ht + 1).toNat (List.replicate (wi + 1).toNat 0)) := BdAt.first hR9 hn9 hv9 (off1_tl o8)
     have hc8 : ∀ p ∈ (b, LCg.lst ys) :: T9, p.1 ≠ L0 + 1 := List.forall_mem_cons.mpr ⟨off1_hd o8, hc9⟩
     replace N8 := news_twoB N8
     generalize (b, LCg.lst ys) :: T9 = T8 at bd hc8 N8
     clear o8 hR9 hn9 hv9 hc9 T9 hI9
     dsimp only at F8
     (try dsimp only)
     (try k_fold))
  k_with "my newList nil" => (k_here; k_dflt (refine' newList_K (by k_asm) (by k_asm) ?_ (by decide)); intro lq hq9 Fq Nq lq1; (try k_fold))
  k_with "my call ref" => first
    | first | (k_here; k_dflt (refine' CS.use (turned_cs w _ _ _ _ hk00 hk03 bt.e1 bt.e2 _) ?B ?F ?X ?N ?T ?K ?D ?U ?_; (case B => k_asm); (case F => k_asm); (case X => k_asm); (case N => k_asm); (case T => k_asm); (case K => first | exact rfl | assumption); (case D => first | k_extra "rm" | omega | (show dp + _ + _ < recursionLimit; omega) | (show dp + _ < recursionLimit; omega) | (show _ + _ < recursionLimit; decide)); (case U => first | k_extra "rm" | omega | (show un + _ + 8 * _ < cLine; omega) | (show un + 8 * _ < cLine; omega) | ktr_units); k_whole; intro r9 n9 h9 tk9 F9 N9 p9; obtain ⟨q1, vs1, nn1, Tr, rfl, rfl, hq1, hR1, hne1⟩ := p9; (have hA1 := offB lq1 hne1); rw [bt.hr] at hR1; replace N9 := tidyB N9; clear hne1 lq1; (try dsimp only); (try k_fold)))
    | first | (k_here; k_dflt (refine' CS.use (turned_cs w _ _ _ _ hk10 hk13 bt.e3 bt.e4 _) ?B ?F ?X ?N ?T ?K ?D ?U ?_; (case B => k_asm); (case F => k_asm); (case X => k_asm); (case N => k_asm); (case T => k_asm); (case K => first | exact rfl | assumption); (case D => first | k_extra "rm" | omega | (show dp + _ + _ < recursionLimit; omega) | (show dp + _ < recursionLimit; omega) | (show _ + _ < recursionLimit; decide)); (case U => first | k_extra "rm" | omega | (show un + _ + 8 * _ < cLine; omega) | (show un + 8 * _ < cLine; omega) | ktr_units); k_whole; intro r9 n9 h9 tk9 F9 N9 p9; obtain ⟨q2, vs2, nn2, Tc, rfl, rfl, hq2, hR2, hne2⟩ := p9; (have hA2 := offB2 hA1 hne2 hoff1); rw [bt.hc] at hR2; replace N9 := tidyB2 N9; clear hne2; (try dsimp only); (try k_fold)))
    | (k_here; k_dflt (refine' CS.use ?C ?B ?F ?X ?N ?T ?K ?D ?U ?_; (case B => k_asm); (case F => k_asm); (case X => k_asm); (case N => k_asm); (case T => k_asm); (case K => first | exact rfl | assumption); (case C => exact contains_cs w _ _ _ _ _ _ (by assumption) _ List.mem_cons_self); (case D => first | k_extra "rm" | omega | (show dp + _ + _ < recursionLimit; omega) | (show dp + _ < recursionLimit; omega) | (show _ + _ < recursionLimit; decide)); (case U => first | k_extra "rm" | omega | (show un + _ + 8 * _ < cLine; omega) | (show un + 8 * _ < cLine; omega) | ktr_units)); intro r9 n9 h9 tk9 F9 N9 p9; obtain ⟨rfl, rfl⟩ := p9; (try simp only [hmx]); (try dsimp only); (try k_fold))
    | first | (k_here; k_dflt (refine' CS.use (xor_cs w _ _ _ _ _) ?B ?F ?X ?N ?T ?K ?D ?U ?_; (case B => k_asm); (case F => k_asm); (case X => k_asm); (case N => k_asm); (case T => k_asm); (case K => first | exact rfl | assumption); (case D => first | k_extra "rm" | omega | (show dp + _ + _ < recursionLimit; omega) | (show dp + _ < recursionLimit; omega) | (show _ + _ < recursionLimit; decide)); (case U => first | k_extra "rm" | omega | (show un + _ + 8 * _ < cLine; omega) | (show un + 8 * _ < cLine; omega) | ktr_units); k_whole; intro r9 n9 h9 tk9 F9 N9 p9; obtain ⟨⟨t9, rfl⟩, rfl⟩ := p9; skip; (try dsimp only); (try k_fold)))
  k_with "my pyIter ref" => first
    | 
    k_here
    rename Fr _ _ _ _ => F8
    rename News _ _ _ _ => N8
    with_unfolding_all refine' lp_listL (σ := WtC) (x := Str.ofString "column") (fun c => (lq, listOf us6.toArray cap6) :: (L0 + 1, o0) :: (((Tc ++ ((Tr ++ (T1 ++ own0)) ++ own1)) ++ own2) ++ own3)) (fun c => [(Str.ofString "worth", Value.int c.w c.t)]) [] (fun j c => colO B1 r3 (cs9.drop j) c.w = some x3) ⟨w3, t3⟩ (by rfl) (by rfl) ?hl F8 ?kN ?kk ?kp ?_ ?_
    case hl => (intro c; exact List.mem_cons_of_mem _ (List.mem_cons_of_mem _ (List.mem_append.mpr (.inl (List.mem_append.mpr (.inl (List.mem_append.mpr (.inl hqc))))))))
    case kN => first | exact N8 | with_unfolding_all exact N8 | (refine kst_newsOf N8 ?_; with_reducible refine Inc.use ?_; k_extra "sb") | (refine kst_newsOf N8 ?_; intro p hp; simp only [List.mem_append, List.mem_cons, List.not_mem_nil, or_false] at hp ⊢; simp only [hp, true_or, or_true])
    case kk => kst_all
    case kp => with_unfolding_all exact hP9
    clear F8 N8
    rotate_left
    clear F8 N8
    rotate_right
    all_goals first
      | (intro c i v7 u7 h7 tk7 own4 hi4 hv7 hoff4 hP F7 N7; obtain ⟨w4, t4⟩ := c; (try dsimp only [kstB] at F7); (try dsimp only at N7); (try dsimp only at hP); (first | (obtain ⟨c4, tc4, x4, rfl, hcell, hP11⟩ := col_step (us := usc) (cs := cs9) (by assumption) hv7 hP; obtain ⟨g1, g2, g3, g4, qb, nb2, usb, tb, hx1, hm1, hx2⟩ := cell_at hb1.rows hcell; clear hP) | (obtain rfl := col_end (us := usc) (cs := cs9) (by assumption) hP)); (try dsimp only); (try k_fold))
      | (intro c u7 h7 tk7 hP F7 N7; obtain ⟨w4, t4⟩ := c; (try dsimp only [kstB] at F7); (try dsimp only at N7); (try dsimp only at hP); (first | (obtain ⟨c4, tc4, x4, rfl, hcell, hP11⟩ := col_step (us := usc) (cs := cs9) (by assumption) hv7 hP; obtain ⟨g1, g2, g3, g4, qb, nb2, usb, tb, hx1, hm1, hx2⟩ := cell_at hb1.rows hcell; clear hP) | (obtain rfl := col_end (us := usc) (cs := cs9) (by assumption) hP)); (try dsimp only); (try k_fold))
    | 
    k_here
    rename Fr _ _ _ _ => F8
    rename News _ _ _ _ => N8
    rename IsRange _ _ _ _ _ _ _ _ => R8
    with_unfolding_all refine' lp_rangeL (σ := PlC) (x := Str.ofString "place") (fun c => (L0 + 1, o0) :: c.T) (fun _ => []) [Str.ofString "x", Str.ofString "y", Str.ofString "left", Str.ofString "rows", Str.ofString "columns", Str.ofString "worth", Str.ofString "row", Str.ofString "column", Str.ofString "least"] (fun j c => BdAt c.T b ys ys.length c.B ∧ (∀ p ∈ c.T, p.1 ≠ L0 + 1) ∧ boardO k0 k1 wi ((ht * wi).toNat - j) (0 + (j : Int)) c.B = some Bf) ⟨T8, List.replicate (ht + 1).toNat (List.replicate (wi + 1).toNat 0)⟩ (by rfl) (by rfl) R8 (by exact small_one (by decide) (by decide) (by omega) (by omega)) (n := (ht * wi).toNat) (by first | rfl | omega | (rw [rangeSize_nat, Int.sub_zero]; done) | (rw [rangeSize_nat]; omega)) F8 ?kN ?kk ?kp ?_ ?_
    case kN => first | exact N8 | with_unfolding_all exact N8 | (refine kst_newsOf N8 ?_; with_reducible refine Inc.use ?_; k_extra "sb") | (refine kst_newsOf N8 ?_; intro p hp; simp only [List.mem_append, List.mem_cons, List.not_mem_nil, or_false] at hp ⊢; simp only [hp, true_or, or_true])
    case kk => kst_all
    case kp => with_unfolding_all exact ⟨bd, hc8, hB⟩
    clear F8 N8 R8
    rotate_left
    clear F8 N8 R8
    rotate_right
    all_goals first
      | (intro c i t7 u7 h7 tk7 own0 hi0 hoff0 hP F7 N7; obtain ⟨T1, B1⟩ := c; (try dsimp only [kstB] at F7); (try dsimp only at N7); (try dsimp only at hP); (obtain ⟨hb1, hc1, hP1⟩ := hP; first | (obtain ⟨l1, v1, B2, rss, css, bt⟩ := board_turn hi0 hP1; clear hP1; clear hi0) | skip); (try dsimp only); (try k_fold))
      | (intro c u7 h7 tk7 hP F7 N7; obtain ⟨T1, B1⟩ := c; (try dsimp only [kstB] at F7); (try dsimp only at N7); (try dsimp only at hP); (obtain ⟨hb1, hc1, hP1⟩ := hP; first | (obtain ⟨l1, v1, B2, rss, css, bt⟩ := board_turn hi0 hP1; clear hP1; clear hi0) | skip); (try dsimp only); (try k_fold))
    | 
    k_here
    rename Fr _ _ _ _ => F8
    rename News _ _ _ _ => N8
    with_unfolding_all refine' lp_listL (σ := LfC) (x := Str.ofString "rows") (fun c => (lq, listOf c.us.toArray c.cap) :: (L0 + 1, o0) :: (Tr ++ (T1 ++ own0))) (fun _ => []) [Str.ofString "columns", Str.ofString "worth", Str.ofString "row", Str.ofString "column"] (fun j c => IntsAre c.us c.l ∧ rowsO B1 css (rss.drop j) c.l = some l1) ⟨[], [], 0⟩ (by rfl) (by rfl) ?hl F8 ?kN ?kk ?kp ?_ ?_
    case hl => (intro c; exact List.mem_cons_of_mem _ (List.mem_cons_of_mem _ (List.mem_append.mpr (.inl hq1))))
    case kN => first | exact N8 | with_unfolding_all exact N8 | (refine kst_newsOf N8 ?_; with_reducible refine Inc.use ?_; k_extra "sb") | (refine kst_newsOf N8 ?_; intro p hp; simp only [List.mem_append, List.mem_cons, List.not_mem_nil, or_false] at hp ⊢; simp only [hp, true_or, or_true])
    case kk => kst_all
    case kp => with_unfolding_all exact ⟨.nil, bt.e5⟩
    clear F8 N8
    rotate_left
    clear F8 N8
    rotate_right
    all_goals first
      | (intro c i v7 u7 h7 tk7 own1 hi1 hv7 hoff1 hP F7 N7; obtain ⟨us3, l3, cap3⟩ := c; (try dsimp only [kstB] at F7); (try dsimp only at N7); (try dsimp only at hP); (obtain ⟨hI3, hP3⟩ := hP; first | (obtain ⟨qr, nr, usr, rs9, l4, rfl, hqr, hIr, hP4, hP5⟩ := rows_step hR1 hv7 hP3; clear hP3) | (obtain rfl := rows_end hR1 hP3; have hI5 := hI3)); (try dsimp only); (try k_fold))
      | (intro c u7 h7 tk7 hP F7 N7; obtain ⟨us3, l3, cap3⟩ := c; (try dsimp only [kstB] at F7); (try dsimp only at N7); (try dsimp only at hP); (obtain ⟨hI3, hP3⟩ := hP; first | (obtain ⟨qr, nr, usr, rs9, l4, rfl, hqr, hIr, hP4, hP5⟩ := rows_step hR1 hv7 hP3; clear hP3) | (obtain rfl := rows_end hR1 hP3; have hI5 := hI3)); (try dsimp only); (try k_fold))
    | 
    k_here
    rename Fr _ _ _ _ => F8
    rename News _ _ _ _ => N8
    with_unfolding_all refine' lp_listL (σ := LfC) (x := Str.ofString "columns") (fun c => (lq, listOf c.us.toArray c.cap) :: (L0 + 1, o0) :: (Tc ++ ((Tr ++ (T1 ++ own0)) ++ own1))) (fun _ => []) [Str.ofString "worth", Str.ofString "row", Str.ofString "column"] (fun j c => IntsAre c.us c.l ∧ colsO B1 rs9 (css.drop j) c.l = some l4) ⟨us3, l3, cap3⟩ (by rfl) (by rfl) ?hl F8 ?kN ?kk ?kp ?_ ?_
    case hl => (intro c; exact List.mem_cons_of_mem _ (List.mem_cons_of_mem _ (List.mem_append.mpr (.inl hq2))))
    case kN => first | exact N8 | with_unfolding_all exact N8 | (refine kst_newsOf N8 ?_; with_reducible refine Inc.use ?_; k_extra "sb") | (refine kst_newsOf N8 ?_; intro p hp; simp only [List.mem_append, List.mem_cons, List.not_mem_nil, or_false] at hp ⊢; simp only [hp, true_or, or_true])
    case kk => kst_all
    case kp => with_unfolding_all exact ⟨hI3, hP4⟩
    clear F8 N8
    rotate_left
    clear F8 N8
    rotate_right
    all_goals first
      | (intro c i v7 u7 h7 tk7 own2 hi2 hv7 hoff2 hP F7 N7; obtain ⟨us6, l6, cap6⟩ := c; (try dsimp only [kstB] at F7); (try dsimp only at N7); (try dsimp only at hP); (obtain ⟨hI6, hP6⟩ := hP; first | (obtain ⟨qc, nc, usc, cs9, W9, rfl, hqc, hIc, hP7, hl7, hP8⟩ := cols_step hR2 hv7 hP6; clear hP6; have hA3 := offB3 hA2 hoff2) | (obtain rfl := cols_end hR2 hP6)); (try dsimp only); (try k_fold))
      | (intro c u7 h7 tk7 hP F7 N7; obtain ⟨us6, l6, cap6⟩ := c; (try dsimp only [kstB] at F7); (try dsimp only at N7); (try dsimp only at hP); (obtain ⟨hI6, hP6⟩ := hP; first | (obtain ⟨qc, nc, usc, cs9, W9, rfl, hqc, hIc, hP7, hl7, hP8⟩ := cols_step hR2 hv7 hP6; clear hP6; have hA3 := offB3 hA2 hoff2) | (obtain rfl := cols_end hR2 hP6)); (try dsimp only); (try k_fold))
    | 
    k_here
    rename Fr _ _ _ _ => F8
    rename News _ _ _ _ => N8
    with_unfolding_all refine' lp_listL (σ := WtC) (x := Str.ofString "row") (fun c => (lq, listOf us6.toArray cap6) :: (L0 + 1, o0) :: ((Tc ++ ((Tr ++ (T1 ++ own0)) ++ own1)) ++ own2)) (fun c => [(Str.ofString "worth", Value.int c.w c.t)]) [Str.ofString "column"] (fun j c => rowO B1 cs9 (rs9.drop j) c.w = some W9) ⟨0, _⟩ (by rfl) (by rfl) ?hl F8 ?kN ?kk ?kp ?_ ?_
    case hl => (intro c; exact List.mem_cons_of_mem _ (List.mem_cons_of_mem _ (List.mem_append.mpr (.inl (List.mem_append.mpr (.inr (List.mem_append.mpr (.inl (List.mem_append.mpr (.inl hqr))))))))))
    case kN => first | exact N8 | with_unfolding_all exact N8 | (refine kst_newsOf N8 ?_; with_reducible refine Inc.use ?_; k_extra "sb") | (refine kst_newsOf N8 ?_; intro p hp; simp only [List.mem_append, List.mem_cons, List.not_mem_nil, or_false] at hp ⊢; simp only [hp, true_or, or_true])
    case kk => kst_all
    case kp => with_unfolding_all exact hP7
    clear F8 N8
    rotate_left
    clear F8 N8
    rotate_right
    all_goals first
      | (intro c i v7 u7 h7 tk7 own3 hi3 hv7 hoff3 hP F7 N7; obtain ⟨w3, t3⟩ := c; (try dsimp only [kstB] at F7); (try dsimp only at N7); (try dsimp only at hP); (first | (obtain ⟨r3, tr3, x3, rfl, hP9, hP10⟩ := row_step (us := usr) (rs := rs9) (by assumption) hv7 hP; clear hP) | (obtain rfl := row_end (us := usr) (rs := rs9) (by assumption) hP)); (try dsimp only); (try k_fold))
      | (intro c u7 h7 tk7 hP F7 N7; obtain ⟨w3, t3⟩ := c; (try dsimp only [kstB] at F7); (try dsimp only at N7); (try dsimp only at hP); (first | (obtain ⟨r3, tr3, x3, rfl, hP9, hP10⟩ := row_step (us := usr) (rs := rs9) (by assumption) hv7 hP; clear hP) | (obtain rfl := row_end (us := usr) (rs := rs9) (by assumption) hP)); (try dsimp only); (try k_fold))
  k_with "my subscriptTail Name Name ref int" => first
    | (k_here; k_dflt (refine' pick_item (by k_asm) (by exact List.mem_cons_of_mem _ (List.mem_cons_of_mem _ (List.mem_append.mpr (.inl (List.mem_append.mpr (.inl (List.mem_append.mpr (.inl (List.mem_append.mpr (.inr (List.mem_append.mpr (.inl (List.mem_append.mpr (.inr (List.mem_append.mpr (.inl hb1.mem)))))))))))))))) g1 g2 hx1 ?_); (try k_fold))
    | (k_here; k_dflt (refine' pick_item (by k_asm) (by exact List.mem_cons_of_mem _ (List.mem_cons_of_mem _ (List.mem_append.mpr (.inl (List.mem_append.mpr (.inl (List.mem_append.mpr (.inl (List.mem_append.mpr (.inr (List.mem_append.mpr (.inl (List.mem_append.mpr (.inr (List.mem_append.mpr (.inl hm1)))))))))))))))) g3 g4 hx2 ?_); (try k_fold))
    | (k_here; obtain ⟨y1, y2, y3, y4, qs, ns9, uss, rs8, hs1, hs2, hs3, hs4, hU⟩ := hb1.upd bt.e7; k_dflt (refine' pick_item (by k_asm) (by exact List.mem_cons_of_mem _ (List.mem_cons_of_mem _ (List.mem_append.mpr (.inr (List.mem_append.mpr (.inl hb1.mem)))))) y1 y2 hs1 ?_); (try k_fold))
  k_with "my setItem ref int" => 
    k_here
    k_dflt (refine' set_row ?F ?N hoff0 hc1 hs2 hs3 y3 y4 hs4 hU ?_; (case F => k_asm); (case N => k_asm))
    intro T5 h5 F5 N5 em5 hb5
  k_with "my LpEnd" => first
    | (rename News _ _ _ _ => N8; refine' lp_end (PlC.mk T5 B2) (by k_asm) N8 ?hn ?ho ?hf ?hk ?hr ?hp; (case hk => kst_all); (case hn => (try dsimp only); (first | (with_reducible refine Inc.use ?_; k_extra "sb") | (intro p hp; simp only [List.mem_append, List.mem_cons, List.not_mem_nil, or_false] at hp ⊢; first | (simp only [hp, true_or, or_true]; done) | ((repeat' (refine Or.elim hp ?_ ?_ <;> clear hp <;> intro hp)) <;> simp only [hp, true_or, or_true])))); (case ho => (first | (with_reducible refine Inc.use ?_; k_extra "sb") | (intro p hp; simp only [List.mem_append, List.mem_cons, List.not_mem_nil, or_false] at hp ⊢; first | (simp only [hp, true_or, or_true]; done) | ((repeat' (refine Or.elim hp ?_ ?_ <;> clear hp <;> intro hp)) <;> simp only [hp, true_or, or_true])))); (case hf => (try dsimp only); exact own_map em5 hoff0); (case hr => first | (intro z9 h1 h2 h3; k_extra "sm"; done) | kst_same); (case hp => (try dsimp only); with_unfolding_all exact ⟨hb5, ne_map em5 hc1, bt.e8⟩))
    | (rename News _ _ _ _ => N8; refine' lp_end (WtC.mk (Builtin.bitXor w4 x4) t9) (by k_asm) N8 ?hn ?ho ?hf ?hk ?hr ?hp; (case hk => kst_all); (case hn => (try dsimp only); (first | (with_reducible refine Inc.use ?_; k_extra "sb") | (intro p hp; simp only [List.mem_append, List.mem_cons, List.not_mem_nil, or_false] at hp ⊢; first | (simp only [hp, true_or, or_true]; done) | ((repeat' (refine Or.elim hp ?_ ?_ <;> clear hp <;> intro hp)) <;> simp only [hp, true_or, or_true])))); (case ho => (first | (with_reducible refine Inc.use ?_; k_extra "sb") | (intro p hp; simp only [List.mem_append, List.mem_cons, List.not_mem_nil, or_false] at hp ⊢; first | (simp only [hp, true_or, or_true]; done) | ((repeat' (refine Or.elim hp ?_ ?_ <;> clear hp <;> intro hp)) <;> simp only [hp, true_or, or_true])))); (case hf => (try dsimp only); with_unfolding_all exact hoff4); (case hr => first | (intro z9 h1 h2 h3; k_extra "sm"; done) | kst_same); (case hp => (try dsimp only); exact hP11))
    | (rename News _ _ _ _ => N8; refine' lp_end (WtC.mk w4 t4) (by k_asm) N8 ?hn ?ho ?hf ?hk ?hr ?hp; (case hk => kst_all); (case hn => (try dsimp only); (first | (with_reducible refine Inc.use ?_; k_extra "sb") | (intro p hp; simp only [List.mem_append, List.mem_cons, List.not_mem_nil, or_false] at hp ⊢; first | (simp only [hp, true_or, or_true]; done) | ((repeat' (refine Or.elim hp ?_ ?_ <;> clear hp <;> intro hp)) <;> simp only [hp, true_or, or_true])))); (case ho => (first | (with_reducible refine Inc.use ?_; k_extra "sb") | (intro p hp; simp only [List.mem_append, List.mem_cons, List.not_mem_nil, or_false] at hp ⊢; first | (simp only [hp, true_or, or_true]; done) | ((repeat' (refine Or.elim hp ?_ ?_ <;> clear hp <;> intro hp)) <;> simp only [hp, true_or, or_true])))); (case hf => (try dsimp only); with_unfolding_all exact hoff3); (case hr => first | (intro z9 h1 h2 h3; k_extra "sm"; done) | kst_same); (case hp => (try dsimp only); exact hP10))
    | (rename News _ _ _ _ => N8; refine' lp_end (LfC.mk us6 l6 cap6) (by k_asm) N8 ?hn ?ho ?hf ?hk ?hr ?hp; (case hk => kst_all); (case hn => (try dsimp only); (first | (with_reducible refine Inc.use ?_; k_extra "sb") | (intro p hp; simp only [List.mem_append, List.mem_cons, List.not_mem_nil, or_false] at hp ⊢; first | (simp only [hp, true_or, or_true]; done) | ((repeat' (refine Or.elim hp ?_ ?_ <;> clear hp <;> intro hp)) <;> simp only [hp, true_or, or_true])))); (case ho => (first | (with_reducible refine Inc.use ?_; k_extra "sb") | (intro p hp; simp only [List.mem_append, List.mem_cons, List.not_mem_nil, or_false] at hp ⊢; first | (simp only [hp, true_or, or_true]; done) | ((repeat' (refine Or.elim hp ?_ ?_ <;> clear hp <;> intro hp)) <;> simp only [hp, true_or, or_true])))); (case hf => (try dsimp only); with_unfolding_all exact hoff1); (case hr => first | (intro z9 h1 h2 h3; k_extra "sm"; done) | kst_same); (case hp => (try dsimp only); exact ⟨by assumption, hP5⟩))
    | (rename News _ _ _ _ => N8; refine' lp_end (LfC.mk (us6 ++ [Value.int w3 t3]) (l6 ++ [w3]) (cap6 + 1)) (by k_asm) N8 ?hn ?ho ?hf ?hk ?hr ?hp; (case hk => kst_all); (case hn => (try dsimp only); (first | (with_reducible refine Inc.use ?_; k_extra "sb") | (intro p hp; simp only [List.mem_append, List.mem_cons, List.not_mem_nil, or_false] at hp ⊢; first | (simp only [hp, true_or, or_true]; done) | ((repeat' (refine Or.elim hp ?_ ?_ <;> clear hp <;> intro hp)) <;> simp only [hp, true_or, or_true])))); (case ho => (first | (with_reducible refine Inc.use ?_; k_extra "sb") | (intro p hp; simp only [List.mem_append, List.mem_cons, List.not_mem_nil, or_false] at hp ⊢; first | (simp only [hp, true_or, or_true]; done) | ((repeat' (refine Or.elim hp ?_ ?_ <;> clear hp <;> intro hp)) <;> simp only [hp, true_or, or_true])))); (case hf => (try dsimp only); with_unfolding_all exact hoff2); (case hr => first | (intro z9 h1 h2 h3; k_extra "sm"; done) | kst_same); (case hp => (try dsimp only); exact ⟨IntsAre.append (by assumption) (.cons _ _ .nil), hP8⟩))
  k_with "my call builtin:list.append" => first
    | (k_here; k_dflt (refine' append_K ?F ?N (Upd.head hA3) ?_ ?z; (case F => k_asm); (case N => k_asm); (case z => (simp only [List.size_toArray, hI6.length, PySem.sizeLine_eq]; omega)); intro h9 F9 N9; (try simp only [List.push_toArray] at N9); (try k_fold)))
  k_with "my exec While Compare cons nil" => 
    k_here
    k_dflt (refine' ksw_while (σ := MxC) (fun _ => (lq, listOf us3.toArray cap3) :: (L0 + 1, o0) :: (Tr ++ (T1 ++ own0))) (fun c => [(Str.ofString "least", Value.int c.k c.t)]) (fun _ => True) [] (fun c => mexO c.n l3 c.k = some v1) (fun c => c.n) ⟨40, 0, _⟩ ?F9 ?N9 trivial ?k9 ?p9 ?_; (case F9 => k_asm); (case N9 => k_asm); (case k9 => kst_all); (case p9 => exact bt.e6))
    intro c u7 h7 tk7 _ hP F7 N7
    obtain ⟨n9, k9, tk9⟩ := c
    dsimp only [kstB] at F7 N7 hP
    obtain ⟨m9, rfl, hmx⟩ := mex_step hP
    rcases hmx with ⟨hmx, hmx2⟩ | ⟨hmx, rfl⟩
    all_goals ((try dsimp only); (try k_fold))
  k_with "my loadName" => (k_here; k_dflt (refine' wpAny_loadName_local ?hk ?hx (Fr.ns ?F) ?hv ?_; (case hx => rfl); (case hk => rfl); (case F => k_asm); (case hv => rfl); k_whole))
  k_with "my KswEnd" => (rename News _ _ _ _ => N8; (try simp only [List.push_toArray] at N8); refine' ksw_end (MxC.mk m9 _ _) (by k_asm) N8 ?hn ?hf ?hk ?hr ?hp ?hm; (case hk => kst_all); (case hn => (try dsimp only); first | (intro p hp; exact hp) | (first | (with_reducible refine Inc.use ?_; k_extra "sb") | (intro p hp; simp only [List.mem_append, List.mem_cons, List.not_mem_nil, or_false] at hp ⊢; first | (simp only [hp, true_or, or_true]; done) | ((repeat' (refine Or.elim hp ?_ ?_ <;> clear hp <;> intro hp)) <;> simp only [hp, true_or, or_true])))); (case hf => trivial); (case hr => first | (intro z9 h2 h3; k_extra "sm"; done) | ksw_same); (case hp => (try dsimp only); exact hmx2); (case hm => (try dsimp only); omega))
  repeat' (first | (k_unfold; (try dsimp only)) | (k_end; wrow_close) | ((with_reducible show wpAny _ _ (execs (_ :: _) _) _ _ _); dsimp only; walk1) | walk1 | (dsimp only; walk1) | (leave1; walk_say "STEP leave1"; try dsimp only) | fail "no step")
  all_goals
    rename News g0 L0 _ _ => NT
    rename News h₀ L _ _ => kN
    rename Fr g0 L0 _ _ => FT
    obtain ⟨z1, z2⟩ := pure_end N0 FT NT kN
    obtain rfl := board_end hP1
    exact hret _ _ _ _ (by k_asm) z1 ⟨_, _, _, _, rfl, rfl, List.mem_cons_of_mem _ hb1.mem, hb1.rows.mono fun p hp => List.mem_cons_of_mem _ hp, z2⟩
end
-- part Ccells
section
theorem top_off_Ccells : True := by
  w_top off
  exact True.intro
noncomputable def CSP (w : World) (K : Frag) (P : Heap → Prop) (f : Addr) (d : Nat) (vs : List Value) (news : List (Addr × Obj)) (post : Value → List (Addr × Obj) → Prop) : Prop :=
  ∀ (mean : ExcName → Option Value) (mg mb : Str → Option Value) (dp un : Nat) (gd : Option (List Code)) (cn : Str) (cs : Scope) (a : Addr) (ccd : Value) (cl : List (Str × Addr)) (outer : List Env) (A₀ : Around) (base h₀ : Heap) (L : Addr) (m : Str → Option Value) (s : Shared) (Q E : Value → Shared → Prop),
    P h₀ → Below A₀ base outer h₀ → Fr h₀ L s.heap m → K.In h₀ → News h₀ L s.heap news → Top hd.view_39 (looseW hd.view_39 [Str.ofString "EXACT_TOKEN_TYPES"]) mean mg mb h₀ → cs.kind = .function → dp + d < recursionLimit → un + 8 * d < cLine →
    (∀ r news' h' tk', Fr h₀ L h' m → News h₀ L h' news' → post r news' → Q r { s with heap := h', toks := tk' }) →
    wpAny (model PySem.Challenge.rw_yf0019_01.row.prog w) (ktrTop dp un gd cn cs L a ccd cl outer) (call (.ref f) vs) Q E s
structure CeC where
  us : List Value
  xs : List Int
  cap : Nat
theorem set_cell {prog : Program} {w : World} {A : Around} {E : Value → Shared → Prop} {s : Shared} {h₀ : Heap} {L : Addr} {m : Str → Option Value} {R : List (Addr × Obj)} {q : Addr} {us : List Value} {n : Nat} {xs : List Int} {y v : Int} {u t : Tok} {Q : Unit → Shared → Prop}
    (F : Fr h₀ L s.heap m) (N : News h₀ L s.heap ((q, listOf us.toArray n) :: R)) (hall : ∀ p ∈ R, p.1 ≠ q) (hi : IntsAre us xs) (y0 : 0 ≤ y) (y1 : y < xs.length) (hf : y < 2 ^ 63)
    (h : ∀ us' xs' h', Fr h₀ L h' m → News h₀ L h' ((q, listOf us'.toArray n) :: R) → IntsAre us' xs' → xs'.length = xs.length → Q () { s with heap := h' }) : wpAny (model prog w) A (setItem (.ref q) (.int y u) (.int v t)) Q E s :=
  ksa_set F N (Upd.head hall) hi y0 y1 hf fun h' F' N' hi' hl' _ => h _ _ h' F' N' hi' hl'
theorem off_cell {q : Addr} {o : Obj} {news O : List (Addr × Obj)} (h1 : ∀ p ∈ news, p.1 < q) (h2 : OwnOff O (((q, o) :: news).map (·.1))) : ∀ p ∈ news ++ O, p.1 ≠ q := by
  intro p hp
  rcases List.mem_append.mp hp with h | h
  · exact Nat.ne_of_lt (h1 p h)
  · exact h2 p h q List.mem_cons_self
theorem cells_cs (w : World) (sl : Addr) (vs : List Value) (ns : List Int) (hI : IntsAre vs ns) (hlen : ns.length ≤ 63) (news : List (Addr × Obj)) : CSP w (hd.heap_39 w.params) (fun h => h.IsList sl vs.toArray) 124 2 [.ref sl] news (fun r n => ∃ q us xs nn, r = .ref q ∧ n = (q, listOf us.toArray nn) :: news ∧ IntsAre us xs ∧ xs.length = 7 ∧ ∀ p ∈ news, p.1 < q) := by
  unfold CSP
  k_fill
  intro mean mg mb dp un gd cn cs a ccd cl outer A₀ base h₀ L m s Q E hP0 B F X N T hk hd hu hret
  refine wpAny_call ?_
  k_dflt (refine' code_defT [(Str.ofString "script", .ref sl)] ?k1 ?k2 ?k3 ?k4 ?k5 ?kA ?kF ?kK ?k6 ?k7 ?k8 ?k9 ?kB ?_ ?c2 ?c3 ?c4 ?c5; (case kA => exact rfl); (case kF => exact rfl); (case kK => assumption); (case k1 => k_asm); (case k2 => k_asm); (case k3 => k_asm); (case k4 => k_asm); (case k5 => k_asm); (case k6 => k_is); (case k7 => k_is); (case k8 => ktr_room); (case k9 => exact BindsTo.of_eq rfl); (case c5 => decide); (case kB => exact locs rfl); (case c2 => exact rfl); (case c3 => exact rfl); (case c4 => exact rfl); k_whole)
  intro g' L' h' tk' FG' F9 N' B' X' T'
  replace F9 := fr1 (a := Str.ofString "script") F9
  (try dsimp only)
  (try k_fold)
  k_with_none
  k_with "k_mem" => first | exact (by with_reducible assumption) | exact (List.mem_cons_of_mem _ (by with_reducible assumption)) | exact (List.mem_cons_of_mem _ (List.mem_cons_of_mem _ (by with_reducible assumption))) | exact (List.mem_cons_of_mem _ (List.mem_cons_of_mem _ (List.mem_cons_of_mem _ (by with_reducible assumption)))) | exact (List.mem_cons_of_mem _ (List.mem_cons_of_mem _ (List.mem_cons_of_mem _ (List.mem_cons_of_mem _ (by with_reducible assumption)))))
  k_with "pj" => first | with_reducible assumption | exact pj0 (by with_reducible assumption) | exact pj1 (by with_reducible assumption) | exact pj2 (by with_reducible assumption) | exact pj3 (by with_reducible assumption) | exact pj4 (by with_reducible assumption) | exact pj5 (by with_reducible assumption) | exact pj6 (by with_reducible assumption) | exact pj7 (by with_reducible assumption) | exact pj8 (by with_reducible assumption) | exact pj9 (by with_reducible assumption) | exact pj10 (by with_reducible assumption) | exact pj11 (by with_reducible assumption) | exact pj12 (by with_reducible assumption) | exact pj13 (by with_reducible assumption) | exact pj14 (by with_reducible assumption) | exact pj15 (by with_reducible assumption) | exact pj16 (by with_reducible assumption) | exact pj17 (by with_reducible assumption) | exact pj18 (by with_reducible assumption) | exact pj19 (by with_reducible assumption) | exact pj20 (by with_reducible assumption) | exact pj21 (by with_reducible assumption) | exact pj22 (by with_reducible assumption) | exact pj23 (by with_reducible assumption) | exact pj24 (by with_reducible assumption)
  k_with "pj2" => first | exact ltR (by k_extra "lt") | exact ltL (k := 4) (by k_extra "lt") (Nat.le_of_ble_eq_true rfl) | exact ltLR (k := 4) (by k_extra "lt") (Nat.le_of_ble_eq_true rfl) | exact ltR (by k_extra "pj") | exact ltL (k := 4) (by k_extra "pj") (Nat.le_of_ble_eq_true rfl) | exact ltLR (k := 4) (by k_extra "pj") (Nat.le_of_ble_eq_true rfl)
  k_with "lt" => first | with_reducible assumption | exact ltOf (by with_reducible assumption) (by k_mem)
  k_with "k_ne" => (refine neN ?_; (try dsimp only); first | exact neK rfl | exact neK0 rfl | exact neK1 rfl | exact Nat.ne_of_lt (by k_extra "lt") | exact Nat.ne_of_gt (by k_extra "lt") | exact Nat.ne_of_lt (by k_extra "pj") | exact Nat.ne_of_gt (by k_extra "pj") | exact Nat.ne_of_lt (by k_extra "pj2") | exact Nat.ne_of_gt (by k_extra "pj2") | k_extra "pj" | k_extra "pq" | exact Ne.symm (by k_extra "pj") | omega)
  k_with "mb" => first | with_reducible exact incM | with_reducible assumption | (with_reducible refine incMT ?_; k_extra "mb") | (with_reducible refine incML ?_; k_extra "mb") | (with_reducible refine incMR ?_; k_extra "mb")
  k_with "sbl" => first | with_reducible exact incI | (with_reducible refine incT ?_; k_extra "sbl") | (with_reducible refine incL ?_; k_extra "sbl") | (with_reducible refine incR ?_; k_extra "sbl")
  k_with "sb" => first | with_reducible exact incI | with_reducible exact incN | (with_reducible refine' incC ?m9 ?r9; (case m9 => k_extra "mb"); (case r9 => k_extra "sb")) | (k_extra "sbl") | (with_reducible refine incA ?_ ?_ <;> k_extra "sb")
  k_with "mg" => first | with_reducible exact List.mem_cons_self | (with_reducible refine List.mem_cons_of_mem _ ?_; k_extra "mg")
  k_with "ne1" => first | exact h1 | exact neP h2 (by k_extra "mg") | exact neC h3 (by k_extra "mg") | fail "ne1"
  k_with "nc" => with_reducible first | exact h3 | exact ncN | (refine' ncC ?b9 ?q9; (case b9 => k_extra "ne1"); (case q9 => k_extra "nc")) | fail "nc"
  k_with "sm" => with_reducible first | rfl | (refine' sm1 ?a9 ?r9; (case a9 => k_extra "ne1"); (case r9 => k_extra "sm")) | (refine' sm2 ?h9 ?r9; (case h9 => k_extra "nc"); (case r9 => k_extra "sm")) | (refine sm3 h2 ?_; k_extra "sm") | fail "sm"
  k_with "rm" => first | exact ltA0 (by with_reducible assumption) | exact ltA1 (by with_reducible assumption) (Nat.le_of_ble_eq_true rfl) | exact ltA2 (by with_reducible assumption) (Nat.le_of_ble_eq_true rfl) | exact ltA3 (by with_reducible assumption) (Nat.le_of_ble_eq_true rfl)
  k_with "sz" => first | with_reducible assumption | with_reducible exact Nat.le_of_ble_eq_true (Eq.refl true)
  have hS : g'.IsList sl vs.toArray := hP0.at fun o e => FG'.keep _ o e
  k_with "my newList" => (k_here; k_dflt (refine' newList_K (by k_asm) (by k_asm) ?_ (by size_fits)); intro lq hq9 Fq Nq lq1; (try k_fold))
  k_with "my pyIter ref" => 
    k_here
    rename Fr _ _ _ _ => F8
    rename News _ _ _ _ => N8
    rename IsRange _ _ _ _ _ _ _ _ => R8
    with_unfolding_all refine' lp_rangeL (σ := CeC) (x := Str.ofString "place") (fun c => (lq, listOf c.us.toArray c.cap) :: news) (fun _ => []) [] (fun _ c => IntsAre c.us c.xs ∧ c.xs.length = 7) ⟨_, [3, 1, 3, 2, 1, 0, 1], 0⟩ (by rfl) (by rfl) R8 (by exact small_one (by decide) (by decide) (by omega) (by omega)) (n := ns.length) (by first | rfl | omega | (rw [rangeSize_nat, Int.sub_zero]; done) | (rw [rangeSize_nat]; omega)) F8 ?kN ?kk ?kp ?_ ?_
    case kN => first | exact N8 | with_unfolding_all exact N8 | (refine kst_newsOf N8 ?_; with_reducible refine Inc.use ?_; k_extra "sb") | (refine kst_newsOf N8 ?_; intro p hp; simp only [List.mem_append, List.mem_cons, List.not_mem_nil, or_false] at hp ⊢; simp only [hp, true_or, or_true])
    case kk => kst_all
    case kp => exact ⟨.cons _ _ (.cons _ _ (.cons _ _ (.cons _ _ (.cons _ _ (.cons _ _ (.cons _ _ .nil)))))), rfl⟩
    clear F8 N8 R8
    rotate_left
    clear F8 N8 R8
    rotate_right
    all_goals first
      | (intro c i t7 u7 h7 tk7 own hi hoff hP F7 N7; obtain ⟨us9, xs9, cap9⟩ := c; (try dsimp only [kstB] at F7); (try dsimp only at N7); (try dsimp only at hP); (obtain ⟨hI9, hl9⟩ := hP); (try dsimp only); (try k_fold))
      | (intro c u7 h7 tk7 hP F7 N7; obtain ⟨us9, xs9, cap9⟩ := c; (try dsimp only [kstB] at F7); (try dsimp only at N7); (try dsimp only at hP); (obtain ⟨hI9, hl9⟩ := hP); (try dsimp only); (try k_fold))
  k_with "my setItem ref int" => 
    have hfa : (0 + (i : Int)).fmod 7 < 7 := fm_hi _ (by decide)
    have hfb : 0 ≤ (0 + (i : Int)).fmod 7 := fm_lo _ (by decide)
    k_here
    k_dflt (refine' set_cell ?F ?N (off_cell lq1 hoff) hI9 hfb ?y ?z ?_; (case F => k_asm); (case N => k_asm); (case y => (rw [hl9]; exact hfa)); (case z => exact Int.lt_trans hfa (by decide)))
    intro us8 xs8 h8 F8 N8 hI8 hl8
    clear hfa hfb
  k_with "my LpEnd" => (rename News _ _ _ _ => N8; refine' lp_end (CeC.mk us8 xs8 cap9) (by k_asm) N8 ?hn ?ho ?hf ?hk ?hr ?hp; (case hk => kst_all); (case hn => (try dsimp only); (first | (with_reducible refine Inc.use ?_; k_extra "sb") | (intro p hp; simp only [List.mem_append, List.mem_cons, List.not_mem_nil, or_false] at hp ⊢; first | (simp only [hp, true_or, or_true]; done) | ((repeat' (refine Or.elim hp ?_ ?_ <;> clear hp <;> intro hp)) <;> simp only [hp, true_or, or_true])))); (case ho => (first | (with_reducible refine Inc.use ?_; k_extra "sb") | (intro p hp; simp only [List.mem_append, List.mem_cons, List.not_mem_nil, or_false] at hp ⊢; first | (simp only [hp, true_or, or_true]; done) | ((repeat' (refine Or.elim hp ?_ ?_ <;> clear hp <;> intro hp)) <;> simp only [hp, true_or, or_true])))); (case hf => (try dsimp only); with_unfolding_all exact hoff); (case hr => first | (intro z9 h1 h2 h3; k_extra "sm"; done) | kst_same); (case hp => (try dsimp only); exact ⟨by assumption, hl8.trans hl9⟩))
  repeat' (first | (k_unfold; (try dsimp only)) | (k_end; wrow_close) | ((with_reducible show wpAny _ _ (execs (_ :: _) _) _ _ _); dsimp only; walk1) | walk1 | (dsimp only; walk1) | (leave1; walk_say "STEP leave1"; try dsimp only) | fail "no step")
  all_goals exact hret _ _ _ _ (by k_asm) (by k_asm) ⟨_, _, _, _, rfl, rfl, hI9, hl9, lq1⟩
end
-- part Cheard
section
theorem top_off_Cheard : True := by
  w_top off
  exact True.intro
theorem code_defR {prog : Program} {w : World} {A A₀ : Around} {s : Shared} {K : Frag} {L : Addr} {h₀ base : Heap} {m mg mb : Str → Option Value} {news : List (Addr × Obj)} {p : Program} {loose : List Str} {mean : ExcName → Option Value} {env : Env} {R : Result → Shared → Prop} {name qual : Str} {params : Arguments} {body : List Stmt} {scope : Scope} {dV kV doc pm cdv ct oc : Value} {an od : Option Addr} {osl : Array (Option Value)} {f : Addr} {args : Args} (binds : List (Str × Value))
    (B : Below A₀ base [] h₀) (F : Fr h₀ L s.heap m) (X₀ : K.In h₀) (N : News h₀ L s.heap news) (T : Top p loose mean mg mb h₀) (hA : A.frames = some [env]) (hf : env.frame = some L) (hke : env.scope.kind = .function)
    (ho : K.lookup f = some ⟨oc, od, .func (fnOf name qual params body scope dV kV doc pm an cdv ct), osl⟩) (hcd : codeIn K cdv qual = true) (hroom : A.depth < recursionLimit)
    (hbind : BindsTo s (fnOf name qual params body scope dV kV doc pm an cdv ct) args binds) (hloc : ∀ y ∈ binds, scope.names.lookup y.1 = some .local)
    (h : ∀ g L' h₁ tk, Fr h₀ L g m → Fr g L' h₁ (fun y => binds.reverse.lookup y) → News g L' h₁ news → Below A base [env] g → K.In g → Top p loose mean mg mb g → KtsDicts ([env].filterMap (·.frame)) g →
      wpAny (model prog w) (A.deeper (envOf qual scope L' f cdv)) (execs body (envOf qual scope L' f cdv))
        (fun fl s' => LeaveS0 ([env].filterMap (·.frame)) h₀ L m g R (match fl with | .ret v => v | _ => .none) s')
        (fun e s' => wpAny (model prog w) (A.deeper (envOf qual scope L' f cdv)) (leaving (envOf qual scope L' f cdv) e) (fun _ s'' => R (.error e) s'') (fun e' s'' => R (.error e') s'') s')
        { s with heap := h₁, toks := tk })
    (hco : scope.isCoroutine = false) (hgen : scope.isGenerator = false) (hk : scope.kind = .function)
    (hcell : ∀ x ∈ scope.names, x.2 ≠ .cell) : codeAny (model prog w) A (.call (.ref f) args) R s := by
  have only : ∀ {b : Addr}, b ∈ [env].filterMap (·.frame) → b = L := by
    intro b hb
    obtain ⟨e, he, hq⟩ := List.mem_filterMap.mp hb
    rw [List.mem_singleton.mp he, hf] at hq
    exact (Option.some.inj hq).symm
  have hL0 : h₀.get? L = none := kts_self F
  obtain ⟨G, BG, st, _⟩ := groundX (R := R) B F N hA hf hke
  obtain ⟨oL, es, ep, hLg, hLd, hLk, hLf⟩ := G.ns
  refine codeAny_call_def (fd := fnOf name qual params body scope dV kV doc pm an cdv ct) (body := body) (binds := binds) hroom ((X₀.keeps F.keep) _ _ ho) rfl (T.nolimit.keeps F.keep) (codeRec_of (X₀.keeps F.keep) hcd) rfl hbind hcell hloc (fun h₁ hns hk₁ => ?_) hco hgen hk
  have FF : Fr (hideAll s.heap (news.map (·.1))) s.heap.objs.size h₁ (fun y => binds.reverse.lookup y) := ⟨hns, fun b o e => hk₁ b o (of_hideAll _ e), Nat.le_of_eq (hideAll_size _ _)⟩
  have NN : News (hideAll s.heap (news.map (·.1))) s.heap.objs.size h₁ news := fun q hq => ⟨hk₁ _ _ (N q hq).1, Nat.ne_of_lt (Heap.lt_size (N q hq).1), hideAll_none _ (List.mem_map_of_mem hq)⟩
  have DD : KtsDicts ([env].filterMap (·.frame)) (hideAll s.heap (news.map (·.1))) := fun b hb => by
    rw [only hb]; exact ⟨oL, es, ep, hLg, hLd⟩
  refine wpAny_mono (h _ _ h₁ _ G FF NN BG (X₀.keeps st) (T.keeps st) DD) (fun fl s' hl => ?_) fun _ _ y => y
  obtain ⟨g', L', m', news', T', F', N', k⟩ := hl
  obtain ⟨sl, hs⟩ := T'.up hLg
  refine k ⟨⟨_, es, ep, F'.keep _ _ hs, hLd, hLk, hLf⟩, fun b o e => F'.keep _ _ (T'.other b o (st b o e) fun hb => ?_), F.above⟩ fun q hq => ⟨(N' q hq).1, fun e => ?_, ?_⟩
  · rw [only hb, hL0] at e; cases e
  · have z := (N' q hq).2.2
    rw [e, hs] at z; cases z
  · cases z : h₀.get? q.1 with
    | none => rfl
    | some o =>
      obtain ⟨sl', hs'⟩ := T'.up (st _ _ z)
      have y := (N' q hq).2.2
      rw [hs'] at y; cases y
noncomputable def CS0 (w : World) (K : Frag) (f : Addr) (d : Nat) (vs : List Value) (news : List (Addr × Obj)) (post : Value → List (Addr × Obj) → Prop) : Prop :=
  ∀ (mean : ExcName → Option Value) (mg mb : Str → Option Value) (dp un : Nat) (gd : Option (List Code)) (cn : Str) (cs : Scope) (a : Addr) (ccd : Value) (cl : List (Str × Addr)) (A₀ : Around) (base h₀ : Heap) (L : Addr) (m : Str → Option Value) (s : Shared) (Q E : Value → Shared → Prop),
    Below A₀ base [] h₀ → Fr h₀ L s.heap m → K.In h₀ → K.In base → Top hd.view_39 (looseW hd.view_39 [Str.ofString "EXACT_TOKEN_TYPES"]) mean mg mb base → News h₀ L s.heap news → Top hd.view_39 (looseW hd.view_39 [Str.ofString "EXACT_TOKEN_TYPES"]) mean mg mb h₀ → cs.kind = .function → dp + d < recursionLimit → un + 8 * d < cLine →
    (∀ r news' h' tk', Fr h₀ L h' m → News h₀ L h' news' → post r news' → Q r { s with heap := h', toks := tk' }) →
    wpAny (model PySem.Challenge.rw_yf0019_01.row.prog w) (ktrTop dp un gd cn cs L a ccd cl []) (call (.ref f) vs) Q E s
theorem CS0.use {w : World} {K : Frag} {f : Addr} {d : Nat} {vs : List Value} {news : List (Addr × Obj)} {post : Value → List (Addr × Obj) → Prop} {mean : ExcName → Option Value} {mg mb : Str → Option Value} {dp un : Nat} {gd : Option (List Code)} {cn : Str} {cs : Scope} {a : Addr} {ccd : Value} {cl : List (Str × Addr)} {A₀ : Around} {base h₀ : Heap} {L : Addr} {m : Str → Option Value} {s : Shared} {Q E : Value → Shared → Prop}
    (C : CS0 w K f d vs news post) (B : Below A₀ base [] h₀) (F : Fr h₀ L s.heap m) (X : K.In h₀) (XB : K.In base) (TB : Top hd.view_39 (looseW hd.view_39 [Str.ofString "EXACT_TOKEN_TYPES"]) mean mg mb base) (N : News h₀ L s.heap news) (T : Top hd.view_39 (looseW hd.view_39 [Str.ofString "EXACT_TOKEN_TYPES"]) mean mg mb h₀) (hk : cs.kind = .function) (hd : dp + d < recursionLimit) (hu : un + 8 * d < cLine)
    (ret : ∀ r news' h' tk', Fr h₀ L h' m → News h₀ L h' news' → post r news' → Q r { s with heap := h', toks := tk' }) :
    wpAny (model PySem.Challenge.rw_yf0019_01.row.prog w) (ktrTop dp un gd cn cs L a ccd cl []) (call (.ref f) vs) Q E s :=
  C mean mg mb dp un gd cn cs a ccd cl A₀ base h₀ L m s Q E B F X XB TB N T hk hd hu ret
theorem heard1 (w : World) (x : Str) (t1 t2 : Tok) (hx : x.length ≤ 400) (h3 : Txt.slice x none (some 3) = Str.ofString "257") (h5 : Txt.slice x (some 3) (some 5) = Str.ofString " \"" → 5 ≤ x.length) (news : List (Addr × Obj)) : CS0 w (hd.heap_39 w.params) 145 4 [.str x t1, .str (Str.ofString "") t2] news (fun r n => (∃ t, r = .str (p257v x) t) ∧ n = news) := by
  unfold CS0
  k_fill
  intro mean mg mb dp un gd cn cs a ccd cl A₀ base h₀ L m s Q E B F X XB TB N T hk hd hu hret
  refine wpAny_call ?_
  k_dflt (refine' code_defR [(Str.ofString "reply", .str x t1), (Str.ofString "peer", .str (Str.ofString "") t2)] ?k1 ?k2 ?k3 ?k4 ?k5 ?kA ?kF ?kK ?k6 ?k7 ?k8 ?k9 ?kB ?_ ?c2 ?c3 ?c4 ?c5; (case kA => exact rfl); (case kF => exact rfl); (case kK => assumption); (case k1 => k_asm); (case k2 => k_asm); (case k3 => k_asm); (case k4 => k_asm); (case k5 => k_asm); (case k6 => k_is); (case k7 => k_is); (case k8 => ktr_room); (case k9 => exact BindsTo.of_eq rfl); (case c5 => decide); (case kB => exact locs rfl); (case c2 => exact rfl); (case c3 => exact rfl); (case c4 => exact rfl); k_whole)
  intro g' L' h' tk' FG' F9 N' B' X' T' D'
  replace F9 := fr2 (a := Str.ofString "reply") (b := Str.ofString "peer") F9
  (try dsimp only)
  (try k_fold)
  k_with_none
  k_with "k_mem" => first | exact (by with_reducible assumption) | exact (List.mem_cons_of_mem _ (by with_reducible assumption)) | exact (List.mem_cons_of_mem _ (List.mem_cons_of_mem _ (by with_reducible assumption))) | exact (List.mem_cons_of_mem _ (List.mem_cons_of_mem _ (List.mem_cons_of_mem _ (by with_reducible assumption)))) | exact (List.mem_cons_of_mem _ (List.mem_cons_of_mem _ (List.mem_cons_of_mem _ (List.mem_cons_of_mem _ (by with_reducible assumption)))))
  k_with "pj" => first | with_reducible assumption | exact pj0 (by with_reducible assumption) | exact pj1 (by with_reducible assumption) | exact pj2 (by with_reducible assumption) | exact pj3 (by with_reducible assumption) | exact pj4 (by with_reducible assumption) | exact pj5 (by with_reducible assumption) | exact pj6 (by with_reducible assumption) | exact pj7 (by with_reducible assumption) | exact pj8 (by with_reducible assumption) | exact pj9 (by with_reducible assumption) | exact pj10 (by with_reducible assumption) | exact pj11 (by with_reducible assumption) | exact pj12 (by with_reducible assumption) | exact pj13 (by with_reducible assumption) | exact pj14 (by with_reducible assumption) | exact pj15 (by with_reducible assumption) | exact pj16 (by with_reducible assumption) | exact pj17 (by with_reducible assumption) | exact pj18 (by with_reducible assumption) | exact pj19 (by with_reducible assumption) | exact pj20 (by with_reducible assumption) | exact pj21 (by with_reducible assumption) | exact pj22 (by with_reducible assumption) | exact pj23 (by with_reducible assumption) | exact pj24 (by with_reducible assumption)
  k_with "pj2" => first | exact ltR (by k_extra "lt") | exact ltL (k := 4) (by k_extra "lt") (Nat.le_of_ble_eq_true rfl) | exact ltLR (k := 4) (by k_extra "lt") (Nat.le_of_ble_eq_true rfl) | exact ltR (by k_extra "pj") | exact ltL (k := 4) (by k_extra "pj") (Nat.le_of_ble_eq_true rfl) | exact ltLR (k := 4) (by k_extra "pj") (Nat.le_of_ble_eq_true rfl)
  k_with "lt" => first | with_reducible assumption | exact ltOf (by with_reducible assumption) (by k_mem)
  k_with "k_ne" => (refine neN ?_; (try dsimp only); first | exact neK rfl | exact neK0 rfl | exact neK1 rfl | exact Nat.ne_of_lt (by k_extra "lt") | exact Nat.ne_of_gt (by k_extra "lt") | exact Nat.ne_of_lt (by k_extra "pj") | exact Nat.ne_of_gt (by k_extra "pj") | exact Nat.ne_of_lt (by k_extra "pj2") | exact Nat.ne_of_gt (by k_extra "pj2") | k_extra "pj" | k_extra "pq" | exact Ne.symm (by k_extra "pj") | omega)
  k_with "mb" => first | with_reducible exact incM | with_reducible assumption | (with_reducible refine incMT ?_; k_extra "mb") | (with_reducible refine incML ?_; k_extra "mb") | (with_reducible refine incMR ?_; k_extra "mb")
  k_with "sbl" => first | with_reducible exact incI | (with_reducible refine incT ?_; k_extra "sbl") | (with_reducible refine incL ?_; k_extra "sbl") | (with_reducible refine incR ?_; k_extra "sbl")
  k_with "sb" => first | with_reducible exact incI | with_reducible exact incN | (with_reducible refine' incC ?m9 ?r9; (case m9 => k_extra "mb"); (case r9 => k_extra "sb")) | (k_extra "sbl") | (with_reducible refine incA ?_ ?_ <;> k_extra "sb")
  k_with "mg" => first | with_reducible exact List.mem_cons_self | (with_reducible refine List.mem_cons_of_mem _ ?_; k_extra "mg")
  k_with "ne1" => first | exact h1 | exact neP h2 (by k_extra "mg") | exact neC h3 (by k_extra "mg") | fail "ne1"
  k_with "nc" => with_reducible first | exact h3 | exact ncN | (refine' ncC ?b9 ?q9; (case b9 => k_extra "ne1"); (case q9 => k_extra "nc")) | fail "nc"
  k_with "sm" => with_reducible first | rfl | (refine' sm1 ?a9 ?r9; (case a9 => k_extra "ne1"); (case r9 => k_extra "sm")) | (refine' sm2 ?h9 ?r9; (case h9 => k_extra "nc"); (case r9 => k_extra "sm")) | (refine sm3 h2 ?_; k_extra "sm") | fail "sm"
  k_with "rm" => first | exact ltA0 (by with_reducible assumption) | exact ltA1 (by with_reducible assumption) (Nat.le_of_ble_eq_true rfl) | exact ltA2 (by with_reducible assumption) (Nat.le_of_ble_eq_true rfl) | exact ltA3 (by with_reducible assumption) (Nat.le_of_ble_eq_true rfl)
  k_with "sz" => first | with_reducible assumption | with_reducible exact Nat.le_of_ble_eq_true (Eq.refl true)
  k_with "my call ref" => first | (k_here; k_dflt (refine' CS.use (p257 w _ _ (by assumption) (by assumption) (by assumption) _) ?B ?F ?X ?N ?T ?K ?D ?U ?_; (case B => k_asm); (case F => k_asm); (case X => k_asm); (case N => k_asm); (case T => k_asm); (case K => first | exact rfl | assumption); (case D => first | k_extra "rm" | omega | (show dp + _ + _ < recursionLimit; omega) | (show dp + _ < recursionLimit; omega) | (show _ + _ < recursionLimit; decide)); (case U => first | k_extra "rm" | omega | (show un + _ + 8 * _ < cLine; omega) | (show un + 8 * _ < cLine; omega) | ktr_units); k_whole; intro r9 n9 h9 tk9 F9 N9 p9; obtain ⟨⟨t9, rfl⟩, rfl, _⟩ := p9; skip; (try dsimp only); (try k_fold)))
  repeat' (first | (k_unfold; (try dsimp only)) | (k_end; wrow_close) | ((with_reducible show wpAny _ _ (execs (_ :: _) _) _ _ _); dsimp only; walk1) | walk1 | (dsimp only; walk1) | (leave1; walk_say "STEP leave1"; try dsimp only) | fail "no step")
  all_goals exact hret _ _ _ _ (by k_asm) (by k_asm) ⟨⟨_, rfl⟩, rfl⟩
theorem str_own {prog : Program} {w : World} {A : Around} {E : Value → Shared → Prop} {s : Shared} {K : Frag} {C e t0 : Addr} {oe : Obj} {ws : Array Value} {m : Str} {u : Tok} {Q : Value → Shared → Prop} (X : K.In s.heap) (ho : s.heap.get? e = some oe) (hc : oe.cls = .ref C) (hd : oe.data = .fields ws) (h0 : ws[0]? = some (.ref t0)) (ht : s.heap.TupAt t0 [.str m u])
    (hs : findIn K (.ref C) "__str__" = some (some (.builtin "BaseException.__str__"))) (hm : mroIn K C (.type "BaseException") = some true) (hu : A.in1.in1.units < cLine) (h : Q (.str m u) s) : wpAny (model prog w) A (call (.type "str") [.ref e]) Q E s := by
  have lt : ∀ M : Model, Looks M s.heap (typeOf (.ref e)) (.ref C) := fun M => hc ▸ (Looks.ld ho).andThen .now
  refine callType_codes (T := "str") (Bi := Builtin.«object.__init__») (Q₁ := fun r s₁ => ∃ y u, r = .str y u ∧ Q r s₁) PySem.F.called_str (PySem.F.typeCall_str_1 _) PySem.F.entry_object_init ?_ ?_
  · refine codeAny_of_tree ?_
    show wpAny _ A.in1.in1 (do checkBuiltinCall "str.__new__" ⟨[.type "str", .ref e], []⟩; again (.builtin "str.__new__" ⟨[.type "str", .ref e], []⟩)) _ _ s
    refine wpAny_bind (wpAny_of_eq (PySem.F.newCall_str_1 _) (wpAny_pure ⟨plainId_quiet (by decide +kernel) _, codeAny_builtin PySem.F.entry_str_new ?_⟩))
    rw [Around.under_plainId (by decide +kernel) _, str_new_tree]
    refine wpAny_bind (wpAny_pure ?_)
    refine wpAny_bind (wpAny_of_eq isSubtype_str_str ?_)
    have key : wpAny (model prog w) A.in1.in1 (PySem.Builtin.Str.strOf (.ref e)) (fun r s₁ => ∃ y u, r = .str y u ∧ Q r s₁) E s := by
      unfold PySem.Builtin.Str.strOf
      rw [show PySem.Builtin.Str.isExactStr (.ref e) = false from rfl]
      refine wpAny_bind (m := cRoomFor _ _) (wpAny_cRoomFor hu ?_)
      refine wpAny_bind (m := callSpecial? (.ref e) (Str.ofString "__str__")) ?_
      refine wpAny_bind (wpAny_bind ((lt _).here ((looks_findIn X hs).here (wpAny_holding (wpAny_bind ((Looks.of_pure (F.excStr_Exception.str.bind _)).here (wpAny_bind ?_)))))))
      refine wpAny_call (codeAny_call_builtin F.excStr_Exception.str.plain PySem.F.entry_bexc_str (check_slot (i := "BaseException.__str__") (owner := "BaseException") (n := "__str__") (by decide +kernel) (by decide +kernel) ((lt _).andThen (looks_mroIn X hm)) (PySem.F.args_bexc_str _) ?_))
      unfold Builtin.«BaseException.__str__»
      refine wpAny_bind (m := slotArgs "__str__" 0 _) (wpAny_pure ?_)
      refine wpAny_bind (m := Builtin.BaseException.bexcArgs (.ref e)) ?_
      obtain ⟨ot, k, hto, _, htd⟩ := ht
      unfold Builtin.BaseException.bexcArgs
      refine wpAny_bind (wpAny_field ho hd h0 (wpAny_bind (wpAny_seqItems hto htd ?_)))
      show wpAny _ _ (pure (Value.ref t0, [Value.str m u])) _ _ _
      refine wpAny_pure ?_
      repeat wp_step
      exact ⟨_, _, rfl, h⟩
    exact wpAny_bind (wpAny_mono key (fun r s₁ hr => wpAny_pure hr) fun _ _ y => y)
  · rintro obj s₁ ⟨y, u, rfl, hq⟩
    exact ⟨typeIs_str _ _ _, PySem.F.args_object_init_2 _ _, object_init_meets PySem.F.called_str.init.lookup PySem.F.called_str.made (by decide) prog w A.in1 _ s₁ ⟨typeIs_str _ _ _, rfl, hq⟩⟩
theorem heard2 (w : World) (x : Str) (t1 t2 : Tok) (hx : x.length ≤ 400) (h3 : (Txt.slice x none (some 3) != Str.ofString "257") = true) (news : List (Addr × Obj)) : CS0 w (hd.heap_39 w.params) 145 4 [.str x t1, .str (Str.ofString "") t2] news (fun r n => (∃ t, r = .str (Str.ofString "reply " ++ x) t) ∧ n = news) := by
  unfold CS0
  k_fill
  intro mean mg mb dp un gd cn cs a ccd cl A₀ base h₀ L m s Q E B F X XB TB N T hk hd hu hret
  refine wpAny_call ?_
  k_dflt (refine' code_defR [(Str.ofString "reply", .str x t1), (Str.ofString "peer", .str (Str.ofString "") t2)] ?k1 ?k2 ?k3 ?k4 ?k5 ?kA ?kF ?kK ?k6 ?k7 ?k8 ?k9 ?kB ?_ ?c2 ?c3 ?c4 ?c5; (case kA => exact rfl); (case kF => exact rfl); (case kK => assumption); (case k1 => k_asm); (case k2 => k_asm); (case k3 => k_asm); (case k4 => k_asm); (case k5 => k_asm); (case k6 => k_is); (case k7 => k_is); (case k8 => ktr_room); (case k9 => exact BindsTo.of_eq rfl); (case c5 => decide); (case kB => exact locs rfl); (case c2 => exact rfl); (case c3 => exact rfl); (case c4 => exact rfl); k_whole)
  intro g' L' h' tk' FG' F9 N' B' X' T' D'
  replace F9 := fr2 (a := Str.ofString "reply") (b := Str.ofString "peer") F9
  (try dsimp only)
  (try k_fold)
  k_with_none
  k_with "k_mem" => first | exact (by with_reducible assumption) | exact (List.mem_cons_of_mem _ (by with_reducible assumption)) | exact (List.mem_cons_of_mem _ (List.mem_cons_of_mem _ (by with_reducible assumption))) | exact (List.mem_cons_of_mem _ (List.mem_cons_of_mem _ (List.mem_cons_of_mem _ (by with_reducible assumption)))) | exact (List.mem_cons_of_mem _ (List.mem_cons_of_mem _ (List.mem_cons_of_mem _ (List.mem_cons_of_mem _ (by with_reducible assumption)))))
  k_with "pj" => first | with_reducible assumption | exact pj0 (by with_reducible assumption) | exact pj1 (by with_reducible assumption) | exact pj2 (by with_reducible assumption) | exact pj3 (by with_reducible assumption) | exact pj4 (by with_reducible assumption) | exact pj5 (by with_reducible assumption) | exact pj6 (by with_reducible assumption) | exact pj7 (by with_reducible assumption) | exact pj8 (by with_reducible assumption) | exact pj9 (by with_reducible assumption) | exact pj10 (by with_reducible assumption) | exact pj11 (by with_reducible assumption) | exact pj12 (by with_reducible assumption) | exact pj13 (by with_reducible assumption) | exact pj14 (by with_reducible assumption) | exact pj15 (by with_reducible assumption) | exact pj16 (by with_reducible assumption) | exact pj17 (by with_reducible assumption) | exact pj18 (by with_reducible assumption) | exact pj19 (by with_reducible assumption) | exact pj20 (by with_reducible assumption) | exact pj21 (by with_reducible assumption) | exact pj22 (by with_reducible assumption) | exact pj23 (by with_reducible assumption) | exact pj24 (by with_reducible assumption)
  k_with "pj2" => first | exact ltR (by k_extra "lt") | exact ltL (k := 4) (by k_extra "lt") (Nat.le_of_ble_eq_true rfl) | exact ltLR (k := 4) (by k_extra "lt") (Nat.le_of_ble_eq_true rfl) | exact ltR (by k_extra "pj") | exact ltL (k := 4) (by k_extra "pj") (Nat.le_of_ble_eq_true rfl) | exact ltLR (k := 4) (by k_extra "pj") (Nat.le_of_ble_eq_true rfl)
  k_with "lt" => first | with_reducible assumption | exact ltOf (by with_reducible assumption) (by k_mem)
  k_with "k_ne" => (refine neN ?_; (try dsimp only); first | exact neK rfl | exact neK0 rfl | exact neK1 rfl | exact Nat.ne_of_lt (by k_extra "lt") | exact Nat.ne_of_gt (by k_extra "lt") | exact Nat.ne_of_lt (by k_extra "pj") | exact Nat.ne_of_gt (by k_extra "pj") | exact Nat.ne_of_lt (by k_extra "pj2") | exact Nat.ne_of_gt (by k_extra "pj2") | k_extra "pj" | k_extra "pq" | exact Ne.symm (by k_extra "pj") | omega)
  k_with "mb" => first | with_reducible exact incM | with_reducible assumption | (with_reducible refine incMT ?_; k_extra "mb") | (with_reducible refine incML ?_; k_extra "mb") | (with_reducible refine incMR ?_; k_extra "mb")
  k_with "sbl" => first | with_reducible exact incI | (with_reducible refine incT ?_; k_extra "sbl") | (with_reducible refine incL ?_; k_extra "sbl") | (with_reducible refine incR ?_; k_extra "sbl")
  k_with "sb" => first | with_reducible exact incI | with_reducible exact incN | (with_reducible refine' incC ?m9 ?r9; (case m9 => k_extra "mb"); (case r9 => k_extra "sb")) | (k_extra "sbl") | (with_reducible refine incA ?_ ?_ <;> k_extra "sb")
  k_with "mg" => first | with_reducible exact List.mem_cons_self | (with_reducible refine List.mem_cons_of_mem _ ?_; k_extra "mg")
  k_with "ne1" => first | exact h1 | exact neP h2 (by k_extra "mg") | exact neC h3 (by k_extra "mg") | fail "ne1"
  k_with "nc" => with_reducible first | exact h3 | exact ncN | (refine' ncC ?b9 ?q9; (case b9 => k_extra "ne1"); (case q9 => k_extra "nc")) | fail "nc"
  k_with "sm" => with_reducible first | rfl | (refine' sm1 ?a9 ?r9; (case a9 => k_extra "ne1"); (case r9 => k_extra "sm")) | (refine' sm2 ?h9 ?r9; (case h9 => k_extra "nc"); (case r9 => k_extra "sm")) | (refine sm3 h2 ?_; k_extra "sm") | fail "sm"
  k_with "rm" => first | exact ltA0 (by with_reducible assumption) | exact ltA1 (by with_reducible assumption) (Nat.le_of_ble_eq_true rfl) | exact ltA2 (by with_reducible assumption) (Nat.le_of_ble_eq_true rfl) | exact ltA3 (by with_reducible assumption) (Nat.le_of_ble_eq_true rfl)
  k_with "sz" => first | with_reducible assumption | with_reducible exact Nat.le_of_ble_eq_true (Eq.refl true)
  k_with "my call ref" => (k_here; (refine wpAny_call ?_; k_dflt (refine' code_defS ?k1 ?k2 ?k3 ?k4 ?k5 ?XB ?TB ?D ?T0 ?kA ?k6 ?k7 ?k8 ?k9 ?kB ?_ ?cK ?c2 ?c3 ?c4 ?c5; (case kA => exact rfl); (case k2 => k_asm); (case k1 => k_asm); (case XB => assumption); (case TB => assumption); (case D => assumption); (case T0 => first | assumption | exact KtsTurn.refl); (case k3 => k_asm); (case k4 => k_asm); (case k5 => k_asm); (case k6 => k_is); (case k7 => k_is); (case k8 => ktr_room); (case k9 => exact BindsTo.of_eq rfl); (case kB => exact locs rfl); (case cK => exact rfl); (case c2 => exact rfl); (case c3 => exact rfl); (case c4 => exact rfl); (case c5 => decide); k_whole); intro g' L' h' FG' F' N' B' X' T' D'; (try dsimp only); (try k_lift B'); (try k_fold)))
  k_with "my call type:str" => 
    k_here
    rename Got _ _ _ _ _ => gX
    obtain ⟨oe9, ot9, ws9, nt9, g1, g2, g3, g4, g5, g6, g7⟩ := gX
    have g1 := News.get (by with_reducible assumption) g1
    have g2 := News.get (by with_reducible assumption) g2
    refine' str_own ?X g1 g3 g4 g5 ⟨ot9, nt9, g2, g6, g7⟩ ?hs ?hm ?hu ?_
    (case X => k_in)
    (case hs => k_is)
    (case hm => k_is)
    (case hu => (first | ktr_units | (k_dflt (show un + 1 + 2 < cLine); omega) | (k_dflt (show un + 1 + 1 < cLine); omega) | (k_dflt (show un + _ < cLine); omega)))
  repeat' (first | (k_unfold; (try dsimp only)) | (k_end; wrow_close) | ((with_reducible show wpAny _ _ (execs (_ :: _) _) _ _ _); dsimp only; walk1) | walk1 | (dsimp only; walk1) | (leave1; walk_say "STEP leave1"; try dsimp only) | fail "no step")
  all_goals exact hret _ _ _ _ (by k_asm) (by k_asm) ⟨⟨_, rfl⟩, rfl⟩
theorem heard3 (w : World) (x : Str) (t1 t2 : Tok) (hx : x.length ≤ 400) (h3 : (Txt.slice x none (some 3) != Str.ofString "229") = true) (news : List (Addr × Obj)) : CS0 w (hd.heap_39 w.params) 145 4 [.str x t1, .str (Str.ofString "peer") t2] news (fun r n => (∃ t, r = .str (Str.ofString "reply " ++ x) t) ∧ n = news) := by
  unfold CS0
  k_fill
  intro mean mg mb dp un gd cn cs a ccd cl A₀ base h₀ L m s Q E B F X XB TB N T hk hd hu hret
  refine wpAny_call ?_
  k_dflt (refine' code_defR [(Str.ofString "reply", .str x t1), (Str.ofString "peer", .str (Str.ofString "peer") t2)] ?k1 ?k2 ?k3 ?k4 ?k5 ?kA ?kF ?kK ?k6 ?k7 ?k8 ?k9 ?kB ?_ ?c2 ?c3 ?c4 ?c5; (case kA => exact rfl); (case kF => exact rfl); (case kK => assumption); (case k1 => k_asm); (case k2 => k_asm); (case k3 => k_asm); (case k4 => k_asm); (case k5 => k_asm); (case k6 => k_is); (case k7 => k_is); (case k8 => ktr_room); (case k9 => exact BindsTo.of_eq rfl); (case c5 => decide); (case kB => exact locs rfl); (case c2 => exact rfl); (case c3 => exact rfl); (case c4 => exact rfl); k_whole)
  intro g' L' h' tk' FG' F9 N' B' X' T' D'
  replace F9 := fr2 (a := Str.ofString "reply") (b := Str.ofString "peer") F9
  (try dsimp only)
  (try k_fold)
  k_with_none
  k_with "k_mem" => first | exact (by with_reducible assumption) | exact (List.mem_cons_of_mem _ (by with_reducible assumption)) | exact (List.mem_cons_of_mem _ (List.mem_cons_of_mem _ (by with_reducible assumption))) | exact (List.mem_cons_of_mem _ (List.mem_cons_of_mem _ (List.mem_cons_of_mem _ (by with_reducible assumption)))) | exact (List.mem_cons_of_mem _ (List.mem_cons_of_mem _ (List.mem_cons_of_mem _ (List.mem_cons_of_mem _ (by with_reducible assumption)))))
  k_with "pj" => first | with_reducible assumption | exact pj0 (by with_reducible assumption) | exact pj1 (by with_reducible assumption) | exact pj2 (by with_reducible assumption) | exact pj3 (by with_reducible assumption) | exact pj4 (by with_reducible assumption) | exact pj5 (by with_reducible assumption) | exact pj6 (by with_reducible assumption) | exact pj7 (by with_reducible assumption) | exact pj8 (by with_reducible assumption) | exact pj9 (by with_reducible assumption) | exact pj10 (by with_reducible assumption) | exact pj11 (by with_reducible assumption) | exact pj12 (by with_reducible assumption) | exact pj13 (by with_reducible assumption) | exact pj14 (by with_reducible assumption) | exact pj15 (by with_reducible assumption) | exact pj16 (by with_reducible assumption) | exact pj17 (by with_reducible assumption) | exact pj18 (by with_reducible assumption) | exact pj19 (by with_reducible assumption) | exact pj20 (by with_reducible assumption) | exact pj21 (by with_reducible assumption) | exact pj22 (by with_reducible assumption) | exact pj23 (by with_reducible assumption) | exact pj24 (by with_reducible assumption)
  k_with "pj2" => first | exact ltR (by k_extra "lt") | exact ltL (k := 4) (by k_extra "lt") (Nat.le_of_ble_eq_true rfl) | exact ltLR (k := 4) (by k_extra "lt") (Nat.le_of_ble_eq_true rfl) | exact ltR (by k_extra "pj") | exact ltL (k := 4) (by k_extra "pj") (Nat.le_of_ble_eq_true rfl) | exact ltLR (k := 4) (by k_extra "pj") (Nat.le_of_ble_eq_true rfl)
  k_with "lt" => first | with_reducible assumption | exact ltOf (by with_reducible assumption) (by k_mem)
  k_with "k_ne" => (refine neN ?_; (try dsimp only); first | exact neK rfl | exact neK0 rfl | exact neK1 rfl | exact Nat.ne_of_lt (by k_extra "lt") | exact Nat.ne_of_gt (by k_extra "lt") | exact Nat.ne_of_lt (by k_extra "pj") | exact Nat.ne_of_gt (by k_extra "pj") | exact Nat.ne_of_lt (by k_extra "pj2") | exact Nat.ne_of_gt (by k_extra "pj2") | k_extra "pj" | k_extra "pq" | exact Ne.symm (by k_extra "pj") | omega)
  k_with "mb" => first | with_reducible exact incM | with_reducible assumption | (with_reducible refine incMT ?_; k_extra "mb") | (with_reducible refine incML ?_; k_extra "mb") | (with_reducible refine incMR ?_; k_extra "mb")
  k_with "sbl" => first | with_reducible exact incI | (with_reducible refine incT ?_; k_extra "sbl") | (with_reducible refine incL ?_; k_extra "sbl") | (with_reducible refine incR ?_; k_extra "sbl")
  k_with "sb" => first | with_reducible exact incI | with_reducible exact incN | (with_reducible refine' incC ?m9 ?r9; (case m9 => k_extra "mb"); (case r9 => k_extra "sb")) | (k_extra "sbl") | (with_reducible refine incA ?_ ?_ <;> k_extra "sb")
  k_with "mg" => first | with_reducible exact List.mem_cons_self | (with_reducible refine List.mem_cons_of_mem _ ?_; k_extra "mg")
  k_with "ne1" => first | exact h1 | exact neP h2 (by k_extra "mg") | exact neC h3 (by k_extra "mg") | fail "ne1"
  k_with "nc" => with_reducible first | exact h3 | exact ncN | (refine' ncC ?b9 ?q9; (case b9 => k_extra "ne1"); (case q9 => k_extra "nc")) | fail "nc"
  k_with "sm" => with_reducible first | rfl | (refine' sm1 ?a9 ?r9; (case a9 => k_extra "ne1"); (case r9 => k_extra "sm")) | (refine' sm2 ?h9 ?r9; (case h9 => k_extra "nc"); (case r9 => k_extra "sm")) | (refine sm3 h2 ?_; k_extra "sm") | fail "sm"
  k_with "rm" => first | exact ltA0 (by with_reducible assumption) | exact ltA1 (by with_reducible assumption) (Nat.le_of_ble_eq_true rfl) | exact ltA2 (by with_reducible assumption) (Nat.le_of_ble_eq_true rfl) | exact ltA3 (by with_reducible assumption) (Nat.le_of_ble_eq_true rfl)
  k_with "sz" => first | with_reducible assumption | with_reducible exact Nat.le_of_ble_eq_true (Eq.refl true)
  k_with "my call ref" => (k_here; (refine wpAny_call ?_; k_dflt (refine' code_defS ?k1 ?k2 ?k3 ?k4 ?k5 ?XB ?TB ?D ?T0 ?kA ?k6 ?k7 ?k8 ?k9 ?kB ?_ ?cK ?c2 ?c3 ?c4 ?c5; (case kA => exact rfl); (case k2 => k_asm); (case k1 => k_asm); (case XB => assumption); (case TB => assumption); (case D => assumption); (case T0 => first | assumption | exact KtsTurn.refl); (case k3 => k_asm); (case k4 => k_asm); (case k5 => k_asm); (case k6 => k_is); (case k7 => k_is); (case k8 => ktr_room); (case k9 => exact BindsTo.of_eq rfl); (case kB => exact locs rfl); (case cK => exact rfl); (case c2 => exact rfl); (case c3 => exact rfl); (case c4 => exact rfl); (case c5 => decide); k_whole); intro g' L' h' FG' F' N' B' X' T' D'; (try dsimp only); (try k_lift B'); (try k_fold)))
  k_with "my call type:str" => 
    k_here
    rename Got _ _ _ _ _ => gX
    obtain ⟨oe9, ot9, ws9, nt9, g1, g2, g3, g4, g5, g6, g7⟩ := gX
    have g1 := News.get (by with_reducible assumption) g1
    have g2 := News.get (by with_reducible assumption) g2
    refine' str_own ?X g1 g3 g4 g5 ⟨ot9, nt9, g2, g6, g7⟩ ?hs ?hm ?hu ?_
    (case X => k_in)
    (case hs => k_is)
    (case hm => k_is)
    (case hu => (first | ktr_units | (k_dflt (show un + 1 + 2 < cLine); omega) | (k_dflt (show un + 1 + 1 < cLine); omega) | (k_dflt (show un + _ < cLine); omega)))
  repeat' (first | (k_unfold; (try dsimp only)) | (k_end; wrow_close) | ((with_reducible show wpAny _ _ (execs (_ :: _) _) _ _ _); dsimp only; walk1) | walk1 | (dsimp only; walk1) | (leave1; walk_say "STEP leave1"; try dsimp only) | fail "no step")
  all_goals exact hret _ _ _ _ (by k_asm) (by k_asm) ⟨⟨_, rfl⟩, rfl⟩
theorem heard4 (w : World) (x : Str) (t1 t2 : Tok) (hx : x.length ≤ 400) (h3 : (Txt.slice x none (some 3) != Str.ofString "229") = false) (l r : Int) (hl : Txt.find x (Str.ofString "(") = l) (hr : Txt.find3 x (Str.ofString ")") (Txt.find x (Str.ofString "(") + 1) = r)
    (hP : l < 0 ∨ (0 ≤ l ∧ r < 0) ∨ (0 ≤ l ∧ l + 1 < x.length ∧ 1 ≤ r ∧ r ≤ x.length ∧ (Txt.item x (l + 1) != Txt.item x (r - 1)) = true) ∨ (0 ≤ l ∧ l + 1 < x.length ∧ 1 ≤ r ∧ r ≤ x.length ∧ (Txt.item x (l + 1) != Txt.item x (r - 1)) = false ∧ (Txt.split (Txt.slice x (some (l + 1)) (some r)) (Txt.item x (l + 1))).length ≠ 5))
    (news : List (Addr × Obj)) : CS0 w (hd.heap_39 w.params) 145 4 [.str x t1, .str (Str.ofString "peer") t2] news (fun r n => (∃ t, r = .str (Str.ofString "proto " ++ x) t) ∧ n = news) := by
  subst hl hr
  unfold CS0
  k_fill
  intro mean mg mb dp un gd cn cs a ccd cl A₀ base h₀ L m s Q E B F X XB TB N T hk hd hu hret
  refine wpAny_call ?_
  k_dflt (refine' code_defR [(Str.ofString "reply", .str x t1), (Str.ofString "peer", .str (Str.ofString "peer") t2)] ?k1 ?k2 ?k3 ?k4 ?k5 ?kA ?kF ?kK ?k6 ?k7 ?k8 ?k9 ?kB ?_ ?c2 ?c3 ?c4 ?c5; (case kA => exact rfl); (case kF => exact rfl); (case kK => assumption); (case k1 => k_asm); (case k2 => k_asm); (case k3 => k_asm); (case k4 => k_asm); (case k5 => k_asm); (case k6 => k_is); (case k7 => k_is); (case k8 => ktr_room); (case k9 => exact BindsTo.of_eq rfl); (case c5 => decide); (case kB => exact locs rfl); (case c2 => exact rfl); (case c3 => exact rfl); (case c4 => exact rfl); k_whole)
  intro g' L' h' tk' FG' F9 N' B' X' T' D'
  replace F9 := fr2 (a := Str.ofString "reply") (b := Str.ofString "peer") F9
  (try dsimp only)
  (try k_fold)
  k_with_none
  k_with "k_mem" => first | exact (by with_reducible assumption) | exact (List.mem_cons_of_mem _ (by with_reducible assumption)) | exact (List.mem_cons_of_mem _ (List.mem_cons_of_mem _ (by with_reducible assumption))) | exact (List.mem_cons_of_mem _ (List.mem_cons_of_mem _ (List.mem_cons_of_mem _ (by with_reducible assumption)))) | exact (List.mem_cons_of_mem _ (List.mem_cons_of_mem _ (List.mem_cons_of_mem _ (List.mem_cons_of_mem _ (by with_reducible assumption)))))
  k_with "pj" => first | with_reducible assumption | exact pj0 (by with_reducible assumption) | exact pj1 (by with_reducible assumption) | exact pj2 (by with_reducible assumption) | exact pj3 (by with_reducible assumption) | exact pj4 (by with_reducible assumption) | exact pj5 (by with_reducible assumption) | exact pj6 (by with_reducible assumption) | exact pj7 (by with_reducible assumption) | exact pj8 (by with_reducible assumption) | exact pj9 (by with_reducible assumption) | exact pj10 (by with_reducible assumption) | exact pj11 (by with_reducible assumption) | exact pj12 (by with_reducible assumption) | exact pj13 (by with_reducible assumption) | exact pj14 (by with_reducible assumption) | exact pj15 (by with_reducible assumption) | exact pj16 (by with_reducible assumption) | exact pj17 (by with_reducible assumption) | exact pj18 (by with_reducible assumption) | exact pj19 (by with_reducible assumption) | exact pj20 (by with_reducible assumption) | exact pj21 (by with_reducible assumption) | exact pj22 (by with_reducible assumption) | exact pj23 (by with_reducible assumption) | exact pj24 (by with_reducible assumption)
  k_with "pj2" => first | exact ltR (by k_extra "lt") | exact ltL (k := 4) (by k_extra "lt") (Nat.le_of_ble_eq_true rfl) | exact ltLR (k := 4) (by k_extra "lt") (Nat.le_of_ble_eq_true rfl) | exact ltR (by k_extra "pj") | exact ltL (k := 4) (by k_extra "pj") (Nat.le_of_ble_eq_true rfl) | exact ltLR (k := 4) (by k_extra "pj") (Nat.le_of_ble_eq_true rfl)
  k_with "lt" => first | with_reducible assumption | exact ltOf (by with_reducible assumption) (by k_mem)
  k_with "k_ne" => (refine neN ?_; (try dsimp only); first | exact neK rfl | exact neK0 rfl | exact neK1 rfl | exact Nat.ne_of_lt (by k_extra "lt") | exact Nat.ne_of_gt (by k_extra "lt") | exact Nat.ne_of_lt (by k_extra "pj") | exact Nat.ne_of_gt (by k_extra "pj") | exact Nat.ne_of_lt (by k_extra "pj2") | exact Nat.ne_of_gt (by k_extra "pj2") | k_extra "pj" | k_extra "pq" | exact Ne.symm (by k_extra "pj") | omega)
  k_with "mb" => first | with_reducible exact incM | with_reducible assumption | (with_reducible refine incMT ?_; k_extra "mb") | (with_reducible refine incML ?_; k_extra "mb") | (with_reducible refine incMR ?_; k_extra "mb")
  k_with "sbl" => first | with_reducible exact incI | (with_reducible refine incT ?_; k_extra "sbl") | (with_reducible refine incL ?_; k_extra "sbl") | (with_reducible refine incR ?_; k_extra "sbl")
  k_with "sb" => first | with_reducible exact incI | with_reducible exact incN | (with_reducible refine' incC ?m9 ?r9; (case m9 => k_extra "mb"); (case r9 => k_extra "sb")) | (k_extra "sbl") | (with_reducible refine incA ?_ ?_ <;> k_extra "sb")
  k_with "mg" => first | with_reducible exact List.mem_cons_self | (with_reducible refine List.mem_cons_of_mem _ ?_; k_extra "mg")
  k_with "ne1" => first | exact h1 | exact neP h2 (by k_extra "mg") | exact neC h3 (by k_extra "mg") | fail "ne1"
  k_with "nc" => with_reducible first | exact h3 | exact ncN | (refine' ncC ?b9 ?q9; (case b9 => k_extra "ne1"); (case q9 => k_extra "nc")) | fail "nc"
  k_with "sm" => with_reducible first | rfl | (refine' sm1 ?a9 ?r9; (case a9 => k_extra "ne1"); (case r9 => k_extra "sm")) | (refine' sm2 ?h9 ?r9; (case h9 => k_extra "nc"); (case r9 => k_extra "sm")) | (refine sm3 h2 ?_; k_extra "sm") | fail "sm"
  k_with "rm" => first | exact ltA0 (by with_reducible assumption) | exact ltA1 (by with_reducible assumption) (Nat.le_of_ble_eq_true rfl) | exact ltA2 (by with_reducible assumption) (Nat.le_of_ble_eq_true rfl) | exact ltA3 (by with_reducible assumption) (Nat.le_of_ble_eq_true rfl)
  k_with "sz" => first | with_reducible assumption | with_reducible exact Nat.le_of_ble_eq_true (Eq.refl true)
  k_with "my call ref" => (k_here; (refine wpAny_call ?_; k_dflt (refine' code_defS ?k1 ?k2 ?k3 ?k4 ?k5 ?XB ?TB ?D ?T0 ?kA ?k6 ?k7 ?k8 ?k9 ?kB ?_ ?cK ?c2 ?c3 ?c4 ?c5; (case kA => exact rfl); (case k2 => k_asm); (case k1 => k_asm); (case XB => assumption); (case TB => assumption); (case D => assumption); (case T0 => first | assumption | exact KtsTurn.refl); (case k3 => k_asm); (case k4 => k_asm); (case k5 => k_asm); (case k6 => k_is); (case k7 => k_is); (case k8 => ktr_room); (case k9 => exact BindsTo.of_eq rfl); (case kB => exact locs rfl); (case cK => exact rfl); (case c2 => exact rfl); (case c3 => exact rfl); (case c4 => exact rfl); (case c5 => decide); k_whole); intro g' L' h' FG' F' N' B' X' T' D'; (try dsimp only); (try k_lift B'); (try k_fold)))
  k_with "my call type:str" => 
    k_here
    rename Got _ _ _ _ _ => gX
    obtain ⟨oe9, ot9, ws9, nt9, g1, g2, g3, g4, g5, g6, g7⟩ := gX
    have g1 := News.get (by with_reducible assumption) g1
    have g2 := News.get (by with_reducible assumption) g2
    refine' str_own ?X g1 g3 g4 g5 ⟨ot9, nt9, g2, g6, g7⟩ ?hs ?hm ?hu ?_
    (case X => k_in)
    (case hs => k_is)
    (case hm => k_is)
    (case hu => (first | ktr_units | (k_dflt (show un + 1 + 2 < cLine); omega) | (k_dflt (show un + 1 + 1 < cLine); omega) | (k_dflt (show un + _ < cLine); omega)))
  rcases hP with hP | ⟨hP1, hP2⟩ | ⟨hP1, hP2, hP3, hP4, hP5⟩ | ⟨hP1, hP2, hP3, hP4, hP5, hP6⟩
  repeat' (first | (k_unfold; (try dsimp only)) | (k_end; wrow_close) | ((with_reducible show wpAny _ _ (execs (_ :: _) _) _ _ _); dsimp only; walk1) | walk1 | (dsimp only; walk1) | (leave1; walk_say "STEP leave1"; try dsimp only) | fail "no step")
  all_goals first
    | exact hret _ _ _ _ (by k_asm) (by k_asm) ⟨⟨_, rfl⟩, rfl⟩
    | (refine hret _ news _ _ (by k_asm) (by first | k_asm | (refine kst_newsOf (by k_asm) ?_; with_reducible refine Inc.use ?_; k_extra "sb") | (refine kst_newsOf (by k_asm) ?_; intro p hp; simp only [List.mem_append, List.mem_cons, List.not_mem_nil, or_false] at hp ⊢; simp only [hp, true_or, or_true])) ⟨⟨_, rfl⟩, rfl⟩)
    | (exfalso; rename List.map _ _ = Txt.split _ _ => h9; exact hP6 (by rw [← h9, List.length_map]; omega))
end
-- part Pfacts
section
theorem top_off_Pfacts : True := by
  w_top off
  exact True.intro
noncomputable def quotV (k j : Int) : Str := Str.ofString " \"" ++ Txt.replace (textV k) (Str.ofString "\"") (Str.ofString "\"\"") ++ endT j
theorem fin6 {P : Int → Prop} (h : ∀ i : Fin 6, P (i.val : Int)) {k : Int} (h0 : 0 ≤ k) (h1 : k < 6) : P k := by
  have := h ⟨k.toNat, by omega⟩
  rwa [show ((k.toNat : Nat) : Int) = k by omega] at this
theorem fin4 {P : Int → Prop} (h : ∀ i : Fin 4, P (i.val : Int)) {k : Int} (h0 : 0 ≤ k) (h1 : k < 4) : P k := by
  have := h ⟨k.toNat, by omega⟩
  rwa [show ((k.toNat : Nat) : Int) = k by omega] at this
theorem fin5 {P : Int → Prop} (h : ∀ i : Fin 5, P (i.val : Int)) {k : Int} (h0 : 0 ≤ k) (h1 : k < 5) : P k := by
  have := h ⟨k.toNat, by omega⟩
  rwa [show ((k.toNat : Nat) : Int) = k by omega] at this
theorem quot_fin : ∀ (k : Fin 6) (j : Fin 4), p257v (Str.ofString "257" ++ quotV (k.val : Int) (j.val : Int)) = textV (k.val : Int) ∧ (quotV (k.val : Int) (j.val : Int)).length ≤ 40 ∧ 2 ≤ (quotV (k.val : Int) (j.val : Int)).length := by decide +kernel
theorem quot_is {k j : Int} (h0 : 0 ≤ k) (h1 : k < 6) (j0 : 0 ≤ j) (j1 : j < 4) : p257v (Str.ofString "257" ++ quotV k j) = textV k ∧ (quotV k j).length ≤ 40 ∧ 2 ≤ (quotV k j).length :=
  fin6 (P := fun k => p257v (Str.ofString "257" ++ quotV k j) = textV k ∧ (quotV k j).length ≤ 40 ∧ 2 ≤ (quotV k j).length) (fun i => fin4 (P := fun j => p257v (Str.ofString "257" ++ quotV (i.val : Int) j) = textV (i.val : Int) ∧ (quotV (i.val : Int) j).length ≤ 40 ∧ 2 ≤ (quotV (i.val : Int) j).length) (fun j => quot_fin i j) j0 j1) h0 h1
noncomputable def nmV (i : Int) : Str := Txt.item (Str.ofString "a\"cd|") i
noncomputable def spV (i : Int) (q : Str) : List Str :=
  let n := nmV i
  let core := Txt.mul n 3 ++ Str.ofString "21" ++ n
  [Str.ofString "157" ++ q ++ Str.ofString " 257", Str.ofString "267" ++ q, Str.ofString "258" ++ q,
   Str.ofString "228" ++ Str.ofString " ok (" ++ core ++ Str.ofString ") 229", Str.ofString "129" ++ Str.ofString " ok (" ++ core ++ Str.ofString ") 229", Str.ofString "239" ++ Str.ofString " ok (" ++ core ++ Str.ofString ") 229",
   Str.ofString "229 ok " ++ (core ++ Str.ofString ")"), Str.ofString "229 ok " ++ Str.ofString "212)", Str.ofString "229 ok " ++ (Str.ofString "(" ++ core), Str.ofString "229 ok " ++ (Str.ofString "(" ++ core ++ Str.ofString "!"), Str.ofString "229 ok " ++ (Str.ofString "(" ++ core ++ Str.ofString "!)"), Str.ofString "229 ok " ++ Str.ofString "()",
   Str.ofString "229 ok (" ++ core ++ n ++ Str.ofString ")", Str.ofString "229 ok (" ++ Txt.slice core (some 1) none ++ Str.ofString ")"]
noncomputable def protoB (x : Str) : Bool :=
  let l := Txt.find x (Str.ofString "(")
  let r := Txt.find3 x (Str.ofString ")") (Txt.find x (Str.ofString "(") + 1)
  decide (l < 0) || (decide (0 ≤ l ∧ r < 0)) || (decide (0 ≤ l ∧ l + 1 < x.length ∧ 1 ≤ r ∧ r ≤ x.length) && ((Txt.item x (l + 1) != Txt.item x (r - 1)) || (!(Txt.item x (l + 1) != Txt.item x (r - 1)) && decide ((Txt.split (Txt.slice x (some (l + 1)) (some r)) (Txt.item x (l + 1))).length ≠ 5))))
theorem proto_fin : ∀ (i : Fin 5), ((spV (i.val : Int) (Str.ofString "")).drop 6).all (fun x => protoB x && !(Txt.slice x none (some 3) != Str.ofString "229") && decide (x.length ≤ 30)) = true := by decide +kernel
theorem reply_fin : ∀ (i : Fin 5), (((spV (i.val : Int) (Str.ofString "")).drop 3).take 3).all (fun x => (Txt.slice x none (some 3) != Str.ofString "229") && decide (x.length ≤ 30)) = true := by decide +kernel
theorem kept_fin : ∀ (i : Fin 5), (p257v (Str.ofString "257 \" Z" ++ Txt.replace (nmV (i.val : Int)) (Str.ofString "\"") (Str.ofString "\"\"") ++ Str.ofString "\"\"") ++ p257v (Str.ofString "257 \"" ++ Txt.replace (nmV (i.val : Int)) (Str.ofString "\"") (Str.ofString "\"\"") ++ Str.ofString " ")) = Str.ofString " Z" ++ nmV (i.val : Int) ++ Str.ofString "\"" ++ nmV (i.val : Int) ++ Str.ofString " " := by decide +kernel
noncomputable def unsV (i : Int) (q : Str) : List Str := [Str.ofString "257", Str.ofString "257-" ++ Txt.slice q (some 1) none, Str.ofString "257" ++ nmV i ++ Txt.slice q (some 1) none, Str.ofString "257 a" ++ Txt.slice q (some 2) none]
theorem uns_fin : ∀ (i : Fin 5) (k : Fin 6) (j : Fin 4), (unsV (i.val : Int) (quotV (k.val : Int) (j.val : Int))).all (fun x => !(Txt.slice x none (some 3) != Str.ofString "257") && (Txt.slice x (some 3) (some 5) != Str.ofString " \"") && decide (x.length ≤ 60)) = true := by decide +kernel
noncomputable def dbV (i : Int) : Str := Txt.replace (nmV i) (Str.ofString "\"") (Str.ofString "\"\"")
theorem kept2_fin : ∀ (i : Fin 5), (dbV (i.val : Int)).length ≤ 2 ∧ [Str.ofString "257 \" Z" ++ dbV (i.val : Int) ++ Str.ofString "\"\"", Str.ofString "257 \"" ++ dbV (i.val : Int) ++ Str.ofString " "].all (fun x => decide (x.length ≤ 30) && (Txt.slice x none (some 3) == Str.ofString "257") && decide (5 ≤ x.length)) = true ∧ (p257v (Str.ofString "257 \" Z" ++ dbV (i.val : Int) ++ Str.ofString "\"\"")).length + (p257v (Str.ofString "257 \"" ++ dbV (i.val : Int) ++ Str.ofString " ")).length ≤ 20 := by decide +kernel
theorem kept_len : True := trivial
end
-- part Preply
section
theorem top_off_Preply : True := by
  w_top off
  exact True.intro
theorem find3_at {x : Str} {A B : List Nat} {c : Nat} {i : Int} (h : x.cps.toList = A ++ c :: B) (h0 : 0 ≤ i) (h1 : i.toNat ≤ A.length) (hA : c ∉ A.drop i.toNat) : Txt.find3 x ⟨#[c]⟩ i = (A.length : Int) := by
  have hl : x.length = A.length + (B.length + 1) := by
    show x.cps.size = _
    rw [← Array.length_toList, h]; simp
  have hf : fromIndex x.length i = i.toNat := by
    unfold fromIndex
    rw [if_neg (by omega)]
    omega
  have hg : x.cps.toList[A.length]? = some c := by rw [h]; simp
  rcases StrLaws.find3_spec x c i with ⟨_, hn⟩ | ⟨k, e, k0, k1, k2, k3⟩
  · exact absurd (StrLaws.getD_of_getElem? hg) (hn _ (by omega) (by omega))
  · rw [e]
    have hk := StrLaws.getElem?_of_getD k1 k2
    rcases Nat.lt_trichotomy k A.length with hlt | rfl | hgt
    · exfalso
      rw [h, List.getElem?_append_left hlt] at hk
      refine hA (List.mem_iff_getElem?.mpr ⟨k - i.toNat, ?_⟩)
      rw [List.getElem?_drop, show i.toNat + (k - i.toNat) = k by omega]
      exact hk
    · rfl
    · exact absurd (StrLaws.getD_of_getElem? hg) (k3 _ (by omega) hgt)
theorem find_at {x : Str} {A B : List Nat} {c : Nat} (h : x.cps.toList = A ++ c :: B) (hA : c ∉ A) : Txt.find x ⟨#[c]⟩ = (A.length : Int) := by
  have := find3_at (i := 0) h (by omega) (by simp) (by simpa using hA)
  rw [← this]
  unfold Txt.find Txt.find3
  rw [show fromIndex x.length 0 = 0 from by unfold fromIndex; rw [if_neg (by omega)]; omega]
  cases Builtin.Str.occurrences x ⟨#[c]⟩ 0 x.length 1 <;> rfl
theorem cut_at {a b u v : List Nat} {c : Nat} (ha : c ∉ a) (hb : c ∉ b) (h : a ++ c :: u = b ++ c :: v) : a = b ∧ u = v := by
  induction a generalizing b with
  | nil =>
    cases b with
    | nil => simp at h; exact ⟨rfl, h⟩
    | cons d r => simp at h; exact absurd (h.1 ▸ List.mem_cons_self) hb
  | cons d r ih =>
    cases b with
    | nil => simp at h; exact absurd (h.1 ▸ List.mem_cons_self) ha
    | cons e s =>
      simp at h
      obtain ⟨rfl, h⟩ := h
      obtain ⟨rfl, rfl⟩ := ih (fun q => ha (List.mem_cons_of_mem _ q)) (fun q => hb (List.mem_cons_of_mem _ q)) h
      exact ⟨rfl, rfl⟩
theorem join_cps (c : Nat) (x y : Str) (r : List Str) : (Str.join ⟨#[c]⟩ (x :: y :: r)).cps.toList = x.cps.toList ++ c :: (Str.join ⟨#[c]⟩ (y :: r)).cps.toList := by
  show (x ++ (⟨#[c]⟩ : Str) ++ Str.join ⟨#[c]⟩ (y :: r)).cps.toList = _
  simp [Str.cps_append]
theorem str_cps {x y : Str} (h : x.cps.toList = y.cps.toList) : x = y := Str.ext' (Array.toList_inj.mp h)
theorem join_unique (c : Nat) : ∀ (P R : List Str), P ≠ [] → R ≠ [] → (∀ p ∈ P, c ∉ p.cps.toList) → (∀ p ∈ R, c ∉ p.cps.toList) → (Str.join ⟨#[c]⟩ P).cps.toList = (Str.join ⟨#[c]⟩ R).cps.toList → P = R
  | [], _, h, _, _, _, _ => absurd rfl h
  | _, [], _, h, _, _, _ => absurd rfl h
  | [x], [y], _, _, _, _, h => by rw [str_cps (x := x) (y := y) h]
  | [x], y :: z :: r, _, _, hP, _, h => by
    rw [join_cps] at h
    have h : x.cps.toList = _ := h
    exact absurd (by rw [h]; simp) (hP x List.mem_cons_self)
  | x :: z :: r, [y], _, _, _, hR, h => by
    rw [join_cps] at h
    have h : _ = y.cps.toList := h
    exact absurd (by rw [← h]; simp) (hR y List.mem_cons_self)
  | x :: x' :: r, y :: y' :: s, _, _, hP, hR, h => by
    rw [join_cps, join_cps] at h
    obtain ⟨h1, h2⟩ := cut_at (hP x List.mem_cons_self) (hR y List.mem_cons_self) h
    rw [str_cps h1, join_unique c (x' :: r) (y' :: s) (by simp) (by simp) (fun p q => hP p (List.mem_cons_of_mem _ q)) (fun p q => hR p (List.mem_cons_of_mem _ q)) h2]
theorem split_is {x : Str} {c : Nat} {R : List Str} (hx : (Str.join ⟨#[c]⟩ R).cps.toList = x.cps.toList) (h0 : x.cps.toList ≠ []) (hR : ∀ p ∈ R, c ∉ p.cps.toList) : Txt.split x ⟨#[c]⟩ = R := by
  have hj := StrLaws.join_split x ⟨#[c]⟩
  refine join_unique c _ _ (fun e => ?_) (fun e => ?_) (StrLaws.split_free x c) hR (by rw [hj, hx])
  · rw [e] at hj
    exact h0 (by rw [← hj]; rfl)
  · subst e
    exact h0 (by rw [← hx]; rfl)
structure RepOk (x : Str) (p : Int) (l r : Int) (ps : Str) : Prop where
  len : x.length ≤ 40
  head : Txt.slice x none (some 3) = Str.ofString "229"
  hl : Txt.find x (Str.ofString "(") = l
  hr : Txt.find3 x (Str.ofString ")") (Txt.find x (Str.ofString "(") + 1) = r
  h0 : 0 ≤ l
  h1 : l + 1 < x.length
  h2 : 1 ≤ r
  h3 : r ≤ x.length
  he : Txt.item x (l + 1) = Txt.item x (r - 1)
  hp : (Txt.split (Txt.slice x (some (l + 1)) (some r)) (Txt.item x (l + 1))).length = 5
  hp3 : (Txt.split (Txt.slice x (some (l + 1)) (some r)) (Txt.item x (l + 1)))[3]? = some ps
  hi : PySem.intText? ps = some p
  hpl : ps.length ≤ 10
theorem rep_of {x : Str} {p : Int} {A f g q Z : List Nat} {m : Nat} (hx : x.cps.toList = (50 :: 50 :: 57 :: A) ++ 40 :: ((m :: (f ++ m :: (g ++ m :: (q ++ [m])))) ++ 41 :: Z)) (hA : 40 ∉ (50 :: 50 :: 57 :: A)) (hB : 41 ∉ (m :: (f ++ m :: (g ++ m :: (q ++ [m])))))
    (hf : m ∉ f) (hg : m ∉ g) (hq : m ∉ q) (hi : PySem.intText? ⟨q.toArray⟩ = some p) (ha : A.length ≤ 6) (hfl : f.length ≤ 2) (hgl : g.length ≤ 2) (hql : q.length ≤ 2) (hz : Z.length ≤ 4) :
    RepOk x p ((50 :: 50 :: 57 :: A).length : Int) ((50 :: 50 :: 57 :: A).length + 1 + (m :: (f ++ m :: (g ++ m :: (q ++ [m])))).length : Int) ⟨q.toArray⟩ := by
  generalize hAA : (50 :: 50 :: 57 :: A) = AA at *
  generalize hBB : (m :: (f ++ m :: (g ++ m :: (q ++ [m])))) = BB at *
  have o1 : Str.ofString "(" = ⟨#[40]⟩ := by decide +kernel
  have o2 : Str.ofString ")" = ⟨#[41]⟩ := by decide +kernel
  have e1 : Txt.find x (Str.ofString "(") = (AA.length : Int) := by rw [o1]; exact find_at hx hA
  have hx2 : x.cps.toList = (AA ++ 40 :: BB) ++ 41 :: Z := by rw [hx]; simp
  have e2 : Txt.find3 x (Str.ofString ")") ((AA.length : Int) + 1) = ((AA ++ 40 :: BB).length : Int) := by
    rw [o2]
    refine find3_at hx2 (by omega) (by simp) ?_
    rw [show ((AA.length : Int) + 1).toNat = AA.length + 1 by omega, List.drop_append, List.drop_eq_nil_of_le (by omega)]
    simpa using hB
  have hl : x.length = AA.length + (BB.length + (Z.length + 1) + 1) := by
    show x.cps.size = _
    rw [← Array.length_toList, hx]; simp
  have hAl : AA.length = A.length + 3 := by rw [← hAA]; simp
  have hBl : BB.length = f.length + g.length + q.length + 4 := by rw [← hBB]; simp; omega
  have es : Txt.slice x (some ((AA.length : Int) + 1)) (some ((AA.length : Int) + 1 + BB.length)) = ⟨BB.toArray⟩ := by
    have := StrLaws.sliceText_plain (x := x) (i := (AA.length : Int) + 1) (j := (AA.length : Int) + 1 + BB.length) ⟨by omega, by omega, by rw [hx]; simp; omega⟩
    refine Eq.trans this ?_
    congr 2
    rw [hx, show ((AA.length : Int) + 1).toNat = AA.length + 1 by omega, show ((AA.length : Int) + 1 + BB.length - ((AA.length : Int) + 1)).toNat = BB.length by omega, List.drop_append, List.drop_eq_nil_of_le (by omega)]
    simp
  have ei : ∀ (i : Int) (v : Nat), 0 ≤ i → x.cps.toList[i.toNat]? = some v → Txt.item x i = ⟨#[v]⟩ := fun i v h0 h1 => item_meets h0 (by rw [← Array.getElem?_toList]; exact h1)
  have i1 : Txt.item x ((AA.length : Int) + 1) = ⟨#[m]⟩ := by
    refine ei _ _ (by omega) ?_
    rw [hx, show ((AA.length : Int) + 1).toNat = AA.length + 1 by omega, ← hBB]
    simp
  have i2 : Txt.item x ((AA.length : Int) + 1 + BB.length - 1) = ⟨#[m]⟩ := by
    refine ei _ _ (by omega) ?_
    have e3 : x.cps.toList = (AA ++ 40 :: (m :: (f ++ m :: (g ++ m :: q)))) ++ m :: 41 :: Z := by rw [hx, ← hBB]; simp
    rw [e3, show ((AA.length : Int) + 1 + BB.length - 1).toNat = (AA ++ 40 :: (m :: (f ++ m :: (g ++ m :: q)))).length by simp; omega]
    simp
  have sp : Txt.split ⟨BB.toArray⟩ ⟨#[m]⟩ = [⟨#[]⟩, ⟨f.toArray⟩, ⟨g.toArray⟩, ⟨q.toArray⟩, ⟨#[]⟩] := by
    refine split_is ?_ (by rw [← hBB]; simp) ?_
    · rw [join_cps, join_cps, join_cps, join_cps, ← hBB]
      simp [Str.join]
    · simp [hf, hg, hq]
  have hr2 : ((AA ++ 40 :: BB).length : Int) = (AA.length : Int) + 1 + BB.length := by simp; omega
  rw [hr2] at e2
  exact { len := by omega, head := (by
            refine (StrLaws.sliceText_to (x := x) (j := 3) ⟨by omega, by rw [hx, ← hAA]; simp; omega⟩).trans ?_
            rw [hx, ← hAA]; simp; decide +kernel), hl := e1, hr := by rw [e1]; exact e2, h0 := by omega, h1 := by omega, h2 := by omega, h3 := by omega, he := by rw [i1, i2], hp := by rw [es, i1, sp]; rfl, hp3 := by rw [es, i1, sp]; rfl, hi := hi, hpl := by show q.toArray.size ≤ 10; simp; omega }
noncomputable def nm4 (i : Int) : Str := pkS [Str.ofString "a", Str.ofString "\"", Str.ofString "c", Str.ofString "d"] i
theorem mark_fin : ∀ (i : Fin 4) (b : Fin 2), (fun l : List Nat => l = [l.headD 0] ∧ l.headD 0 ≠ 40 ∧ l.headD 0 ≠ 41 ∧ l.headD 0 ≠ 33 ∧ (l.headD 0 < 48 ∨ 53 < l.headD 0)) (pkS [nm4 (i.val : Int), Str.ofString "|"] (b.val : Int)).cps.toList := by decide +kernel
theorem field_fin : ∀ (b : Fin 4), (pkS [Str.ofString "", Str.ofString "1", Str.ofString "(", Str.ofString "!0"] (b.val : Int)).cps.toList.all (fun c => decide (c = 40 ∨ c = 33 ∨ c = 48 ∨ c = 49)) = true ∧ (pkS [Str.ofString "", Str.ofString "1", Str.ofString "(", Str.ofString "!0"] (b.val : Int)).cps.toList.length ≤ 2 := by decide +kernel
theorem port_fin : ∀ (b : Fin 2) (p : Fin 5), (pkS [Str.ofString "", Str.ofString "0"] (b.val : Int) ++ Str.ofString (toString ((p.val : Int) + 1))).cps.toList.all (fun c => decide (48 ≤ c ∧ c ≤ 53)) = true ∧ (pkS [Str.ofString "", Str.ofString "0"] (b.val : Int) ++ Str.ofString (toString ((p.val : Int) + 1))).cps.toList.length ≤ 2 ∧ PySem.intText? (pkS [Str.ofString "", Str.ofString "0"] (b.val : Int) ++ Str.ofString (toString ((p.val : Int) + 1))) = some ((p.val : Int) + 1) := by decide +kernel
theorem ahead_fin : ∀ (b : Fin 2), (fun l : List Nat => l = (50 :: 50 :: 57 :: (l.drop 3).dropLast) ++ [40] ∧ 40 ∉ (50 :: 50 :: 57 :: (l.drop 3).dropLast) ∧ (l.drop 3).dropLast.length ≤ 6) (pkS [Str.ofString "229 ok (", Str.ofString "229 ) 7 ("] (b.val : Int)).cps.toList := by decide +kernel
theorem fin2 {P : Int → Prop} (h : ∀ i : Fin 2, P (i.val : Int)) {k : Int} (h0 : 0 ≤ k) (h1 : k < 2) : P k := by
  have := h ⟨k.toNat, by omega⟩
  rwa [show ((k.toNat : Nat) : Int) = k by omega] at this
theorem rep_is (i p c : Int) (h0 : 0 ≤ i) (h1 : i < 4) (p0 : 1 ≤ p) (p1 : p ≤ 5) : ∃ l r ps, RepOk (replyV (nm4 i) p c) p l r ps := by
  have b0 := fm_lo (c.fdiv 128) (m := 2) (by decide)
  have b0' := fm_hi (c.fdiv 128) (m := 2) (by decide)
  have b1 := fm_lo (c.fdiv 20) (m := 2) (by decide)
  have b1' := fm_hi (c.fdiv 20) (m := 2) (by decide)
  have b2 := fm_lo (c.fdiv 4) (m := 4) (by decide)
  have b2' := fm_hi (c.fdiv 4) (m := 4) (by decide)
  have b3 := fm_lo (c.fdiv 16) (m := 4) (by decide)
  have b3' := fm_hi (c.fdiv 16) (m := 4) (by decide)
  have b4 := fm_lo (c.fdiv 64) (m := 2) (by decide)
  have b4' := fm_hi (c.fdiv 64) (m := 2) (by decide)
  unfold replyV
  generalize (c.fdiv 128).fmod 2 = x0 at *
  generalize (c.fdiv 20).fmod 2 = x1 at *
  generalize (c.fdiv 4).fmod 4 = x2 at *
  generalize (c.fdiv 16).fmod 4 = x3 at *
  generalize (c.fdiv 64).fmod 2 = x4 at *
  obtain ⟨A, eA, nA, lA⟩ := fin2 (P := fun b => ∃ A, (pkS [Str.ofString "229 ok (", Str.ofString "229 ) 7 ("] b).cps.toList = (50 :: 50 :: 57 :: A) ++ [40] ∧ 40 ∉ (50 :: 50 :: 57 :: A) ∧ A.length ≤ 6) (fun b => ⟨_, ahead_fin b⟩) b0 b0'
  obtain ⟨m, eM, m1, m2, m3, m4⟩ := fin4 (P := fun i => ∃ m, (pkS [nm4 i, Str.ofString "|"] x1).cps.toList = [m] ∧ m ≠ 40 ∧ m ≠ 41 ∧ m ≠ 33 ∧ (m < 48 ∨ 53 < m)) (fun i => fin2 (P := fun b => ∃ m, (pkS [nm4 (i.val : Int), Str.ofString "|"] b).cps.toList = [m] ∧ m ≠ 40 ∧ m ≠ 41 ∧ m ≠ 33 ∧ (m < 48 ∨ 53 < m)) (fun b => ⟨_, mark_fin i b⟩) b1 b1') h0 h1
  have f2 := fin4 (P := fun b => (pkS [Str.ofString "", Str.ofString "1", Str.ofString "(", Str.ofString "!0"] b).cps.toList.all (fun c => decide (c = 40 ∨ c = 33 ∨ c = 48 ∨ c = 49)) = true ∧ (pkS [Str.ofString "", Str.ofString "1", Str.ofString "(", Str.ofString "!0"] b).cps.toList.length ≤ 2) field_fin b2 b2'
  have f3 := fin4 (P := fun b => (pkS [Str.ofString "", Str.ofString "1", Str.ofString "(", Str.ofString "!0"] b).cps.toList.all (fun c => decide (c = 40 ∨ c = 33 ∨ c = 48 ∨ c = 49)) = true ∧ (pkS [Str.ofString "", Str.ofString "1", Str.ofString "(", Str.ofString "!0"] b).cps.toList.length ≤ 2) field_fin b3 b3'
  have f4 := fin2 (P := fun b => (pkS [Str.ofString "", Str.ofString "0"] b ++ Str.ofString (toString p)).cps.toList.all (fun c => decide (48 ≤ c ∧ c ≤ 53)) = true ∧ (pkS [Str.ofString "", Str.ofString "0"] b ++ Str.ofString (toString p)).cps.toList.length ≤ 2 ∧ PySem.intText? (pkS [Str.ofString "", Str.ofString "0"] b ++ Str.ofString (toString p)) = some p) (fun b => by
    have := port_fin b ⟨(p - 1).toNat, by omega⟩
    rwa [show (((p - 1).toNat : Nat) : Int) + 1 = p by omega] at this) b4 b4'
  generalize eF : pkS [Str.ofString "", Str.ofString "1", Str.ofString "(", Str.ofString "!0"] x2 = F at *
  generalize eG : pkS [Str.ofString "", Str.ofString "1", Str.ofString "(", Str.ofString "!0"] x3 = G at *
  generalize eQ : pkS [Str.ofString "", Str.ofString "0"] x4 ++ Str.ofString (toString p) = R at *
  generalize pkS [nm4 i, Str.ofString "|"] x1 = M at *
  generalize pkS [Str.ofString "229 ok (", Str.ofString "229 ) 7 ("] x0 = H at *
  have fF : ∀ c ∈ F.cps.toList, c = 40 ∨ c = 33 ∨ c = 48 ∨ c = 49 := fun c hc => of_decide_eq_true (List.all_eq_true.mp f2.1 c hc)
  have fG : ∀ c ∈ G.cps.toList, c = 40 ∨ c = 33 ∨ c = 48 ∨ c = 49 := fun c hc => of_decide_eq_true (List.all_eq_true.mp f3.1 c hc)
  have fQ : ∀ c ∈ R.cps.toList, 48 ≤ c ∧ c ≤ 53 := fun c hc => of_decide_eq_true (List.all_eq_true.mp f4.1 c hc)
  have eZ : (Str.ofString ") (z)").cps.toList = 41 :: [32, 40, 122, 41] := by decide +kernel
  refine ⟨_, _, _, rep_of (A := A) (f := F.cps.toList) (g := G.cps.toList) (q := R.cps.toList) (Z := [32, 40, 122, 41]) (m := m) ?_ nA ?_ ?_ ?_ ?_ ?_ lA f2.2 f3.2 f4.2.1 (by decide)⟩
  · simp only [Str.cps_append, Array.toList_append, eA, eM, eZ]
    simp
  · intro h
    simp only [List.mem_cons, List.mem_append, List.not_mem_nil, or_false] at h
    rcases h with h | h | h | h | h | h | h
    · exact m2 h.symm
    · have := fF _ h; omega
    · exact m2 h.symm
    · have := fG _ h; omega
    · exact m2 h.symm
    · have := fQ _ h; omega
    · exact m2 h.symm
  · intro h; have := fF _ h; omega
  · intro h; have := fG _ h; omega
  · intro h; have := fQ _ h; omega
  · have : (⟨R.cps.toList.toArray⟩ : Str) = R := str_cps rfl
    rw [this]; exact f4.2.2
end
-- part Blaw
section
theorem top_off_Blaw : True := by
  w_top off
  exact True.intro
noncomputable def LX (w : World) (k : Nat) (L : Addr) (ps : List (Str × Value)) (news : List (Addr × Obj)) : Prop :=
  FnAt (hd.heap_39 w.params) 188 (fun qual body scope _ => ∀ (mean : ExcName → Option Value) (mg mb : Str → Option Value) (dp un : Nat) (gd : Option (List Code)) (a : Addr) (ccd : Value) (A₀ : Around) (base : Heap) (s : Shared) (m₀ : Str → Option Value) (Q : Flow → Shared → Prop),
    1 ≤ s.toks → Below A₀ base [] base → Fr base L s.heap (kstB m₀ ps) → (hd.heap_39 w.params).In base → News base L s.heap news → Top hd.view_39 (looseW hd.view_39 [Str.ofString "EXACT_TOKEN_TYPES"]) mean mg mb base → dp + 100 < recursionLimit → un + 800 < cLine →
    (∀ m' news' h' tk', Fr base L h' m' → News base L h' news' → Q (.ret (.bool true)) { s with heap := h', toks := tk' }) →
    wpAny (model PySem.Challenge.rw_yf0019_01.row.prog w) (ktrTop dp un gd qual scope L a ccd (cells4 L) []) (execs (body.drop k) (envX qual scope L a ccd (cells4 L))) Q (fun _ _ => False) s)
theorem kst_back {m : Str → Option Value} : ∀ {ps : List (Str × Value)}, (∀ p ∈ ps, m p.1 = some p.2) → kstB m ps = m := fun h => funext fun _ => kstB_eq h fun _ => rfl
theorem LX.use {w : World} {k : Nat} {L : Addr} {ps : List (Str × Value)} {news : List (Addr × Obj)} {mean : ExcName → Option Value} {mg mb : Str → Option Value} {dp un : Nat} {gd : Option (List Code)} {a : Addr} {ccd : Value} {A₀ : Around} {base : Heap} {s : Shared} {m : Str → Option Value} {Q : Flow → Shared → Prop} {E : Value → Shared → Prop}
    {name qual : Str} {params : Arguments} {body : List Stmt} {scope : Scope} {dV kV doc pm cdv ct oc : Value} {an od : Option Addr} {osl : Array (Option Value)} {rest : List Stmt}
    (C : LX w k L ps news) (ho : (hd.heap_39 w.params).lookup 188 = some ⟨oc, od, .func (fnOf name qual params body scope dV kV doc pm an cdv ct), osl⟩) (hr : body.drop k = rest) (ht : 1 ≤ s.toks)
    (B : Below A₀ base [] base) (F : Fr base L s.heap m) (hps : ∀ p ∈ ps, m p.1 = some p.2) (X : (hd.heap_39 w.params).In base) (N : News base L s.heap news) (T : Top hd.view_39 (looseW hd.view_39 [Str.ofString "EXACT_TOKEN_TYPES"]) mean mg mb base) (h1 : dp + 100 < recursionLimit) (h2 : un + 800 < cLine)
    (ret : ∀ m' news' h' tk', Fr base L h' m' → News base L h' news' → Q (.ret (.bool true)) { s with heap := h', toks := tk' }) :
    wpAny (model PySem.Challenge.rw_yf0019_01.row.prog w) (ktrTop dp un gd qual scope L a ccd (cells4 L) []) (execs rest (envX qual scope L a ccd (cells4 L))) Q E s := by
  subst hr
  rw [← kst_back hps] at F
  have h := C _ _ _ _ _ _ _ _ _ _ _ _ _ _ _ ho mean mg mb dp un gd a ccd A₀ base s m Q ht B F X N T h1 h2 ret
  exact wpAny_mono h (fun _ _ x => x) (fun _ _ x => x.elim)
theorem execs_app {M : Model} {Γ : Ctx} {env : Env} {l2 : List Stmt} {Q : Flow → Pos → Shared → Prop} {E : Value → Pos → Shared → Prop} : ∀ (l1 : List Stmt) (p : Pos) (s : Shared), Sem.wp M Γ (execs l1 env) (fun fl p' s' => match fl with | .next => Sem.wp M Γ (execs l2 env) Q E p' s' | fl => Q fl p' s') E p s → Sem.wp M Γ (execs (l1 ++ l2) env) Q E p s
  | [], _, _, h => h
  | a :: r, p, s, h => by
    rw [execs_cons, Sem.wp_bind'] at h
    rw [List.cons_append, execs_cons, Sem.wp_bind']
    refine Sem.wp_mono M Γ _ (fun f p' s' q => ?_) (fun _ _ _ q => q) _ _ h
    cases f <;> first | exact execs_app r p' s' q | exact q
structure SegEnd (n k : Nat) (P : Prop) : Prop where
  h : n ≤ k → P
theorem SegEnd.intro {n k : Nat} {P : Prop} (h : n ≤ k → P) : SegEnd n k P := ⟨h⟩
theorem seg_toks {M : Model} {A : Around} {env : Env} {l1 l2 : List Stmt} {n : Nat} {s : Shared} {Q : Flow → Shared → Prop} {E : Value → Shared → Prop} (hn : n ≤ s.toks)
    (h : wpAny M A (execs l1 env) (fun fl s' => match fl with | .next => SegEnd n s'.toks (wpAny M A (execs l2 env) Q E s') | fl => Q fl s') E s) : wpAny M A (execs (l1 ++ l2) env) Q E s := fun Γ p hΓ => by
  refine execs_app l1 p s (Sem.wp_mono M Γ _ (fun fl p' s' q => ?_) (fun _ _ _ q => q.2) p s (Sem.wp_toks M Γ n _ _ _ p s hn (h Γ p hΓ)))
  obtain ⟨q1, q2⟩ := q
  cases fl <;> first | exact q2.h q1 Γ p' hΓ | exact q2
end
-- part L25
section
theorem top_off_L25 : True := by
  w_top off
  exact True.intro
theorem heardU (w : World) (i k j : Int) (h0 : 0 ≤ i) (h1 : i < 5) (k0 : 0 ≤ k) (k1 : k < 6) (j0 : 0 ≤ j) (j1 : j < 4) (x : Str) (t1 t2 : Tok) (hx : x ∈ unsV i (quotV k j)) (news : List (Addr × Obj)) : CS0 w (hd.heap_39 w.params) 145 4 [.str x t1, .str (Str.ofString "") t2] news (fun r n => (∃ t, r = .str (Str.ofString "") t) ∧ n = news) := by
  have ha := fin5 (P := fun i => (unsV i (quotV k j)).all (fun x => !(Txt.slice x none (some 3) != Str.ofString "257") && (Txt.slice x (some 3) (some 5) != Str.ofString " \"") && decide (x.length ≤ 60)) = true) (fun i => fin6 (P := fun k => (unsV (i.val : Int) (quotV k j)).all (fun x => !(Txt.slice x none (some 3) != Str.ofString "257") && (Txt.slice x (some 3) (some 5) != Str.ofString " \"") && decide (x.length ≤ 60)) = true) (fun k => fin4 (P := fun j => (unsV (i.val : Int) (quotV (k.val : Int) j)).all (fun x => !(Txt.slice x none (some 3) != Str.ofString "257") && (Txt.slice x (some 3) (some 5) != Str.ofString " \"") && decide (x.length ≤ 60)) = true) (fun j => uns_fin i k j) j0 j1) k0 k1) h0 h1
  have hb := List.all_eq_true.mp ha x hx
  simp only [Bool.and_eq_true, Bool.not_eq_true', decide_eq_true_eq] at hb
  obtain ⟨⟨e3, e5⟩, el⟩ := hb
  have e5' : ¬ Txt.slice x (some 3) (some 5) = Str.ofString " \"" := by simpa using e5
  have h := heard1 w x t1 t2 (by omega) (by simpa using e3) (fun e => absurd e e5') news
  unfold p257v at h
  rw [if_neg e5'] at h
  exact h
theorem kept_is {i : Int} (h0 : 0 ≤ i) (h1 : i < 5) : (dbV i).length ≤ 2 ∧ [Str.ofString "257 \" Z" ++ dbV i ++ Str.ofString "\"\"", Str.ofString "257 \"" ++ dbV i ++ Str.ofString " "].all (fun x => decide (x.length ≤ 30) && (Txt.slice x none (some 3) == Str.ofString "257") && decide (5 ≤ x.length)) = true ∧ (p257v (Str.ofString "257 \" Z" ++ dbV i ++ Str.ofString "\"\"")).length + (p257v (Str.ofString "257 \"" ++ dbV i ++ Str.ofString " ")).length ≤ 20 :=
  fin5 (P := fun i => (dbV i).length ≤ 2 ∧ [Str.ofString "257 \" Z" ++ dbV i ++ Str.ofString "\"\"", Str.ofString "257 \"" ++ dbV i ++ Str.ofString " "].all (fun x => decide (x.length ≤ 30) && (Txt.slice x none (some 3) == Str.ofString "257") && decide (5 ≤ x.length)) = true ∧ (p257v (Str.ofString "257 \" Z" ++ dbV i ++ Str.ofString "\"\"")).length + (p257v (Str.ofString "257 \"" ++ dbV i ++ Str.ofString " ")).length ≤ 20) kept2_fin h0 h1
theorem heardK (w : World) (i : Int) (h0 : 0 ≤ i) (h1 : i < 5) (x : Str) (t1 t2 : Tok) (hx : x ∈ [Str.ofString "257 \" Z" ++ dbV i ++ Str.ofString "\"\"", Str.ofString "257 \"" ++ dbV i ++ Str.ofString " "]) (news : List (Addr × Obj)) : CS0 w (hd.heap_39 w.params) 145 4 [.str x t1, .str (Str.ofString "") t2] news (fun r n => (∃ t, r = .str (p257v x) t) ∧ n = news) := by
  have hb := List.all_eq_true.mp (kept_is h0 h1).2.1 x hx
  simp only [Bool.and_eq_true, beq_iff_eq, decide_eq_true_eq] at hb
  exact heard1 w x t1 t2 (by omega) hb.1.2 (fun _ => hb.2) news
theorem lx27 (w : World) (L : Addr) (i : Int) (h0 : 0 ≤ i) (h1 : i < 5) (tn : Tok) : LX w 27 L [(Str.ofString "name", .str (nmV i) tn)] [] := by
  have hn : (nmV i).length = 1 := rfl
  have hK := fun x hx t1 t2 news => heardK w i h0 h1 x t1 t2 hx news
  have hD := kept_is h0 h1
  have hE := fin5 (P := fun i => (p257v (Str.ofString "257 \" Z" ++ dbV i ++ Str.ofString "\"\"") ++ p257v (Str.ofString "257 \"" ++ dbV i ++ Str.ofString " ")) = Str.ofString " Z" ++ nmV i ++ Str.ofString "\"" ++ nmV i ++ Str.ofString " ") kept_fin h0 h1
  have hD1 := hD.1
  have hD2 := hD.2.2
  clear hD
  unfold dbV at hK hD1 hD2 hE
  generalize hnm : nmV i = nm at hn hK hD1 hD2 hE ⊢
  unfold LX
  k_fill
  refine' fnAt_of ?k6 ?_
  case k6 => k_is
  intro mean mg mb dp un gd a ccd A₀ base s m₀ Q htok B' F9 X' N' T' hd hu hret
  have hk : ScopeKind.function = ScopeKind.function := rfl
  have XB := X'
  have TB := T'
  dsimp only [List.drop]
  dsimp only [kstB] at F9
  (try k_fold)
  k_with_none
  k_with "k_mem" => first | exact (by with_reducible assumption) | exact (List.mem_cons_of_mem _ (by with_reducible assumption)) | exact (List.mem_cons_of_mem _ (List.mem_cons_of_mem _ (by with_reducible assumption))) | exact (List.mem_cons_of_mem _ (List.mem_cons_of_mem _ (List.mem_cons_of_mem _ (by with_reducible assumption)))) | exact (List.mem_cons_of_mem _ (List.mem_cons_of_mem _ (List.mem_cons_of_mem _ (List.mem_cons_of_mem _ (by with_reducible assumption)))))
  k_with "pj" => first | with_reducible assumption | exact pj0 (by with_reducible assumption) | exact pj1 (by with_reducible assumption) | exact pj2 (by with_reducible assumption) | exact pj3 (by with_reducible assumption) | exact pj4 (by with_reducible assumption) | exact pj5 (by with_reducible assumption) | exact pj6 (by with_reducible assumption) | exact pj7 (by with_reducible assumption) | exact pj8 (by with_reducible assumption) | exact pj9 (by with_reducible assumption) | exact pj10 (by with_reducible assumption) | exact pj11 (by with_reducible assumption) | exact pj12 (by with_reducible assumption) | exact pj13 (by with_reducible assumption) | exact pj14 (by with_reducible assumption) | exact pj15 (by with_reducible assumption) | exact pj16 (by with_reducible assumption) | exact pj17 (by with_reducible assumption) | exact pj18 (by with_reducible assumption) | exact pj19 (by with_reducible assumption) | exact pj20 (by with_reducible assumption) | exact pj21 (by with_reducible assumption) | exact pj22 (by with_reducible assumption) | exact pj23 (by with_reducible assumption) | exact pj24 (by with_reducible assumption)
  k_with "pj2" => first | exact ltR (by k_extra "lt") | exact ltL (k := 4) (by k_extra "lt") (Nat.le_of_ble_eq_true rfl) | exact ltLR (k := 4) (by k_extra "lt") (Nat.le_of_ble_eq_true rfl) | exact ltR (by k_extra "pj") | exact ltL (k := 4) (by k_extra "pj") (Nat.le_of_ble_eq_true rfl) | exact ltLR (k := 4) (by k_extra "pj") (Nat.le_of_ble_eq_true rfl)
  k_with "lt" => first | with_reducible assumption | exact ltOf (by with_reducible assumption) (by k_mem)
  k_with "k_ne" => (refine neN ?_; (try dsimp only); first | exact neK rfl | exact neK0 rfl | exact neK1 rfl | exact Nat.ne_of_lt (by k_extra "lt") | exact Nat.ne_of_gt (by k_extra "lt") | exact Nat.ne_of_lt (by k_extra "pj") | exact Nat.ne_of_gt (by k_extra "pj") | exact Nat.ne_of_lt (by k_extra "pj2") | exact Nat.ne_of_gt (by k_extra "pj2") | k_extra "pj" | k_extra "pq" | exact Ne.symm (by k_extra "pj") | omega)
  k_with "mb" => first | with_reducible exact incM | with_reducible assumption | (with_reducible refine incMT ?_; k_extra "mb") | (with_reducible refine incML ?_; k_extra "mb") | (with_reducible refine incMR ?_; k_extra "mb")
  k_with "sbl" => first | with_reducible exact incI | (with_reducible refine incT ?_; k_extra "sbl") | (with_reducible refine incL ?_; k_extra "sbl") | (with_reducible refine incR ?_; k_extra "sbl")
  k_with "sb" => first | with_reducible exact incI | with_reducible exact incN | (with_reducible refine' incC ?m9 ?r9; (case m9 => k_extra "mb"); (case r9 => k_extra "sb")) | (k_extra "sbl") | (with_reducible refine incA ?_ ?_ <;> k_extra "sb")
  k_with "mg" => first | with_reducible exact List.mem_cons_self | (with_reducible refine List.mem_cons_of_mem _ ?_; k_extra "mg")
  k_with "ne1" => first | exact h1 | exact neP h2 (by k_extra "mg") | exact neC h3 (by k_extra "mg") | fail "ne1"
  k_with "nc" => with_reducible first | exact h3 | exact ncN | (refine' ncC ?b9 ?q9; (case b9 => k_extra "ne1"); (case q9 => k_extra "nc")) | fail "nc"
  k_with "sm" => with_reducible first | rfl | (refine' sm1 ?a9 ?r9; (case a9 => k_extra "ne1"); (case r9 => k_extra "sm")) | (refine' sm2 ?h9 ?r9; (case h9 => k_extra "nc"); (case r9 => k_extra "sm")) | (refine sm3 h2 ?_; k_extra "sm") | fail "sm"
  k_with "rm" => first | exact ltA0 (by with_reducible assumption) | exact ltA1 (by with_reducible assumption) (Nat.le_of_ble_eq_true rfl) | exact ltA2 (by with_reducible assumption) (Nat.le_of_ble_eq_true rfl) | exact ltA3 (by with_reducible assumption) (Nat.le_of_ble_eq_true rfl)
  k_with "sz" => first | with_reducible assumption | with_reducible exact Nat.le_of_ble_eq_true (Eq.refl true)
  k_with "my call ref" => first
    | (k_here; k_dflt (refine' CS0.use ?C ?B ?F ?X ?XB ?TB ?N ?T ?K ?D ?U ?_; (case B => k_asm); (case F => k_asm); (case X => assumption); (case XB => assumption); (case TB => assumption); (case N => k_asm); (case T => assumption); (case K => first | exact rfl | assumption); (case C => exact hK _ (by k_mem) _ _ _); (case D => first | k_extra "rm" | omega); (case U => first | k_extra "rm" | omega)); intro r9 n9 h9 tk9 F9 N9 p9; obtain ⟨⟨t9, rfl⟩, rfl⟩ := p9; skip; (try dsimp only); (try k_fold))
  k_with "my binaryOp Add str str" => (k_here; (with_reducible show wpAny _ _ (binaryOp Operator.Add (Value.str (p257v _) _) (Value.str (p257v _) _)) _ _ _); (refine SBL.add (hsz := Nat.le_trans hD2 (by decide)) ?_); intro _ _ _)
  k_with "my call builtin:str.replace" => (k_here;  (k_dflt (refine SC.replaceW (by show @Ne Nat _ _; (try dsimp only); omega) (by show @Ne Nat _ _; (try dsimp only); omega) (by show @Ne Nat _ _; (try dsimp only); omega) (by decide +kernel) (by omega) (by decide +kernel) ?_)); intro _ _; (try dsimp only))
  repeat' (first | (k_unfold; (try dsimp only)) | (k_end; wrow_close) | ((with_reducible show wpAny _ _ (execs (_ :: _) _) _ _ _); dsimp only; walk1) | walk1 | (dsimp only; walk1) | (leave1; walk_say "STEP leave1"; try dsimp only) | fail "no step")
  all_goals (simp only [hE, beq_self_eq_true]; exact hret _ _ _ _ (by k_asm) (by k_asm))
theorem lx25 (w : World) (L : Addr) (i k j : Int) (h0 : 0 ≤ i) (h1 : i < 5) (k0 : 0 ≤ k) (k1 : k < 6) (j0 : 0 ≤ j) (j1 : j < 4) (tn tq : Tok) : LX w 25 L [(Str.ofString "name", .str (nmV i) tn), (Str.ofString "quoted", .str (quotV k j) tq)] [] := by
  have hq := (quot_is k0 k1 j0 j1).2
  have hn : (nmV i).length = 1 := rfl
  have hU := fun x hx t1 t2 news => heardU w i k j h0 h1 k0 k1 j0 j1 x t1 t2 hx news
  have hZ := lx27 w L i h0 h1 tn
  unfold unsV at hU
  generalize hqv : quotV k j = qv at hq hU ⊢
  generalize hnm : nmV i = nm at hn hU hZ ⊢
  unfold LX
  k_fill
  refine' fnAt_of ?k6 ?_
  case k6 => k_is
  intro mean mg mb dp un gd a ccd A₀ base s m₀ Q htok B' F9 X' N' T' hd hu hret
  have hk : ScopeKind.function = ScopeKind.function := rfl
  have XB := X'
  have TB := T'
  dsimp only [List.drop]
  dsimp only [kstB] at F9
  refine seg_toks (l1 := [_, _]) htok ?_
  (try k_fold)
  k_with_none
  k_with "k_mem" => first | exact (by with_reducible assumption) | exact (List.mem_cons_of_mem _ (by with_reducible assumption)) | exact (List.mem_cons_of_mem _ (List.mem_cons_of_mem _ (by with_reducible assumption))) | exact (List.mem_cons_of_mem _ (List.mem_cons_of_mem _ (List.mem_cons_of_mem _ (by with_reducible assumption)))) | exact (List.mem_cons_of_mem _ (List.mem_cons_of_mem _ (List.mem_cons_of_mem _ (List.mem_cons_of_mem _ (by with_reducible assumption)))))
  k_with "pj" => first | with_reducible assumption | exact pj0 (by with_reducible assumption) | exact pj1 (by with_reducible assumption) | exact pj2 (by with_reducible assumption) | exact pj3 (by with_reducible assumption) | exact pj4 (by with_reducible assumption) | exact pj5 (by with_reducible assumption) | exact pj6 (by with_reducible assumption) | exact pj7 (by with_reducible assumption) | exact pj8 (by with_reducible assumption) | exact pj9 (by with_reducible assumption) | exact pj10 (by with_reducible assumption) | exact pj11 (by with_reducible assumption) | exact pj12 (by with_reducible assumption) | exact pj13 (by with_reducible assumption) | exact pj14 (by with_reducible assumption) | exact pj15 (by with_reducible assumption) | exact pj16 (by with_reducible assumption) | exact pj17 (by with_reducible assumption) | exact pj18 (by with_reducible assumption) | exact pj19 (by with_reducible assumption) | exact pj20 (by with_reducible assumption) | exact pj21 (by with_reducible assumption) | exact pj22 (by with_reducible assumption) | exact pj23 (by with_reducible assumption) | exact pj24 (by with_reducible assumption)
  k_with "pj2" => first | exact ltR (by k_extra "lt") | exact ltL (k := 4) (by k_extra "lt") (Nat.le_of_ble_eq_true rfl) | exact ltLR (k := 4) (by k_extra "lt") (Nat.le_of_ble_eq_true rfl) | exact ltR (by k_extra "pj") | exact ltL (k := 4) (by k_extra "pj") (Nat.le_of_ble_eq_true rfl) | exact ltLR (k := 4) (by k_extra "pj") (Nat.le_of_ble_eq_true rfl)
  k_with "lt" => first | with_reducible assumption | exact ltOf (by with_reducible assumption) (by k_mem)
  k_with "k_ne" => (refine neN ?_; (try dsimp only); first | exact neK rfl | exact neK0 rfl | exact neK1 rfl | exact Nat.ne_of_lt (by k_extra "lt") | exact Nat.ne_of_gt (by k_extra "lt") | exact Nat.ne_of_lt (by k_extra "pj") | exact Nat.ne_of_gt (by k_extra "pj") | exact Nat.ne_of_lt (by k_extra "pj2") | exact Nat.ne_of_gt (by k_extra "pj2") | k_extra "pj" | k_extra "pq" | exact Ne.symm (by k_extra "pj") | omega)
  k_with "mb" => first | with_reducible exact incM | with_reducible assumption | (with_reducible refine incMT ?_; k_extra "mb") | (with_reducible refine incML ?_; k_extra "mb") | (with_reducible refine incMR ?_; k_extra "mb")
  k_with "sbl" => first | with_reducible exact incI | (with_reducible refine incT ?_; k_extra "sbl") | (with_reducible refine incL ?_; k_extra "sbl") | (with_reducible refine incR ?_; k_extra "sbl")
  k_with "sb" => first | with_reducible exact incI | with_reducible exact incN | (with_reducible refine' incC ?m9 ?r9; (case m9 => k_extra "mb"); (case r9 => k_extra "sb")) | (k_extra "sbl") | (with_reducible refine incA ?_ ?_ <;> k_extra "sb")
  k_with "mg" => first | with_reducible exact List.mem_cons_self | (with_reducible refine List.mem_cons_of_mem _ ?_; k_extra "mg")
  k_with "ne1" => first | exact h1 | exact neP h2 (by k_extra "mg") | exact neC h3 (by k_extra "mg") | fail "ne1"
  k_with "nc" => with_reducible first | exact h3 | exact ncN | (refine' ncC ?b9 ?q9; (case b9 => k_extra "ne1"); (case q9 => k_extra "nc")) | fail "nc"
  k_with "sm" => with_reducible first | rfl | (refine' sm1 ?a9 ?r9; (case a9 => k_extra "ne1"); (case r9 => k_extra "sm")) | (refine' sm2 ?h9 ?r9; (case h9 => k_extra "nc"); (case r9 => k_extra "sm")) | (refine sm3 h2 ?_; k_extra "sm") | fail "sm"
  k_with "rm" => first | exact ltA0 (by with_reducible assumption) | exact ltA1 (by with_reducible assumption) (Nat.le_of_ble_eq_true rfl) | exact ltA2 (by with_reducible assumption) (Nat.le_of_ble_eq_true rfl) | exact ltA3 (by with_reducible assumption) (Nat.le_of_ble_eq_true rfl)
  k_with "sz" => first | with_reducible assumption | with_reducible exact Nat.le_of_ble_eq_true (Eq.refl true)
  k_with "my call ref" => first
    | (k_here; k_dflt (refine' CS0.use ?C ?B ?F ?X ?XB ?TB ?N ?T ?K ?D ?U ?_; (case B => k_asm); (case F => k_asm); (case X => assumption); (case XB => assumption); (case TB => assumption); (case N => k_asm); (case T => assumption); (case K => first | exact rfl | assumption); (case C => exact hU _ (by k_mem) _ _ _); (case D => first | k_extra "rm" | omega); (case U => first | k_extra "rm" | omega)); intro r9 n9 h9 tk9 F9 N9 p9; obtain ⟨⟨t9, rfl⟩, rfl⟩ := p9; skip; (try dsimp only); (try k_fold))
  repeat' (first | (k_unfold; (try dsimp only)) | (k_end; wrow_close) | ((with_reducible show wpAny _ _ (execs (_ :: _) _) _ _ _); dsimp only; walk1) | walk1 | (dsimp only; walk1) | (leave1; walk_say "STEP leave1"; try dsimp only) | fail "no step")
  all_goals (refine SegEnd.intro fun ht9 => ?_; (try dsimp only at ht9); k_dflt (refine' LX.use (hZ) ?ho ?hr ?T1 ?B ?F ?ps ?X ?N ?T ?D ?U ?_; (skip); (case B => assumption); (case F => k_asm); (case X => assumption); (case ho => k_is); (case N => first | k_asm | (refine kst_newsOf (by k_asm) ?_; repeat (first | exact List.forall_mem_nil _ | (refine List.forall_mem_cons.mpr ⟨by first | exact List.mem_cons_self | (exact List.mem_cons_of_mem _ List.mem_cons_self) | (exact List.mem_cons_of_mem _ (List.mem_cons_of_mem _ List.mem_cons_self)) | k_mem, ?_⟩)))); (case T => assumption); (case hr => rfl); (case ps => kst_all); (case T1 => first | assumption | omega | (dsimp only; omega) | (with_unfolding_all assumption)); (case D => first | k_extra "rm" | omega); (case U => first | k_extra "rm" | omega); (skip)); all_goals exact fun m' news' h' tk' F9 N9 => hret m' news' h' tk' F9 N9)
end
-- part Ccmp
section
theorem top_off_Ccmp : True := by
  w_top off
  exact True.intro
theorem strs_dat {n : List (Addr × Obj)} : ∀ {vs : List Value} {ys : List Str}, StrsAre vs ys → DatAll n vs (ys.map Dat.str)
  | _, _, .nil => .nil
  | _, _, .cons x t r => .cons (.str x t) (strs_dat r)
theorem ints_dat {n : List (Addr × Obj)} : ∀ {vs : List Value} {ns : List Int}, IntsAre vs ns → DatAll n vs (ns.map Dat.int)
  | _, _, .nil => .nil
  | _, _, .cons x t r => .cons (.int x t) (ints_dat r)
theorem rows_dat {T : List (Addr × Obj)} : ∀ {vs : List Value} {B : List (List Int)}, RowsAre T vs B → DatAll T vs (B.map fun r => Dat.list (r.map Dat.int))
  | [], [], _ => .nil
  | _ :: _, _ :: _, ⟨⟨_, _, _, e, hm, hi⟩, r⟩ => by subst e; exact .cons (.list hm (ints_dat hi)) (rows_dat r)
  | [], _ :: _, h => h.elim
  | _ :: _, [], h => h.elim
theorem rows_ok (B : List (List Int)) : ∀ d ∈ B.map (fun r => Dat.list (r.map Dat.int)), kqdOk 8 d = true := by
  intro d hd
  obtain ⟨r, _, rfl⟩ := List.mem_map.mp hd
  show (r.map Dat.int).all (kqdOk 7) = true
  rw [List.all_eq_true]
  intro e he
  obtain ⟨x, _, rfl⟩ := List.mem_map.mp he
  rfl
section
variable {prog : Program} {w : World} {A : Around} {E : Value → Shared → Prop} {s : Shared} {h₀ : Heap} {L a b : Addr} {news n₁ n₂ : List (Addr × Obj)} {xs ys : List Value} {ka kb : Nat} {Q : Value → Shared → Prop}
theorem ne_strs {ds : List Str} (N : News h₀ L s.heap news) (ma : (a, listOf xs.toArray ka) ∈ news) (mb : (b, listOf ys.toArray kb) ∈ news) (hx : StrsAre xs ds) (hy : StrsAre ys ds) (hok : ∀ y ∈ ds, PyData.strOk y = true) (hu : A.units + 64 < cLine) (h : Q (.bool false) s) :
    wpAny (model prog w) A (compareOp .NotEq (.ref a) (.ref b)) Q E s := by
  have ok : ∀ d ∈ ds.map Dat.str, kqdOk 8 d = true := by
    intro d hd
    obtain ⟨y, hy, rfl⟩ := List.mem_map.mp hd
    exact hok y hy
  refine kqd_ne (n₁ := []) (n₂ := []) N ma rfl rfl (strs_dat hx) (fun _ h => nomatch h) mb rfl rfl (strs_dat hy) (fun _ h => nomatch h) ok ok hu ?_
  simpa using h
theorem ne_rows {B C : List (List Int)} (hBC : B = C) (N : News h₀ L s.heap news) (ma : (a, listOf xs.toArray ka) ∈ news) (mb : (b, listOf ys.toArray kb) ∈ news) (hx : RowsAre n₁ xs B) (s1 : ∀ p ∈ n₁, p ∈ news) (hy : RowsAre n₂ ys C) (s2 : ∀ p ∈ n₂, p ∈ news) (hu : A.units + 64 < cLine) (h : Q (.bool false) s) :
    wpAny (model prog w) A (compareOp .NotEq (.ref a) (.ref b)) Q E s := by
  subst hBC
  refine kqd_ne N ma rfl rfl (rows_dat hx) s1 mb rfl rfl (rows_dat hy) s2 (rows_ok B) (rows_ok B) hu ?_
  simpa using h
end
end
-- part L23
section
theorem top_off_L23 : True := by
  w_top off
  exact True.intro
noncomputable def hdL (i : Int) (q : Str) : List Str := ((spV i q).take 6).map (Str.ofString "reply " ++ ·) ++ ((spV i q).drop 6).map (Str.ofString "proto " ++ ·)
theorem hd_get {S : List Str} (hS : S.length = 14) {p : Nat} {x : Str} (hx : S[p]? = some x) : ((S.take 6).map (Str.ofString "reply " ++ ·) ++ (S.drop 6).map (Str.ofString "proto " ++ ·))[p]? = some (if p < 6 then Str.ofString "reply " ++ x else Str.ofString "proto " ++ x) := by
  have hl : ((S.take 6).map (Str.ofString "reply " ++ ·)).length = 6 := by rw [List.length_map, List.length_take, hS]; rfl
  by_cases hp : p < 6
  · rw [List.getElem?_append_left (by omega), List.getElem?_map, List.getElem?_take, if_pos hp, if_pos hp, hx]; rfl
  · rw [List.getElem?_append_right (by omega), hl, List.getElem?_map, List.getElem?_drop, show 6 + (p - 6) = p by omega, if_neg hp, hx]; rfl
theorem head3 {a q : Str} (h : a.cps.toList.length = 3) (hx : (a ++ q).length ≤ 1000) : Txt.slice (a ++ q) none (some 3) = a := by
  have e : (a ++ q).cps.toList = a.cps.toList ++ q.cps.toList := by rw [Str.cps_append, Array.toList_append]
  have hl : (3 : Int) ≤ (a ++ q).cps.toList.length := by rw [e, List.length_append, h]; omega
  refine (StrLaws.sliceText_to (x := a ++ q) (j := 3) ⟨by omega, hl⟩).trans ?_
  have e2 : ((3 : Int) - 0).toNat = 3 := by decide
  rw [e, e2, List.drop_zero, List.take_append_of_le_length (by omega), List.take_of_length_le (by omega)]
theorem proto_of {x : Str} (h : protoB x = true) : (fun l r : Int => l < 0 ∨ (0 ≤ l ∧ r < 0) ∨ (0 ≤ l ∧ l + 1 < x.length ∧ 1 ≤ r ∧ r ≤ x.length ∧ (Txt.item x (l + 1) != Txt.item x (r - 1)) = true) ∨ (0 ≤ l ∧ l + 1 < x.length ∧ 1 ≤ r ∧ r ≤ x.length ∧ (Txt.item x (l + 1) != Txt.item x (r - 1)) = false ∧ (Txt.split (Txt.slice x (some (l + 1)) (some r)) (Txt.item x (l + 1))).length ≠ 5)) (Txt.find x (Str.ofString "(")) (Txt.find3 x (Str.ofString ")") (Txt.find x (Str.ofString "(") + 1)) := by
  unfold protoB at h
  simp only [Bool.or_eq_true, Bool.and_eq_true, decide_eq_true_eq, Bool.not_eq_true'] at h
  rcases h with (h | h) | ⟨⟨h1, h2, h3, h4⟩, h | h⟩
  · exact .inl h
  · exact .inr (.inl h)
  · exact .inr (.inr (.inl ⟨h1, h2, h3, h4, h⟩))
  · exact .inr (.inr (.inr ⟨h1, h2, h3, h4, h.1, h.2⟩))
theorem peer_fin : ∀ p : Fin 14, Txt.slice (Str.ofString "peer") none (some (4 * ((0 : Int) + (p.val : Int)).fdiv 3)) = if p.val < 3 then Str.ofString "" else Str.ofString "peer" := by decide +kernel
theorem heardS (w : World) (i : Int) (q : Str) (h0 : 0 ≤ i) (h1 : i < 5) (hq : q.length ≤ 40) (p : Nat) (hp : p < 14) (x y : Str) (hx : (spV i q)[p]? = some x) (hy : y = Txt.slice (Str.ofString "peer") none (some (4 * ((0 : Int) + (p : Int)).fdiv 3))) (t1 t2 : Tok) (news : List (Addr × Obj)) :
    CS0 w (hd.heap_39 w.params) 145 4 [.str x t1, .str y t2] news (fun r n => (∃ t z, r = .str z t ∧ (hdL i q)[p]? = some z) ∧ n = news) := by
  have l1 : (Str.ofString "157").cps.toList.length = 3 := by decide +kernel
  have l2 : (Str.ofString "267").cps.toList.length = 3 := by decide +kernel
  have l3 : (Str.ofString "258").cps.toList.length = 3 := by decide +kernel
  have s1 : (Str.ofString "157").length = 3 := by decide +kernel
  have s2 : (Str.ofString "267").length = 3 := by decide +kernel
  have s3 : (Str.ofString "258").length = 3 := by decide +kernel
  have s4 : (Str.ofString " 257").length = 4 := by decide +kernel
  by_cases ha : p < 3
  · rw [peer_fin ⟨p, hp⟩, if_pos ha] at hy
    subst hy
    have hz : (hdL i q)[p]? = some (Str.ofString "reply " ++ x) := by
      have := hd_get (S := spV i q) rfl hx
      rw [if_pos (by omega)] at this
      exact this
    have hl : x.length ≤ 60 ∧ (Txt.slice x none (some 3) != Str.ofString "257") = true := by
      have : p = 0 ∨ p = 1 ∨ p = 2 := by omega
      rcases this with rfl | rfl | rfl <;> cases hx
      · rw [Str.append_assoc, head3 l1 (by simp only [Str.length_append]; omega)]
        exact ⟨by simp only [Str.length_append]; omega, by decide +kernel⟩
      · rw [head3 l2 (by simp only [Str.length_append]; omega)]
        exact ⟨by simp only [Str.length_append]; omega, by decide +kernel⟩
      · rw [head3 l3 (by simp only [Str.length_append]; omega)]
        exact ⟨by simp only [Str.length_append]; omega, by decide +kernel⟩
    intro mean mg mb dp un gd cn cs a ccd cl A₀ base h₀ L m s Q E B F X XB TB N T hk hd hu hret
    exact heard2 w x t1 t2 (by omega) hl.2 news mean mg mb dp un gd cn cs a ccd cl A₀ base h₀ L m s Q E B F X XB TB N T hk hd hu fun r n' h' tk' F' N' ⟨⟨t, er⟩, en⟩ => hret r n' h' tk' F' N' ⟨⟨t, _, er, hz⟩, en⟩
  · have hy2 : y = Str.ofString "peer" := by rw [hy, peer_fin ⟨p, hp⟩, if_neg ha]
    subst hy2
    by_cases hb : p < 6
    · have hm : x ∈ ((spV i (Str.ofString "")).drop 3).take 3 := by
        have hs : (spV i (Str.ofString "")).drop 3 = (spV i q).drop 3 := rfl
        rw [hs]
        refine List.mem_of_getElem? (i := p - 3) ?_
        rw [List.getElem?_take, if_pos (by omega), List.getElem?_drop, show 3 + (p - 3) = p by omega]
        exact hx
      have hz : (hdL i q)[p]? = some (Str.ofString "reply " ++ x) := by
        have := hd_get (S := spV i q) rfl hx
        rw [if_pos (by omega)] at this
        exact this
      have hA := fin5 (P := fun i => (((spV i (Str.ofString "")).drop 3).take 3).all (fun x => (Txt.slice x none (some 3) != Str.ofString "229") && decide (x.length ≤ 30)) = true) reply_fin h0 h1
      have hA := List.all_eq_true.mp hA x hm
      simp only [Bool.and_eq_true, decide_eq_true_eq] at hA
      intro mean mg mb dp un gd cn cs a ccd cl A₀ base h₀ L m s Q E B F X XB TB N T hk hd hu hret
      exact heard3 w x t1 t2 (by omega) hA.1 news mean mg mb dp un gd cn cs a ccd cl A₀ base h₀ L m s Q E B F X XB TB N T hk hd hu fun r n' h' tk' F' N' ⟨⟨t, er⟩, en⟩ => hret r n' h' tk' F' N' ⟨⟨t, _, er, hz⟩, en⟩
    · have hm : x ∈ (spV i (Str.ofString "")).drop 6 := by
        have hs : (spV i (Str.ofString "")).drop 6 = (spV i q).drop 6 := rfl
        rw [hs]
        refine List.mem_of_getElem? (i := p - 6) ?_
        rw [List.getElem?_drop, show 6 + (p - 6) = p by omega]
        exact hx
      have hz : (hdL i q)[p]? = some (Str.ofString "proto " ++ x) := by
        have := hd_get (S := spV i q) rfl hx
        rw [if_neg (by omega)] at this
        exact this
      have hA := fin5 (P := fun i => ((spV i (Str.ofString "")).drop 6).all (fun x => protoB x && !(Txt.slice x none (some 3) != Str.ofString "229") && decide (x.length ≤ 30)) = true) proto_fin h0 h1
      have hA := List.all_eq_true.mp hA x hm
      simp only [Bool.and_eq_true, decide_eq_true_eq, Bool.not_eq_true'] at hA
      intro mean mg mb dp un gd cn cs a ccd cl A₀ base h₀ L m s Q E B F X XB TB N T hk hd hu hret
      exact heard4 w x t1 t2 (by omega) hA.1.2 _ _ rfl rfl (proto_of hA.1.1) news mean mg mb dp un gd cn cs a ccd cl A₀ base h₀ L m s Q E B F X XB TB N T hk hd hu fun r n' h' tk' F' N' ⟨⟨t, er⟩, en⟩ => hret r n' h' tk' F' N' ⟨⟨t, _, er, hz⟩, en⟩
end
-- part CompT
section
theorem top_off_CompT : True := by
  w_top off
  exact True.intro
section
variable {prog : Program} {w : World} {A : Around} {E : Value → Shared → Prop} {s : Shared} {h₀ : Heap} {L : Addr} {m : Str → Option Value} {env : Env}
noncomputable def TupSrc (prog : Program) (w : World) (A : Around) (h₀ : Heap) (L : Addr) (m : Str → Option Value) (env : Env) (elt : PySem.Expr) (x : Str) (scope : Scope) (cl : List (Str × Addr)) (Fin : Shared → List Value → List (Addr × Obj) → Prop) (xv : Value) (s₁ : Shared) : Prop :=
  ∃ (ax : Addr) (its : Array Value) (k : Nat) (news : List (Addr × Obj)), xv = .ref ax ∧ A.handled = none ∧ Fr h₀ L s₁.heap m ∧ News h₀ L s₁.heap news ∧ (ax, ({ cls := .type "tuple", data := .seq its k } : Obj)) ∈ news ∧ its.size ≤ sizeLine ∧
    ∀ g : Heap, LCg.CompRest prog w A h₀ L m env elt x scope cl { s₁ with heap := g } (fun nw => (ax, ({ cls := .type "tuple", data := .seq its k } : Obj)) ∈ nw) (fun i v => its[i]? = some v) (Fin { s₁ with heap := g }) its.size 0 [] news
theorem TupSrc.intro {elt : PySem.Expr} {x : Str} {scope : Scope} {cl : List (Str × Addr)} {Fin : Shared → List Value → List (Addr × Obj) → Prop} {ax : Addr} {its : Array Value} {k : Nat} {news : List (Addr × Obj)} {s₁ : Shared}
    (hh : A.handled = none) (F : Fr h₀ L s₁.heap m) (N : News h₀ L s₁.heap news) (hm : (ax, ({ cls := .type "tuple", data := .seq its k } : Obj)) ∈ news) (hsz : its.size ≤ sizeLine)
    (h : ∀ g : Heap, LCg.CompRest prog w A h₀ L m env elt x scope cl { s₁ with heap := g } (fun nw => (ax, ({ cls := .type "tuple", data := .seq its k } : Obj)) ∈ nw) (fun i v => its[i]? = some v) (Fin { s₁ with heap := g }) its.size 0 [] news) :
    TupSrc prog w A h₀ L m env elt x scope cl Fin (.ref ax) s₁ := ⟨ax, its, k, news, rfl, hh, F, N, hm, hsz, h⟩
theorem comp_tup {elt iter : PySem.Expr} {x : Str} {px : Pos} {scope : Scope} {cl : List (Str × Addr)} {pos : Pos} {Q : Value → Shared → Prop} (_F : Fr h₀ L s.heap m)
    (hclos : closureFor scope env = pure cl) (hcell : ∀ y ∈ scope.names, y.2 ≠ .cell) (hkind : scope.kind = .function)
    (hnames : ∀ y ∈ scope.names, y.2 = .local → scope.names.lookup y.1 = some .local) (hx : scope.names.lookup x = some .local)
    (h : wpAny (model prog w) A (eval iter env) (TupSrc prog w A h₀ L m env elt x scope cl (fun s₂ => LCg.FinE h₀ L m s₂ Q)) E s)
    (hs : ∀ x, foldedSetIterable iter env x = pure x := by intro _; rfl) :
    wpAny (model prog w) A (eval (.ListComp elt [⟨.Name x px, iter, [], 0⟩] scope pos) env) Q E s := by
  rw [eval_ListComp]
  refine wpAny_comprehension_free (use := none) rfl hs hclos hkind hnames (wpAny_mono h (fun xv s₁ h₁ => ?_) fun _ _ e => e)
  obtain ⟨ax, its, k, news, rfl, hh, F, N, hm, hsz, R⟩ := h₁
  have hto : s₁.heap.get? ax = some ({ cls := .type "tuple", data := .seq its k } : Obj) := (N _ hm).1
  have hlt : ax < s₁.heap.objs.size := Heap.lt_size hto
  have tup : ∀ {h' : Heap}, h'.get? ax = some ({ cls := .type "tuple", data := .seq its k } : Obj) → h'.IsTuple ax its := fun e => ⟨_, e, rfl, k, rfl⟩
  refine wpAny_pyIter_tuple (tup hto) ?_
  refine LCg.block_U (Walks.tuple hh s₁.heap.objs.size ax (Nat.ne_of_lt hlt) its) hsz (fun i h st => by obtain ⟨o, e, _⟩ := st.1; exact ⟨o, e⟩)
    (fun i h h' o nw st e e' kp N' hS => ⟨by obtain ⟨o', q, r⟩ := st.1; rw [e] at q; cases q; exact ⟨o, e', r⟩, tup (N' _ hS).1⟩)
    hcell hkind hx ⟨⟨_, Heap.get?_push_size _ rfl, rfl, rfl⟩, tup (Heap.get?_push_of_some _ hto)⟩ (fun b hb => ?_)
    (F.push _) (N.grown fun _ _ e => Heap.get?_push_of_some _ e) (Nat.ne_of_lt F.ns.lt) (next_is_new F) (fun p hp => Nat.ne_of_lt (Heap.lt_size (N p hp).1)) hm (R _) ?_
  · show b < (s₁.heap.push _).objs.size
    rw [Heap.size_push]
    rcases List.mem_cons.mp hb with rfl | hb
    · exact Nat.lt_succ_self _
    · rw [List.mem_singleton.mp hb]; exact Nat.lt_succ_of_lt hlt
  · intro D C h' tk m' ys news' F' N' o1 hn c0 d0 cL dL cD offC fin
    refine ⟨m', hn, fun h2 hs2 => fin D h2 tk (F'.change hs2 cL c0) (fun p hp => ⟨hs2.extBut _ _ ?_ (N' p hp).1, (N' p hp).2⟩) o1⟩
    rcases List.mem_cons.mp hp with rfl | hp
    · exact Ne.symm cD
    · exact offC p hp
end
end
-- part L23b
section
theorem top_off_L23b : True := by
  w_top off
  exact True.intro
theorem strOk_app {a b : Str} (ha : PyData.strOk a = true) (hb : PyData.strOk b = true) : PyData.strOk (a ++ b) = true := by
  unfold PyData.strOk at *
  rw [Str.cps_append, Array.all_append, ha, hb]; rfl
theorem quot_ok_fin : ∀ (k : Fin 6) (j : Fin 4), PyData.strOk (quotV (k.val : Int) (j.val : Int)) = true := by decide +kernel
theorem sp_ok_fin : ∀ (i : Fin 5), ((spV (i.val : Int) (Str.ofString "")).drop 3).all (fun x => PyData.strOk x && decide (x.length ≤ 60)) = true := by decide +kernel
theorem sp_ok {i k j : Int} (h0 : 0 ≤ i) (h1 : i < 5) (k0 : 0 ≤ k) (k1 : k < 6) (j0 : 0 ≤ j) (j1 : j < 4) : ∀ x ∈ spV i (quotV k j), PyData.strOk x = true ∧ x.length ≤ 60 := by
  have hq := (quot_is k0 k1 j0 j1).2.1
  have ho := fin6 (P := fun k => PyData.strOk (quotV k j) = true) (fun k => fin4 (P := fun j => PyData.strOk (quotV (k.val : Int) j) = true) (quot_ok_fin k) j0 j1) k0 k1
  have hA := fin5 (P := fun i => ((spV i (Str.ofString "")).drop 3).all (fun x => PyData.strOk x && decide (x.length ≤ 60)) = true) sp_ok_fin h0 h1
  generalize quotV k j = q at *
  have s1 : (Str.ofString "157").length = 3 := by decide +kernel
  have s2 : (Str.ofString "267").length = 3 := by decide +kernel
  have s3 : (Str.ofString "258").length = 3 := by decide +kernel
  have s4 : (Str.ofString " 257").length = 4 := by decide +kernel
  have o1 : PyData.strOk (Str.ofString "157") = true := by decide +kernel
  have o2 : PyData.strOk (Str.ofString "267") = true := by decide +kernel
  have o3 : PyData.strOk (Str.ofString "258") = true := by decide +kernel
  have o4 : PyData.strOk (Str.ofString " 257") = true := by decide +kernel
  intro x hx
  have e : spV i q = [Str.ofString "157" ++ q ++ Str.ofString " 257", Str.ofString "267" ++ q, Str.ofString "258" ++ q] ++ (spV i (Str.ofString "")).drop 3 := rfl
  rw [e, List.mem_append] at hx
  rcases hx with hx | hx
  · simp only [List.mem_cons, List.not_mem_nil, or_false] at hx
    rcases hx with rfl | rfl | rfl
    · exact ⟨strOk_app (strOk_app o1 ho) o4, by simp only [Str.length_append]; omega⟩
    · exact ⟨strOk_app o2 ho, by simp only [Str.length_append]; omega⟩
    · exact ⟨strOk_app o3 ho, by simp only [Str.length_append]; omega⟩
  · have := List.all_eq_true.mp hA x hx
    simp only [Bool.and_eq_true, decide_eq_true_eq] at this
    exact this
theorem strs_snoc {ys : List Value} {T : List Str} {c : Nat} {z : Str} (t : Tok) (h : StrsAre ys (T.take c)) (hz : T[c]? = some z) : StrsAre (ys ++ [.str z t]) (T.take (c + 1)) := by
  rw [List.take_add_one, hz]
  exact StrsAre.append' h (.cons z t .nil)
theorem strs_at {vs : List Value} {xs : List Str} (h : StrsAre vs xs) {c : Nat} {v : Value} (hv : vs[c]? = some v) : ∃ x t, v = .str x t ∧ xs[c]? = some x := by
  obtain ⟨y, t, e, hy⟩ := StrsAre.item h c v hv
  exact ⟨y, t, e, hy⟩
theorem getD_at {S : List Str} {c : Nat} (h : c < S.length) : S[c]? = some (S.getD ((0 : Int) + (c : Int)).toNat Str.empty) := by
  have e : ((0 : Int) + (c : Int)).toNat = c := by omega
  rw [e]; simp [List.getD, h]
theorem slc_upto (us : List Value) : slicePick us.toArray none (some 6) none = (us.take 6).toArray := by
  have := slicePick_upto' us.toArray 6
  simpa using this
theorem slc_from (us : List Value) : slicePick us.toArray (some 6) none none = (us.drop 6).toArray := by
  have := slicePick_from' us.toArray 6
  simpa using this
theorem comp_strs {prog : Program} {w : World} {A : Around} {s : Shared} {h₀ : Heap} {L : Addr} {m : Str → Option Value} {env : Env} {elt : PySem.Expr} {nm : Str} {scope : Scope} {cl : List (Str × Addr)} {S : List (Addr × Obj) → Prop} {Fin : List Value → List (Addr × Obj) → Prop} {its : Array Value} {xs : List Str} {news0 : List (Addr × Obj)} (f : Str → Str) (hx : StrsAre its.toList xs)
    (turn : ∀ (c : Nat) (ys : List Value) (x : Str) (t : Tok) (I : Addr) (oI : Obj) (C : Addr) (oC : Obj) (D : Addr) (m₂ : Str → Option Value) (h : Heap) (tk : Nat) (E' : Value → Shared → Prop), xs[c]? = some x → LCg.NsObj oC m₂ → m₂ nm = some (.str x t) → Fr h₀ L h m → News h₀ L h ((I, oI) :: (C, oC) :: (D, LCg.lst ys) :: news0) → LCg.Off3 I C D news0 → ((@Ne Nat I C) ∧ (@Ne Nat I D) ∧ (@Ne Nat C D)) →
      wpAny (model prog w) A (eval elt (compEnvC scope cl C env)) (LCg.CompEnd h₀ L m { s with heap := h, toks := tk } I oI C oC D (LCg.lst ys) S (fun y news' => news' = news0 ∧ ∃ t', y = .str (f x) t')) E' { s with heap := h, toks := tk })
    (fin : ∀ ys, StrsAre ys (xs.map f) → Fin ys news0) : LCg.CompRest prog w A h₀ L m env elt nm scope cl s S (fun i v => its[i]? = some v) Fin its.size 0 [] news0 := by
  refine comp_ind its.size (fun c ys nn => nn = news0 ∧ StrsAre ys ((xs.map f).take c)) ?_ ?_ _ 0 [] _ (by omega) ⟨rfl, by rw [List.take_zero]; exact .nil⟩
  · rintro c ys _ v I oI C oC D m₂ h tk E' hc ⟨rfl, hY⟩ hP hC hx' F N off ne
    obtain ⟨x, t, rfl, hx9⟩ := strs_at (c := c) hx (by rw [← hP, Array.getElem?_toList])
    refine wpAny_mono (turn c ys x t I oI C oC D m₂ h tk E' hx9 hC hx' F N off ne) (fun y s₂ h2 => ?_) fun _ _ e => e
    obtain ⟨h', tk', news', e1, F', N', off', hS, rfl, t', rfl⟩ := h2
    exact ⟨h', tk', news', e1, F', N', off', hS, rfl, strs_snoc t' hY (by rw [List.getElem?_map, hx9]; rfl)⟩
  · rintro ys _ ⟨rfl, hY⟩
    refine fin ys ?_
    have hl : (xs.map f).length ≤ its.size := by
      have := hx.length
      rw [Array.length_toList] at this
      rw [List.length_map]; omega
    rwa [List.take_of_length_le hl] at hY
theorem hd_ok {S : List Str} (h : ∀ x ∈ S, PyData.strOk x = true ∧ x.length ≤ 60) : ∀ y ∈ (S.take 6).map (Str.ofString "reply " ++ ·) ++ (S.drop 6).map (Str.ofString "proto " ++ ·), PyData.strOk y = true := by
  intro y hy
  rcases List.mem_append.mp hy with hy | hy
  · obtain ⟨x, hx, rfl⟩ := List.mem_map.mp hy
    exact strOk_app (by decide +kernel) (h x (List.mem_of_mem_take hx)).1
  · obtain ⟨x, hx, rfl⟩ := List.mem_map.mp hy
    exact strOk_app (by decide +kernel) (h x (List.mem_of_mem_drop hx)).1
theorem lx23 (w : World) (L : Addr) (i k j : Int) (h0 : 0 ≤ i) (h1 : i < 5) (k0 : 0 ≤ k) (k1 : k < 6) (j0 : 0 ≤ j) (j1 : j < 4) (tn tq : Tok) (oS : Obj) (sp : Addr) (cap : Nat) (us : List Value) (hS : oS.data = .cell (some (.ref sp))) (hI : StrsAre us (spV i (quotV k j))) (hlt : L + 4 < sp) :
    LX w 23 L [(Str.ofString "name", .str (nmV i) tn), (Str.ofString "quoted", .str (quotV k j) tq)] [(sp, listOf us.toArray cap), (L + 4, oS)] := by
  have hZ := lx25 w L i k j h0 h1 k0 k1 j0 j1 tn tq
  have hOk := sp_ok h0 h1 k0 k1 j0 j1
  have hH := fun p hp x y hx hy t1 t2 news => heardS w i (quotV k j) h0 h1 (quot_is k0 k1 j0 j1).2.1 p hp x y hx hy t1 t2 news
  have h14 : (spV i (quotV k j)).length = 14 := rfl
  unfold hdL at hH
  generalize spV i (quotV k j) = S at hOk hH hI h14
  generalize quotV k j = qv at hZ ⊢
  generalize nmV i = nm at hZ ⊢
  have hul := hI.length
  have hu6 : StrsAre (us.take 6).toArray.toList (S.take 6) := hI.take' 6
  have hu8 : StrsAre (us.drop 6).toArray.toList (S.drop 6) := hI.drop' 6
  unfold LX
  k_fill
  refine' fnAt_of ?k6 ?_
  case k6 => k_is
  intro mean mg mb dp un gd a ccd A₀ base s m₀ Q htok B' F9 X' N' T' hd hu hret
  have hk : ScopeKind.function = ScopeKind.function := rfl
  have XB := X'
  have TB := T'
  dsimp only [List.drop]
  dsimp only [kstB] at F9
  refine seg_toks (l1 := [_, _]) htok ?_
  (try k_fold)
  k_with_none
  k_with "k_mem" => first | exact (by with_reducible assumption) | exact (List.mem_cons_of_mem _ (by with_reducible assumption)) | exact (List.mem_cons_of_mem _ (List.mem_cons_of_mem _ (by with_reducible assumption))) | exact (List.mem_cons_of_mem _ (List.mem_cons_of_mem _ (List.mem_cons_of_mem _ (by with_reducible assumption)))) | exact (List.mem_cons_of_mem _ (List.mem_cons_of_mem _ (List.mem_cons_of_mem _ (List.mem_cons_of_mem _ (by with_reducible assumption)))))
  k_with "pj" => first | with_reducible assumption | exact pj0 (by with_reducible assumption) | exact pj1 (by with_reducible assumption) | exact pj2 (by with_reducible assumption) | exact pj3 (by with_reducible assumption) | exact pj4 (by with_reducible assumption) | exact pj5 (by with_reducible assumption) | exact pj6 (by with_reducible assumption) | exact pj7 (by with_reducible assumption) | exact pj8 (by with_reducible assumption) | exact pj9 (by with_reducible assumption) | exact pj10 (by with_reducible assumption) | exact pj11 (by with_reducible assumption) | exact pj12 (by with_reducible assumption) | exact pj13 (by with_reducible assumption) | exact pj14 (by with_reducible assumption) | exact pj15 (by with_reducible assumption) | exact pj16 (by with_reducible assumption) | exact pj17 (by with_reducible assumption) | exact pj18 (by with_reducible assumption) | exact pj19 (by with_reducible assumption) | exact pj20 (by with_reducible assumption) | exact pj21 (by with_reducible assumption) | exact pj22 (by with_reducible assumption) | exact pj23 (by with_reducible assumption) | exact pj24 (by with_reducible assumption)
  k_with "pj2" => first | exact ltR (by k_extra "lt") | exact ltL (k := 4) (by k_extra "lt") (Nat.le_of_ble_eq_true rfl) | exact ltLR (k := 4) (by k_extra "lt") (Nat.le_of_ble_eq_true rfl) | exact ltR (by k_extra "pj") | exact ltL (k := 4) (by k_extra "pj") (Nat.le_of_ble_eq_true rfl) | exact ltLR (k := 4) (by k_extra "pj") (Nat.le_of_ble_eq_true rfl)
  k_with "lt" => first | with_reducible assumption | exact ltOf (by with_reducible assumption) (by k_mem)
  k_with "k_ne" => (refine neN ?_; (try dsimp only); first | exact neK rfl | exact neK0 rfl | exact neK1 rfl | exact Nat.ne_of_lt (by k_extra "lt") | exact Nat.ne_of_gt (by k_extra "lt") | exact Nat.ne_of_lt (by k_extra "pj") | exact Nat.ne_of_gt (by k_extra "pj") | exact Nat.ne_of_lt (by k_extra "pj2") | exact Nat.ne_of_gt (by k_extra "pj2") | k_extra "pj" | k_extra "pq" | exact Ne.symm (by k_extra "pj") | omega)
  k_with "mb" => first | with_reducible exact incM | with_reducible assumption | (with_reducible refine incMT ?_; k_extra "mb") | (with_reducible refine incML ?_; k_extra "mb") | (with_reducible refine incMR ?_; k_extra "mb")
  k_with "sbl" => first | with_reducible exact incI | (with_reducible refine incT ?_; k_extra "sbl") | (with_reducible refine incL ?_; k_extra "sbl") | (with_reducible refine incR ?_; k_extra "sbl")
  k_with "sb" => first | with_reducible exact incI | with_reducible exact incN | (with_reducible refine' incC ?m9 ?r9; (case m9 => k_extra "mb"); (case r9 => k_extra "sb")) | (k_extra "sbl") | (with_reducible refine incA ?_ ?_ <;> k_extra "sb")
  k_with "mg" => first | with_reducible exact List.mem_cons_self | (with_reducible refine List.mem_cons_of_mem _ ?_; k_extra "mg")
  k_with "ne1" => first | exact h1 | exact neP h2 (by k_extra "mg") | exact neC h3 (by k_extra "mg") | fail "ne1"
  k_with "nc" => with_reducible first | exact h3 | exact ncN | (refine' ncC ?b9 ?q9; (case b9 => k_extra "ne1"); (case q9 => k_extra "nc")) | fail "nc"
  k_with "sm" => with_reducible first | rfl | (refine' sm1 ?a9 ?r9; (case a9 => k_extra "ne1"); (case r9 => k_extra "sm")) | (refine' sm2 ?h9 ?r9; (case h9 => k_extra "nc"); (case r9 => k_extra "sm")) | (refine sm3 h2 ?_; k_extra "sm") | fail "sm"
  k_with "rm" => first | exact ltA0 (by with_reducible assumption) | exact ltA1 (by with_reducible assumption) (Nat.le_of_ble_eq_true rfl) | exact ltA2 (by with_reducible assumption) (Nat.le_of_ble_eq_true rfl) | exact ltA3 (by with_reducible assumption) (Nat.le_of_ble_eq_true rfl)
  k_with "sz" => first | with_reducible assumption | with_reducible exact Nat.le_of_ble_eq_true (Eq.refl true)
  k_with "my exec Assign cons ListComp" => (k_here; k_dflt (refine LCg.Assign_ListComp_U (F₀ := by k_asm) (by rfl) (by with_unfolding_all rfl) (by with_unfolding_all rfl) (by decide) (by rfl) (by decide) (by rfl) (by rfl) (by rfl) ?_); k_dflt lcg_toSrc)
  k_with "my eval ListComp" => (k_here; k_dflt (refine LCg.ListComp_U (F₀ := by k_asm) (by with_unfolding_all rfl) (by decide) (by rfl) (by decide) (by rfl) ?_); k_dflt lcg_toSrc)
  k_with "my CompSrc" => first
    | (k_here
       k_dflt (refine LCg.CompSrc.range (n := 14) (by rfl) (by k_asm) (by k_asm) (by assumption) (by decide) (by decide) (by decide) ?_)
       intro g'
       refine comp_ind 14 (fun c ys nn => nn = [(sp, listOf us.toArray cap), (L + 4, oS)] ∧ StrsAre ys (((S.take 6).map (Str.ofString "reply " ++ ·) ++ (S.drop 6).map (Str.ofString "proto " ++ ·)).take c)) ?_ ?_ _ 0 [] _ (by omega) ⟨rfl, by rw [List.take_zero]; exact .nil⟩
       all_goals first
         | (intro c9 ys9 news9 v I oI C oC D m₂ h9 tk9 E9 hi9 hI9 hP9 hC9 hx9 F9 N9 off9 ne9
            obtain ⟨rfl, hY9⟩ := hI9
            obtain ⟨t9, rfl⟩ := hP9
            have hYn := fun (t : Tok) (z : Str) hz => strs_snoc (z := z) t hY9 hz
            clear hY9
            (try dsimp only)
            (try k_fold))
         | (intro ysH news9 hI9
            obtain ⟨rfl, hYH⟩ := hI9
            rw [List.take_of_length_le (by simp [h14])] at hYH
            (try dsimp only)
            (try k_fold)))
    | (k_here
       rename News _ _ _ _ => N8
       simp only [slc_upto] at N8
       (k_dflt (refine LCg.CompSrc.ledger (its := (us.take 6).toArray) (by rfl) (by k_asm) N8 (by first | exact List.mem_cons_self | k_mem) (by simp [PySem.sizeLine]; omega) ?_))
       intro g'
       refine comp_strs (Str.ofString "reply " ++ ·) hu6 ?_ ?_
       all_goals first
         | (intro c9 ys9 x9 t9 I oI C oC D m₂ h9 tk9 E9 hX9 hC9 hx9 F9 N9 off9 ne9
            have hl9 := (hOk x9 (List.mem_of_mem_take (List.mem_of_getElem? hX9))).2
            (try dsimp only)
            (try k_fold))
         | (intro ysA hYA
            (try dsimp only)
            (try k_fold)))
    | (k_here
       rename News _ _ _ _ => N8
       simp only [slc_from] at N8
       k_dflt (refine LCg.CompSrc.ledger (its := (us.drop 6).toArray) (by rfl) (by k_asm) N8 (by k_mem) (by simp [PySem.sizeLine]; omega) ?_)
       intro g'
       refine comp_strs (Str.ofString "proto " ++ ·) hu8 ?_ ?_
       all_goals first
         | (intro c9 ys9 x9 t9 I oI C oC D m₂ h9 tk9 E9 hX9 hC9 hx9 F9 N9 off9 ne9
            have hl9 := (hOk x9 (List.mem_of_mem_drop (List.mem_of_getElem? hX9))).2
            (try dsimp only)
            (try k_fold))
         | (intro ysB hYB
            (try dsimp only)
            (try k_fold)))
  k_with "my eval Name" => (k_here; (with_reducible show wpAny _ _ (eval (Expr.Name _ _) (compEnvC _ _ _ _)) _ _ _); k_dflt (first | refine LCgL.ld_own (by k_asm) (by k_mem) (by assumption) (by with_reducible assumption) ?_ | (refine' lcf_cell ?N ?c ?m ?d ?_ ?a ?b; (case a => rfl); (case b => rfl); (case N => k_asm); (case c => rfl); (case m => k_mem); (case d => k_asm); k_whole) | refine LCgL.ld_built (by k_asm) (by k_asm) (by k_asm) (by k_is) (by boot_by_name) (by decide) ?_ | refine LCgL.ld_global (by k_asm) (by k_asm) (by k_asm) (by k_is) ?_))
  k_with "my call ref" => (k_here; k_dflt (refine' CS0.use ?C ?B ?F ?X ?XB ?TB ?N ?T ?K ?D ?U ?_; (case B => k_asm); (case F => k_asm); (case X => assumption); (case XB => assumption); (case TB => assumption); (case N => k_asm); (case T => assumption); (case K => first | exact rfl | assumption); (case C => exact hH c9 hi9 _ _ (getD_at (by omega)) rfl _ _ _); (case D => first | k_extra "rm" | omega); (case U => first | k_extra "rm" | omega)); intro r9 n9 h9 tk9 F9 N9 p9; obtain ⟨⟨t8, z8, rfl, hz8⟩, rfl⟩ := p9; skip; (try dsimp only); (try k_fold))
  k_with "my CompEnd" => first
    | (refine LCg.CompEnd.intro (by k_asm) (by k_asm) [(sp, listOf us.toArray cap), (L + 4, oS)] ?s9 ?o9 trivial (by exact And.intro rfl (hYn t8 _ hz8)); (case s9 => exact fun p h => h); (case o9 => exact off9))
    | (refine LCg.CompEnd.intro (by k_asm) (by k_asm) _ ?s9 ?o9 ?S9 ⟨rfl, _, rfl⟩; (case s9 => exact fun p h => h); (case o9 => exact off9); (case S9 => (unfold LCg.SrcAt; exact Or.inr ⟨_, List.mem_cons_self, rfl, _, rfl⟩)))
  k_with "my compareOp NotEq ref ref" => (k_here; k_dflt (refine' ne_strs ?N ?a ?b hYH (StrsAre.append' hYA hYB) ?ok ?u ?_; (case N => k_asm); (case a => k_mem); (case b => k_mem); (case u => (show un + 64 < cLine; omega)); (case ok => exact hd_ok hOk)))
  k_with "my binaryOp Add ref ref" => 
      have lA := hYA.length
      have lB := hYB.length
      k_here
      k_dflt (refine' cat_lists ?F9 ?N9 ?l9 ?b9 ?z9 ?_; (case F9 => k_asm); (case N9 => k_asm); (case l9 => k_mem); (case b9 => k_mem); (case z9 => (simp only [List.length_map, List.length_take, List.length_drop] at lA lB; omega)))
      intro d9 h9 F9 N9 hlt9
      clear lA lB
      (try dsimp only)
      (try k_fold)
  repeat' (first | (k_unfold; (try dsimp only)) | (k_end; wrow_close) | ((with_reducible show wpAny _ _ (execs (_ :: _) _) _ _ _); dsimp only; walk1) | walk1 | (dsimp only; walk1) | (leave1; walk_say "STEP leave1"; try dsimp only) | fail "no step")
  all_goals (refine SegEnd.intro fun ht9 => ?_; (try dsimp only at ht9); k_dflt (refine' LX.use (hZ) ?ho ?hr ?T1 ?B ?F ?ps ?X ?N ?T ?D ?U ?_; (skip); (case B => assumption); (case F => k_asm); (case X => assumption); (case ho => k_is); (case N => first | k_asm | (refine kst_newsOf (by k_asm) ?_; repeat (first | exact List.forall_mem_nil _ | (refine List.forall_mem_cons.mpr ⟨by first | exact List.mem_cons_self | (exact List.mem_cons_of_mem _ List.mem_cons_self) | (exact List.mem_cons_of_mem _ (List.mem_cons_of_mem _ List.mem_cons_self)) | k_mem, ?_⟩)))); (case T => assumption); (case hr => rfl); (case ps => kst_all); (case T1 => first | assumption | omega | (dsimp only; omega) | (with_unfolding_all assumption)); (case D => first | k_extra "rm" | omega); (case U => first | k_extra "rm" | omega); (skip)); all_goals exact fun m' news' h' tk' F9 N9 => hret m' news' h' tk' F9 N9)
end
-- part L17
section
theorem top_off_L17 : True := by
  w_top off
  exact True.intro
theorem strs3 {ys : List Value} {f : Str → Str} {a b c : Str} (h : StrsAre ys (List.map f [a, b, c])) : ∃ t u v, ys = [.str (f a) t, .str (f b) u, .str (f c) v] := by
  simp only [List.map_cons, List.map_nil] at h
  obtain ⟨t, r1, e1, h1⟩ := StrsAre.cons_inv h
  obtain ⟨u, r2, e2, h2⟩ := StrsAre.cons_inv h1
  obtain ⟨v, r3, e3, h3⟩ := StrsAre.cons_inv h2
  have e4 := StrsAre.nil_inv h3
  exact ⟨t, u, v, by rw [e1, e2, e3, e4]⟩
theorem code_len (x : Str) (h : x ∈ [Str.ofString "228", Str.ofString "129", Str.ofString "239"]) : x.length = 3 := by
  simp only [List.mem_cons, List.not_mem_nil, or_false] at h
  rcases h with rfl | rfl | rfl <;> decide +kernel
theorem mul_fin : ∀ i : Fin 5, (Txt.mul (nmV (i.val : Int)) 3).length = 3 := by decide +kernel
theorem lx18 (w : World) (L : Addr) (i k j : Int) (h0 : 0 ≤ i) (h1 : i < 5) (k0 : 0 ≤ k) (k1 : k < 6) (j0 : 0 ≤ j) (j1 : j < 4) (tn tq : Tok) (oC oS : Obj) (vc vs : Option Value) (hC : oC.data = .cell vc) (hS : oS.data = .cell vs) :
    LX w 18 L [(Str.ofString "name", .str (nmV i) tn), (Str.ofString "quoted", .str (quotV k j) tq)] [(L + 3, oC), (L + 4, oS)] := by
  have hZ := fun oS sp cap us hS hI hlt => lx23 w L i k j h0 h1 k0 k1 j0 j1 tn tq oS sp cap us hS hI hlt
  have hq := (quot_is k0 k1 j0 j1).2.1
  have hn : (nmV i).length = 1 := rfl
  have hm3 := fin5 (P := fun i => (Txt.mul (nmV i) 3).length = 3) mul_fin h0 h1
  unfold spV at hZ
  dsimp only at hZ
  generalize quotV k j = qv at hZ hq ⊢
  generalize nmV i = nm at hZ hn hm3 ⊢
  unfold LX
  k_fill
  refine' fnAt_of ?k6 ?_
  case k6 => k_is
  intro mean mg mb dp un gd a ccd A₀ base s m₀ Q htok B' F9 X' N' T' hd hu hret
  have hk : ScopeKind.function = ScopeKind.function := rfl
  have XB := X'
  have TB := T'
  dsimp only [List.drop]
  dsimp only [kstB] at F9
  refine seg_toks (l1 := [_, _, _, _, _]) htok ?_
  (try k_fold)
  k_with_none
  k_with "k_mem" => first | exact (by with_reducible assumption) | exact (List.mem_cons_of_mem _ (by with_reducible assumption)) | exact (List.mem_cons_of_mem _ (List.mem_cons_of_mem _ (by with_reducible assumption))) | exact (List.mem_cons_of_mem _ (List.mem_cons_of_mem _ (List.mem_cons_of_mem _ (by with_reducible assumption)))) | exact (List.mem_cons_of_mem _ (List.mem_cons_of_mem _ (List.mem_cons_of_mem _ (List.mem_cons_of_mem _ (by with_reducible assumption)))))
  k_with "pj" => first | with_reducible assumption | exact pj0 (by with_reducible assumption) | exact pj1 (by with_reducible assumption) | exact pj2 (by with_reducible assumption) | exact pj3 (by with_reducible assumption) | exact pj4 (by with_reducible assumption) | exact pj5 (by with_reducible assumption) | exact pj6 (by with_reducible assumption) | exact pj7 (by with_reducible assumption) | exact pj8 (by with_reducible assumption) | exact pj9 (by with_reducible assumption) | exact pj10 (by with_reducible assumption) | exact pj11 (by with_reducible assumption) | exact pj12 (by with_reducible assumption) | exact pj13 (by with_reducible assumption) | exact pj14 (by with_reducible assumption) | exact pj15 (by with_reducible assumption) | exact pj16 (by with_reducible assumption) | exact pj17 (by with_reducible assumption) | exact pj18 (by with_reducible assumption) | exact pj19 (by with_reducible assumption) | exact pj20 (by with_reducible assumption) | exact pj21 (by with_reducible assumption) | exact pj22 (by with_reducible assumption) | exact pj23 (by with_reducible assumption) | exact pj24 (by with_reducible assumption)
  k_with "pj2" => first | exact ltR (by k_extra "lt") | exact ltL (k := 4) (by k_extra "lt") (Nat.le_of_ble_eq_true rfl) | exact ltLR (k := 4) (by k_extra "lt") (Nat.le_of_ble_eq_true rfl) | exact ltR (by k_extra "pj") | exact ltL (k := 4) (by k_extra "pj") (Nat.le_of_ble_eq_true rfl) | exact ltLR (k := 4) (by k_extra "pj") (Nat.le_of_ble_eq_true rfl)
  k_with "lt" => first | with_reducible assumption | exact ltOf (by with_reducible assumption) (by k_mem)
  k_with "k_ne" => (refine neN ?_; (try dsimp only); first | exact neK rfl | exact neK0 rfl | exact neK1 rfl | exact Nat.ne_of_lt (by k_extra "lt") | exact Nat.ne_of_gt (by k_extra "lt") | exact Nat.ne_of_lt (by k_extra "pj") | exact Nat.ne_of_gt (by k_extra "pj") | exact Nat.ne_of_lt (by k_extra "pj2") | exact Nat.ne_of_gt (by k_extra "pj2") | k_extra "pj" | k_extra "pq" | exact Ne.symm (by k_extra "pj") | omega)
  k_with "mb" => first | with_reducible exact incM | with_reducible assumption | (with_reducible refine incMT ?_; k_extra "mb") | (with_reducible refine incML ?_; k_extra "mb") | (with_reducible refine incMR ?_; k_extra "mb")
  k_with "sbl" => first | with_reducible exact incI | (with_reducible refine incT ?_; k_extra "sbl") | (with_reducible refine incL ?_; k_extra "sbl") | (with_reducible refine incR ?_; k_extra "sbl")
  k_with "sb" => first | with_reducible exact incI | with_reducible exact incN | (with_reducible refine' incC ?m9 ?r9; (case m9 => k_extra "mb"); (case r9 => k_extra "sb")) | (k_extra "sbl") | (with_reducible refine incA ?_ ?_ <;> k_extra "sb")
  k_with "mg" => first | with_reducible exact List.mem_cons_self | (with_reducible refine List.mem_cons_of_mem _ ?_; k_extra "mg")
  k_with "ne1" => first | exact h1 | exact neP h2 (by k_extra "mg") | exact neC h3 (by k_extra "mg") | fail "ne1"
  k_with "nc" => with_reducible first | exact h3 | exact ncN | (refine' ncC ?b9 ?q9; (case b9 => k_extra "ne1"); (case q9 => k_extra "nc")) | fail "nc"
  k_with "sm" => with_reducible first | rfl | (refine' sm1 ?a9 ?r9; (case a9 => k_extra "ne1"); (case r9 => k_extra "sm")) | (refine' sm2 ?h9 ?r9; (case h9 => k_extra "nc"); (case r9 => k_extra "sm")) | (refine sm3 h2 ?_; k_extra "sm") | fail "sm"
  k_with "rm" => first | exact ltA0 (by with_reducible assumption) | exact ltA1 (by with_reducible assumption) (Nat.le_of_ble_eq_true rfl) | exact ltA2 (by with_reducible assumption) (Nat.le_of_ble_eq_true rfl) | exact ltA3 (by with_reducible assumption) (Nat.le_of_ble_eq_true rfl)
  k_with "sz" => first | with_reducible assumption | with_reducible exact Nat.le_of_ble_eq_true (Eq.refl true)
  k_with "my callWith" => first | (k_here; (with_reducible show wpAny _ _ (callWith _ _ _ (backTo _ (starEach [PySem.Expr.ListComp _ _ _ _] _)) []) _ _ _); dsimp only; with_reducible (refine callWith_method1 ?_ star_Comp plain_nil)) | (k_here; (with_reducible show wpAny _ _ (callWith _ _ _ (backTo _ (starEach [PySem.Expr.List _ _] _)) []) _ _ _); dsimp only; with_reducible (refine callWith_method1 ?_ star_List plain_nil))
  k_with "lb" => first | exact Nat.le_of_eq (by with_reducible assumption) | with_reducible assumption | exact lbL _ (by decide +kernel) | exact lbA (by k_extra "lb") (by k_extra "lb") | exact lbC (by k_extra "lb")
  k_with "my binaryOp Add str str" => (k_here; (with_reducible show wpAny _ _ (binaryOp Operator.Add (Value.str _ _) (Value.str _ _)) _ _ _); (refine' add_str ?_ (hsz := ?zsz); (case zsz => exact lbS (by k_extra "lb") (by k_extra "lb") (by decide))); intro _ _)
  k_with "my eval ListComp" => (k_here; k_dflt (refine comp_tup (by k_asm) (by with_unfolding_all rfl) (by decide) (by rfl) (by decide) (by rfl) ?_))
  k_with "my TupSrc" => 
    k_here
    k_dflt (refine TupSrc.intro (by rfl) (by k_asm) (by k_asm) (by k_mem) (by exact Nat.le_of_ble_eq_true rfl) ?_)
    intro g'
    refine comp_strs (xs := [Str.ofString "228", Str.ofString "129", Str.ofString "239"]) (fun c => c ++ Str.ofString " ok (" ++ (Txt.mul nm 3 ++ Str.ofString "21" ++ nm) ++ Str.ofString ") 229") (.cons _ _ (.cons _ _ (.cons _ _ .nil))) ?_ ?_
    all_goals first
      | (intro c9 ys9 x9 t9 I oI C oC D m₂ h9 tk9 E9 hX9 hC9 hx9 F9 N9 off9 ne9
         have hl9 : x9.length = 3 := code_len x9 (List.mem_of_getElem? hX9)
         (try dsimp only)
         (try k_fold))
      | (intro ysA hYA
         obtain ⟨tA, tB, tC, rfl⟩ := strs3 hYA
         (try dsimp only)
         (try k_fold))
  k_with "my eval Name" => (k_here; (with_reducible show wpAny _ _ (eval (Expr.Name _ _) (compEnvC _ _ _ _)) _ _ _); k_dflt (first | refine LCgL.ld_own (by k_asm) (by k_mem) (by assumption) (by with_reducible assumption) ?_ | (refine' lcf_cell ?N ?c ?m ?d ?_ ?a ?b; (case a => rfl); (case b => rfl); (case N => k_asm); (case c => rfl); (case m => k_mem); (case d => k_asm); k_whole) | refine LCgL.ld_built (by k_asm) (by k_asm) (by k_asm) (by k_is) (by boot_by_name) (by decide) ?_ | refine LCgL.ld_global (by k_asm) (by k_asm) (by k_asm) (by k_is) ?_))
  k_with "my CompEnd" => (refine LCg.CompEnd.intro (by k_asm) (by k_asm) _ ?s9 ?o9 ?S9 ⟨rfl, _, rfl⟩; (case s9 => exact fun p h => h); (case o9 => exact off9); (case S9 => exact List.mem_cons_self))
  repeat' (first | (k_unfold; (try dsimp only)) | (k_end; wrow_close) | ((with_reducible show wpAny _ _ (execs (_ :: _) _) _ _ _); dsimp only; walk1) | walk1 | (dsimp only; walk1) | (leave1; walk_say "STEP leave1"; try dsimp only) | fail "no step")
  all_goals (refine SegEnd.intro fun ht9 => ?_; (try dsimp only at ht9); k_dflt (refine' LX.use (hZ _ _ _ _ ?hS ?hI ?hl) ?ho ?hr ?T1 ?B ?F ?ps ?X ?N ?T ?D ?U ?_; ((case hS => assumption)); (case B => assumption); (case F => k_asm); (case X => assumption); (case ho => k_is); (case N => first | k_asm | (refine kst_newsOf (by k_asm) ?_; repeat (first | exact List.forall_mem_nil _ | (refine List.forall_mem_cons.mpr ⟨by first | exact List.mem_cons_self | (exact List.mem_cons_of_mem _ List.mem_cons_self) | (exact List.mem_cons_of_mem _ (List.mem_cons_of_mem _ List.mem_cons_self)) | k_mem, ?_⟩)))); (case T => assumption); (case hr => rfl); (case ps => kst_all); (case T1 => first | assumption | omega | (dsimp only; omega) | (with_unfolding_all assumption)); (case D => first | k_extra "rm" | omega); (case U => first | k_extra "rm" | omega); ((case hl => first | k_extra "lt" | (refine ltN ?_; omega)); (case hI => (repeat (first | exact StrsAre.nil | refine StrsAre.cons _ _ ?_))))); all_goals exact fun m' news' h' tk' F9 N9 => hret m' news' h' tk' F9 N9)
end
-- part L16
section
theorem top_off_L16 : True := by
  w_top off
  exact True.intro
theorem lx17 (w : World) (L : Addr) (x0 x1 x2 x3 x4 x5 x6 : Int) (k j : Int) (k0 : 0 ≤ k) (k1 : k < 6) (j0 : 0 ≤ j) (j1 : j < 4) (tq : Tok) (q : Addr) (cap : Nat) (us : List Value) (hI : IntsAre us [x0, x1, x2, x3, x4, x5, x6]) (oC oS : Obj) (vc vs : Option Value) (hC : oC.data = .cell vc) (hS : oS.data = .cell vs) (hlt : L + 4 < q) :
    LX w 17 L [(Str.ofString "cells", .ref q), (Str.ofString "quoted", .str (quotV k j) tq)] [(q, listOf us.toArray cap), (L + 3, oC), (L + 4, oS)] := by
  have hZ := fun tn tq oC oS vc vs hC hS => lx18 w L ((x6.fdiv 1024).fmod 5) k j (fm_lo _ (by decide)) (fm_hi _ (by decide)) k0 k1 j0 j1 tn tq oC oS vc vs hC hS
  unfold nmV at hZ
  generalize quotV k j = qv at hZ ⊢
  obtain ⟨t6, h6⟩ := ints_get2 hI (i := 6) (x := x6) rfl
  replace hlt := ltN hlt
  unfold LX
  k_fill
  refine' fnAt_of ?k6 ?_
  case k6 => k_is
  intro mean mg mb dp un gd a ccd A₀ base s m₀ Q htok B' F9 X' N' T' hd hu hret
  have hk : ScopeKind.function = ScopeKind.function := rfl
  have XB := X'
  have TB := T'
  dsimp only [List.drop]
  dsimp only [kstB] at F9
  refine seg_toks (l1 := [_]) htok ?_
  (try k_fold)
  k_with_none
  k_with "k_mem" => first | exact (by with_reducible assumption) | exact (List.mem_cons_of_mem _ (by with_reducible assumption)) | exact (List.mem_cons_of_mem _ (List.mem_cons_of_mem _ (by with_reducible assumption))) | exact (List.mem_cons_of_mem _ (List.mem_cons_of_mem _ (List.mem_cons_of_mem _ (by with_reducible assumption)))) | exact (List.mem_cons_of_mem _ (List.mem_cons_of_mem _ (List.mem_cons_of_mem _ (List.mem_cons_of_mem _ (by with_reducible assumption)))))
  k_with "pj" => first | with_reducible assumption | exact pj0 (by with_reducible assumption) | exact pj1 (by with_reducible assumption) | exact pj2 (by with_reducible assumption) | exact pj3 (by with_reducible assumption) | exact pj4 (by with_reducible assumption) | exact pj5 (by with_reducible assumption) | exact pj6 (by with_reducible assumption) | exact pj7 (by with_reducible assumption) | exact pj8 (by with_reducible assumption) | exact pj9 (by with_reducible assumption) | exact pj10 (by with_reducible assumption) | exact pj11 (by with_reducible assumption) | exact pj12 (by with_reducible assumption) | exact pj13 (by with_reducible assumption) | exact pj14 (by with_reducible assumption) | exact pj15 (by with_reducible assumption) | exact pj16 (by with_reducible assumption) | exact pj17 (by with_reducible assumption) | exact pj18 (by with_reducible assumption) | exact pj19 (by with_reducible assumption) | exact pj20 (by with_reducible assumption) | exact pj21 (by with_reducible assumption) | exact pj22 (by with_reducible assumption) | exact pj23 (by with_reducible assumption) | exact pj24 (by with_reducible assumption)
  k_with "pj2" => first | exact ltR (by k_extra "lt") | exact ltL (k := 4) (by k_extra "lt") (Nat.le_of_ble_eq_true rfl) | exact ltLR (k := 4) (by k_extra "lt") (Nat.le_of_ble_eq_true rfl) | exact ltR (by k_extra "pj") | exact ltL (k := 4) (by k_extra "pj") (Nat.le_of_ble_eq_true rfl) | exact ltLR (k := 4) (by k_extra "pj") (Nat.le_of_ble_eq_true rfl)
  k_with "lt" => first | with_reducible assumption | exact ltOf (by with_reducible assumption) (by k_mem)
  k_with "k_ne" => (refine neN ?_; (try dsimp only); first | exact neK rfl | exact neK0 rfl | exact neK1 rfl | exact Nat.ne_of_lt (by k_extra "lt") | exact Nat.ne_of_gt (by k_extra "lt") | exact Nat.ne_of_lt (by k_extra "pj") | exact Nat.ne_of_gt (by k_extra "pj") | exact Nat.ne_of_lt (by k_extra "pj2") | exact Nat.ne_of_gt (by k_extra "pj2") | k_extra "pj" | k_extra "pq" | exact Ne.symm (by k_extra "pj") | omega)
  k_with "mb" => first | with_reducible exact incM | with_reducible assumption | (with_reducible refine incMT ?_; k_extra "mb") | (with_reducible refine incML ?_; k_extra "mb") | (with_reducible refine incMR ?_; k_extra "mb")
  k_with "sbl" => first | with_reducible exact incI | (with_reducible refine incT ?_; k_extra "sbl") | (with_reducible refine incL ?_; k_extra "sbl") | (with_reducible refine incR ?_; k_extra "sbl")
  k_with "sb" => first | with_reducible exact incI | with_reducible exact incN | (with_reducible refine' incC ?m9 ?r9; (case m9 => k_extra "mb"); (case r9 => k_extra "sb")) | (k_extra "sbl") | (with_reducible refine incA ?_ ?_ <;> k_extra "sb")
  k_with "mg" => first | with_reducible exact List.mem_cons_self | (with_reducible refine List.mem_cons_of_mem _ ?_; k_extra "mg")
  k_with "ne1" => first | exact h1 | exact neP h2 (by k_extra "mg") | exact neC h3 (by k_extra "mg") | fail "ne1"
  k_with "nc" => with_reducible first | exact h3 | exact ncN | (refine' ncC ?b9 ?q9; (case b9 => k_extra "ne1"); (case q9 => k_extra "nc")) | fail "nc"
  k_with "sm" => with_reducible first | rfl | (refine' sm1 ?a9 ?r9; (case a9 => k_extra "ne1"); (case r9 => k_extra "sm")) | (refine' sm2 ?h9 ?r9; (case h9 => k_extra "nc"); (case r9 => k_extra "sm")) | (refine sm3 h2 ?_; k_extra "sm") | fail "sm"
  k_with "rm" => first | exact ltA0 (by with_reducible assumption) | exact ltA1 (by with_reducible assumption) (Nat.le_of_ble_eq_true rfl) | exact ltA2 (by with_reducible assumption) (Nat.le_of_ble_eq_true rfl) | exact ltA3 (by with_reducible assumption) (Nat.le_of_ble_eq_true rfl)
  k_with "sz" => first | with_reducible assumption | with_reducible exact Nat.le_of_ble_eq_true (Eq.refl true)
  k_with "my subscriptTail" => (k_here; k_dflt (refine' pick_item (by k_asm) (by exact List.mem_cons_self) (by decide) (by decide) h6 ?_))
  repeat' (first | (k_unfold; (try dsimp only)) | (k_end; wrow_close) | ((with_reducible show wpAny _ _ (execs (_ :: _) _) _ _ _); dsimp only; walk1) | walk1 | (dsimp only; walk1) | (leave1; walk_say "STEP leave1"; try dsimp only) | fail "no step")
  all_goals (refine SegEnd.intro fun ht9 => ?_; (try dsimp only at ht9); k_dflt (refine' LX.use (hZ _ _ _ _ _ _ hC hS) ?ho ?hr ?T1 ?B ?F ?ps ?X ?N ?T ?D ?U ?_; (skip); (case B => assumption); (case F => k_asm); (case X => assumption); (case ho => k_is); (case N => first | k_asm | (refine kst_newsOf (by k_asm) ?_; repeat (first | exact List.forall_mem_nil _ | (refine List.forall_mem_cons.mpr ⟨by first | exact List.mem_cons_self | (exact List.mem_cons_of_mem _ List.mem_cons_self) | (exact List.mem_cons_of_mem _ (List.mem_cons_of_mem _ List.mem_cons_self)) | k_mem, ?_⟩)))); (case T => assumption); (case hr => rfl); (case ps => kst_all); (case T1 => first | assumption | omega | (dsimp only; omega) | (with_unfolding_all assumption)); (case D => first | k_extra "rm" | omega); (case U => first | k_extra "rm" | omega); (skip)); all_goals exact fun m' news' h' tk' F9 N9 => hret m' news' h' tk' F9 N9)
theorem xor_part_fin : ∀ a : Fin 2048, Builtin.bitXor (Builtin.bitXor ((a.val : Int) - 1024) 255) ((a.val : Int) - 1024) = 255 := by decide +kernel
theorem xor_part (x : Int) : Builtin.bitXor (Builtin.bitXor (x.fmod 2048 - 1024) 255) (x.fmod 2048 - 1024) = 255 := by
  have a := fm_lo x (m := 2048) (by decide)
  have b := fm_hi x (m := 2048) (by decide)
  have := xor_part_fin ⟨(x.fmod 2048).toNat, by omega⟩
  rwa [show (((x.fmod 2048).toNat : Nat) : Int) = x.fmod 2048 by omega] at this
theorem cat_ints {prog : Program} {w : World} {A : Around} {E : Value → Shared → Prop} {s : Shared} {h₀ : Heap} {L l b : Addr} {m : Str → Option Value} {news : List (Addr × Obj)} {us ws : List Value} {n k : Nat} {xs ys : List Int} {Q : Value → Shared → Prop} (F : Fr h₀ L s.heap m) (N : News h₀ L s.heap news)
    (hl : (l, listOf us.toArray n) ∈ news) (hb : (b, listOf ws.toArray k) ∈ news) (hu : IntsAre us xs) (hw : IntsAre ws ys) (hz : xs.length + ys.length ≤ 10000)
    (h : ∀ d vs h', Fr h₀ L h' m → News h₀ L h' ((d, listOf vs.toArray 0) :: news) → IntsAre vs (xs ++ ys) → (∀ p ∈ news, p.1 < d) → Q (.ref d) { s with heap := h' }) : wpAny (model prog w) A (binaryOp .Add (.ref l) (.ref b)) Q E s :=
  cat_lists F N hl hb (by rw [hu.length, hw.length]; exact hz) fun d h' F' N' hlt => h d _ h' F' N' (IntsAre.append hu hw) hlt
theorem news_rm2 {h₀ h : Heap} {L : Addr} {x y : Addr × Obj} {R : List (Addr × Obj)} (N : News h₀ L h (x :: y :: R)) : News h₀ L h (x :: R) := kst_newsOf N (List.forall_mem_cons.mpr ⟨List.mem_cons_self, fun _ hp => List.mem_cons_of_mem _ (List.mem_cons_of_mem _ hp)⟩)
theorem lx16 (w : World) (L : Addr) (x0 x1 x2 x3 x4 x5 x6 : Int) (k j : Int) (k0 : 0 ≤ k) (k1 : k < 6) (j0 : 0 ≤ j) (j1 : j < 4) (tq : Tok) (q : Addr) (cap : Nat) (us : List Value) (hI : IntsAre us [x0, x1, x2, x3, x4, x5, x6]) (oC oS : Obj) (vc vs : Option Value) (hC : oC.data = .cell vc) (hS : oS.data = .cell vs) (hlt : L + 4 < q) :
    LX w 16 L [(Str.ofString "cells", .ref q), (Str.ofString "quoted", .str (quotV k j) tq)] [(q, listOf us.toArray cap), (L + 3, oC), (L + 4, oS)] := by
  have hZ := lx17 w L x0 x1 x2 x3 x4 x5 x6 k j k0 k1 j0 j1 tq q cap us hI oC oS vc vs hC hS hlt
  generalize quotV k j = qv at hZ ⊢
  generalize hxs : [x0, x1, x2, x3, x4, x5, x6] = xs at hI
  have hl7 : xs.length = 7 := by rw [← hxs]; rfl
  clear hxs
  replace hlt := ltN hlt
  unfold LX
  k_fill
  refine' fnAt_of ?k6 ?_
  case k6 => k_is
  intro mean mg mb dp un gd a ccd A₀ base s m₀ Q htok B' F9 X' N' T' hd hu hret
  have hk : ScopeKind.function = ScopeKind.function := rfl
  have XB := X'
  have TB := T'
  dsimp only [List.drop]
  dsimp only [kstB] at F9
  refine seg_toks (l1 := [_]) htok ?_
  (try k_fold)
  k_with_none
  k_with "k_mem" => first | exact (by with_reducible assumption) | exact (List.mem_cons_of_mem _ (by with_reducible assumption)) | exact (List.mem_cons_of_mem _ (List.mem_cons_of_mem _ (by with_reducible assumption))) | exact (List.mem_cons_of_mem _ (List.mem_cons_of_mem _ (List.mem_cons_of_mem _ (by with_reducible assumption)))) | exact (List.mem_cons_of_mem _ (List.mem_cons_of_mem _ (List.mem_cons_of_mem _ (List.mem_cons_of_mem _ (by with_reducible assumption)))))
  k_with "pj" => first | with_reducible assumption | exact pj0 (by with_reducible assumption) | exact pj1 (by with_reducible assumption) | exact pj2 (by with_reducible assumption) | exact pj3 (by with_reducible assumption) | exact pj4 (by with_reducible assumption) | exact pj5 (by with_reducible assumption) | exact pj6 (by with_reducible assumption) | exact pj7 (by with_reducible assumption) | exact pj8 (by with_reducible assumption) | exact pj9 (by with_reducible assumption) | exact pj10 (by with_reducible assumption) | exact pj11 (by with_reducible assumption) | exact pj12 (by with_reducible assumption) | exact pj13 (by with_reducible assumption) | exact pj14 (by with_reducible assumption) | exact pj15 (by with_reducible assumption) | exact pj16 (by with_reducible assumption) | exact pj17 (by with_reducible assumption) | exact pj18 (by with_reducible assumption) | exact pj19 (by with_reducible assumption) | exact pj20 (by with_reducible assumption) | exact pj21 (by with_reducible assumption) | exact pj22 (by with_reducible assumption) | exact pj23 (by with_reducible assumption) | exact pj24 (by with_reducible assumption)
  k_with "pj2" => first | exact ltR (by k_extra "lt") | exact ltL (k := 4) (by k_extra "lt") (Nat.le_of_ble_eq_true rfl) | exact ltLR (k := 4) (by k_extra "lt") (Nat.le_of_ble_eq_true rfl) | exact ltR (by k_extra "pj") | exact ltL (k := 4) (by k_extra "pj") (Nat.le_of_ble_eq_true rfl) | exact ltLR (k := 4) (by k_extra "pj") (Nat.le_of_ble_eq_true rfl)
  k_with "lt" => first | with_reducible assumption | exact ltOf (by with_reducible assumption) (by k_mem)
  k_with "k_ne" => (refine neN ?_; (try dsimp only); first | exact neK rfl | exact neK0 rfl | exact neK1 rfl | exact Nat.ne_of_lt (by k_extra "lt") | exact Nat.ne_of_gt (by k_extra "lt") | exact Nat.ne_of_lt (by k_extra "pj") | exact Nat.ne_of_gt (by k_extra "pj") | exact Nat.ne_of_lt (by k_extra "pj2") | exact Nat.ne_of_gt (by k_extra "pj2") | k_extra "pj" | k_extra "pq" | exact Ne.symm (by k_extra "pj") | omega)
  k_with "mb" => first | with_reducible exact incM | with_reducible assumption | (with_reducible refine incMT ?_; k_extra "mb") | (with_reducible refine incML ?_; k_extra "mb") | (with_reducible refine incMR ?_; k_extra "mb")
  k_with "sbl" => first | with_reducible exact incI | (with_reducible refine incT ?_; k_extra "sbl") | (with_reducible refine incL ?_; k_extra "sbl") | (with_reducible refine incR ?_; k_extra "sbl")
  k_with "sb" => first | with_reducible exact incI | with_reducible exact incN | (with_reducible refine' incC ?m9 ?r9; (case m9 => k_extra "mb"); (case r9 => k_extra "sb")) | (k_extra "sbl") | (with_reducible refine incA ?_ ?_ <;> k_extra "sb")
  k_with "mg" => first | with_reducible exact List.mem_cons_self | (with_reducible refine List.mem_cons_of_mem _ ?_; k_extra "mg")
  k_with "ne1" => first | exact h1 | exact neP h2 (by k_extra "mg") | exact neC h3 (by k_extra "mg") | fail "ne1"
  k_with "nc" => with_reducible first | exact h3 | exact ncN | (refine' ncC ?b9 ?q9; (case b9 => k_extra "ne1"); (case q9 => k_extra "nc")) | fail "nc"
  k_with "sm" => with_reducible first | rfl | (refine' sm1 ?a9 ?r9; (case a9 => k_extra "ne1"); (case r9 => k_extra "sm")) | (refine' sm2 ?h9 ?r9; (case h9 => k_extra "nc"); (case r9 => k_extra "sm")) | (refine sm3 h2 ?_; k_extra "sm") | fail "sm"
  k_with "rm" => first | exact ltA0 (by with_reducible assumption) | exact ltA1 (by with_reducible assumption) (Nat.le_of_ble_eq_true rfl) | exact ltA2 (by with_reducible assumption) (Nat.le_of_ble_eq_true rfl) | exact ltA3 (by with_reducible assumption) (Nat.le_of_ble_eq_true rfl)
  k_with "sz" => first | with_reducible assumption | with_reducible exact Nat.le_of_ble_eq_true (Eq.refl true)
  k_with "my binaryOp Add ref ref" => (k_here; k_dflt (refine' cat_ints ?F9 ?N9 ?l9 ?b9 hI (.cons _ _ (.cons _ _ (.cons _ _ .nil))) ?z9 ?_; (case F9 => k_asm); (case N9 => k_asm); (case l9 => exact List.mem_cons_of_mem _ List.mem_cons_self); (case b9 => exact List.mem_cons_self); (case z9 => (rw [hl7]; decide))); intro d9 vs9 h9 F9 N9 hV9 hlt9; replace N9 := news_rm2 N9; (try dsimp only); (try k_unfold); (try dsimp only))
  k_with "my exec For Name BinOp cons nil" => (k_here; (rename Fr _ _ _ _ => lF'); (with_unfolding_all refine' For_invVF lF' ?k1 ?k2 ?_; (case k1 => exact rfl); (case k2 => exact rfl); k_whole))
  k_with "my pyIter ref" => 
    k_here
    rename Fr _ _ _ _ => F8
    rename News _ _ _ _ => N8
    with_unfolding_all refine' lp_listL (σ := Unit) (x := Str.ofString "number") (fun _ => [(d9, listOf vs9.toArray 0), (q, listOf us.toArray cap), (L + 3, oC), (L + 4, oS)]) (fun _ => []) [Str.ofString "part"] (fun _ _ => True) () (by rfl) (by rfl) ?hl F8 ?kN ?kk ?kp ?_ ?_
    case hl => (intro c; exact List.mem_cons_self)
    case kN => first | exact N8 | with_unfolding_all exact N8 | (refine kst_newsOf N8 ?_; with_reducible refine Inc.use ?_; k_extra "sb") | (refine kst_newsOf N8 ?_; intro p hp; simp only [List.mem_append, List.mem_cons, List.not_mem_nil, or_false] at hp ⊢; simp only [hp, true_or, or_true])
    case kk => kst_all
    case kp => exact trivial
    clear F8 N8
    rotate_left
    clear F8 N8
    rotate_right
    all_goals first
      | (intro c i v7 u7 h7 tk7 own7 hi7 hv7 hoff7 hP F7 N7; skip; (try dsimp only [kstB] at F7); (try dsimp only at N7); (try dsimp only at hP); (first | (obtain ⟨x9, t9, rfl, _⟩ := ints_get hV9 hv7) | skip); (try dsimp only); (try k_fold))
      | (intro c u7 h7 tk7 hP F7 N7; skip; (try dsimp only [kstB] at F7); (try dsimp only at N7); (try dsimp only at hP); (first | (obtain ⟨x9, t9, rfl, _⟩ := ints_get hV9 hv7) | skip); (try dsimp only); (try k_fold))
  k_with "my call ref" => first
    | first | (k_here; k_dflt (refine' CS.use (term_cs w _ _ _) ?B ?F ?X ?N ?T ?K ?D ?U ?_; (case B => k_asm); (case F => k_asm); (case X => k_asm); (case N => k_asm); (case T => k_asm); (case K => first | exact rfl | assumption); (case D => first | k_extra "rm" | omega | (show dp + _ + _ < recursionLimit; omega) | (show dp + _ < recursionLimit; omega) | (show _ + _ < recursionLimit; decide)); (case U => first | k_extra "rm" | omega | (show un + _ + 8 * _ < cLine; omega) | (show un + 8 * _ < cLine; omega) | ktr_units); k_whole; intro r9 n9 h9 tk9 F9 N9 p9; obtain ⟨rfl, rfl⟩ := p9; skip; (try dsimp only); (try k_fold)))
    | first | (k_here; k_dflt (refine' CS.use (nterm_cs w _ _ _) ?B ?F ?X ?N ?T ?K ?D ?U ?_; (case B => k_asm); (case F => k_asm); (case X => k_asm); (case N => k_asm); (case T => k_asm); (case K => first | exact rfl | assumption); (case D => first | k_extra "rm" | omega | (show dp + _ + _ < recursionLimit; omega) | (show dp + _ < recursionLimit; omega) | (show _ + _ < recursionLimit; decide)); (case U => first | k_extra "rm" | omega | (show un + _ + 8 * _ < cLine; omega) | (show un + 8 * _ < cLine; omega) | ktr_units); k_whole; intro r9 n9 h9 tk9 F9 N9 p9; obtain ⟨rfl, rfl⟩ := p9; skip; (try dsimp only); (try k_fold)))
    | first | (k_here; k_dflt (refine' CS.use (eof_cs w _ _ _) ?B ?F ?X ?N ?T ?K ?D ?U ?_; (case B => k_asm); (case F => k_asm); (case X => k_asm); (case N => k_asm); (case T => k_asm); (case K => first | exact rfl | assumption); (case D => first | k_extra "rm" | omega | (show dp + _ + _ < recursionLimit; omega) | (show dp + _ < recursionLimit; omega) | (show _ + _ < recursionLimit; decide)); (case U => first | k_extra "rm" | omega | (show un + _ + 8 * _ < cLine; omega) | (show un + 8 * _ < cLine; omega) | ktr_units); k_whole; intro r9 n9 h9 tk9 F9 N9 p9; obtain ⟨rfl, rfl⟩ := p9; skip; (try dsimp only); (try k_fold)))
    | first | (k_here; k_dflt (refine' CS.use (xor_cs w _ _ _ _ _) ?B ?F ?X ?N ?T ?K ?D ?U ?_; (case B => k_asm); (case F => k_asm); (case X => k_asm); (case N => k_asm); (case T => k_asm); (case K => first | exact rfl | assumption); (case D => first | k_extra "rm" | omega | (show dp + _ + _ < recursionLimit; omega) | (show dp + _ < recursionLimit; omega) | (show _ + _ < recursionLimit; decide)); (case U => first | k_extra "rm" | omega | (show un + _ + 8 * _ < cLine; omega) | (show un + 8 * _ < cLine; omega) | ktr_units); k_whole; intro r9 n9 h9 tk9 F9 N9 p9; obtain ⟨⟨t9, rfl⟩, rfl⟩ := p9; skip; (try dsimp only); (try k_fold)))
    | first | (k_here; k_dflt (refine' CS.use (ixor_cs w _ _ _ _ _) ?B ?F ?X ?N ?T ?K ?D ?U ?_; (case B => k_asm); (case F => k_asm); (case X => k_asm); (case N => k_asm); (case T => k_asm); (case K => first | exact rfl | assumption); (case D => first | k_extra "rm" | omega | (show dp + _ + _ < recursionLimit; omega) | (show dp + _ < recursionLimit; omega) | (show _ + _ < recursionLimit; decide)); (case U => first | k_extra "rm" | omega | (show un + _ + 8 * _ < cLine; omega) | (show un + 8 * _ < cLine; omega) | ktr_units); k_whole; intro r9 n9 h9 tk9 F9 N9 p9; obtain ⟨⟨t9, rfl⟩, rfl⟩ := p9; skip; (try dsimp only); (try k_fold)))
  k_with "my LpEnd" => (rename News _ _ _ _ => N8; refine' lp_end () (by k_asm) N8 ?hn ?ho ?hf ?hk ?hr ?hp; (case hk => kst_all); (case hn => (try dsimp only); (first | (with_reducible refine Inc.use ?_; k_extra "sb") | (intro p hp; simp only [List.mem_append, List.mem_cons, List.not_mem_nil, or_false] at hp ⊢; first | (simp only [hp, true_or, or_true]; done) | ((repeat' (refine Or.elim hp ?_ ?_ <;> clear hp <;> intro hp)) <;> simp only [hp, true_or, or_true])))); (case ho => (first | (with_reducible refine Inc.use ?_; k_extra "sb") | (intro p hp; simp only [List.mem_append, List.mem_cons, List.not_mem_nil, or_false] at hp ⊢; first | (simp only [hp, true_or, or_true]; done) | ((repeat' (refine Or.elim hp ?_ ?_ <;> clear hp <;> intro hp)) <;> simp only [hp, true_or, or_true])))); (case hf => (try dsimp only); with_unfolding_all exact hoff7); (case hr => first | (intro z9 h1 h2 h3; k_extra "sm"; done) | kst_same); (case hp => (try dsimp only); first | done | exact trivial))
  repeat' (first | (k_unfold; (try dsimp only)) | (k_end; wrow_close) | ((with_reducible show wpAny _ _ (execs (_ :: _) _) _ _ _); dsimp only; walk1) | walk1 | (dsimp only; walk1) | (leave1; walk_say "STEP leave1"; try dsimp only) | fail "no step")
  all_goals first
    | (refine SegEnd.intro fun ht9 => ?_; (try dsimp only at ht9); k_dflt (refine' LX.use (hZ) ?ho ?hr ?T1 ?B ?F ?ps ?X ?N ?T ?D ?U ?_; (skip); (case B => assumption); (case F => k_asm); (case X => assumption); (case ho => k_is); (case N => first | k_asm | (refine kst_newsOf (by k_asm) ?_; repeat (first | exact List.forall_mem_nil _ | (refine List.forall_mem_cons.mpr ⟨by first | exact List.mem_cons_self | (exact List.mem_cons_of_mem _ List.mem_cons_self) | (exact List.mem_cons_of_mem _ (List.mem_cons_of_mem _ List.mem_cons_self)) | k_mem, ?_⟩)))); (case T => assumption); (case hr => rfl); (case ps => kst_all); (case T1 => first | assumption | omega | (dsimp only; omega) | (with_unfolding_all assumption)); (case D => first | k_extra "rm" | omega); (case U => first | k_extra "rm" | omega); (skip)); all_goals exact fun m' news' h' tk' F9 N9 => hret m' news' h' tk' F9 N9)
    | (exfalso; have hxp := xor_part x9; exact absurd hxp (by assumption))
    | (exfalso; have hxp := xor_part x9; rename (_ != _) = true => hb9; clear hZ; revert hb9; first | (rw [hxp]; decide) | (have hbe : (x9 == 0) = decide (x9 = 0) := rfl; rw [hbe, bne_self_eq_false]; decide) | (rw [bne_self_eq_false]; decide))
end
-- part Cturns
section
theorem top_off_Cturns : True := by
  w_top off
  exact True.intro
section
variable {prog : Program} {w : World} {A : Around} {E : Value → Shared → Prop} {s : Shared} {env : Env} {h₀ : Heap} {target : PySem.Expr} {body : List Stmt} {Q : Flow → Shared → Prop}
noncomputable def TnEnd (h₀ : Heap) (L : Addr) (its : List (Addr × Obj)) (J : (Str → Option Value) → Prop) (s₁ s₂ : Shared) : Prop :=
  ∃ h' tk m' all, s₂ = { s₁ with heap := h', toks := tk } ∧ Fr h₀ L h' m' ∧ News h₀ L h' all ∧ (∀ p ∈ its, p ∈ all) ∧ J m'
theorem TnEnd.intro {L : Addr} {its all : List (Addr × Obj)} {J : (Str → Option Value) → Prop} {s₁ : Shared} {h' : Heap} {tk : Nat} {m' : Str → Option Value} (F : Fr h₀ L h' m') (N : News h₀ L h' all) (hs : ∀ p ∈ its, p ∈ all) (hJ : J m') : TnEnd h₀ L its J s₁ { s₁ with heap := h', toks := tk } := ⟨h', tk, m', all, rfl, F, N, hs, hJ⟩
noncomputable def TnPost (h₀ : Heap) (L : Addr) (its : List (Addr × Obj)) (J : (Str → Option Value) → Prop) (s₁ : Shared) (Q : Flow → Shared → Prop) (f : Flow) (s₂ : Shared) : Prop :=
  match f with
  | .ret v => Q (.ret v) s₂
  | .brk => Q .next s₂
  | _ => TnEnd h₀ L its J s₁ s₂
theorem subL_of {l : List (Addr × Obj)} : ∀ {k : List (Addr × Obj)}, (∀ p ∈ k, p ∈ l) → SubL k l
  | [], _ => trivial
  | _ :: _, h => ⟨h _ List.mem_cons_self, subL_of fun p hp => h p (List.mem_cons_of_mem _ hp)⟩
theorem turns_list {σ : Type} {ax L : Addr} {vs : List Value} {n : Nat} {m₀ : Str → Option Value} {news0 : List (Addr × Obj)} (ps : σ → List (Str × Value)) (stored : List Str) (P : Nat → σ → Prop) (c₀ : σ) (hL : env.locals = L) (hh : A.handled = none)
    (F : Fr h₀ L s.heap m₀) (N : News h₀ L s.heap news0) (hm : (ax, listOf vs.toArray n) ∈ news0) (hk : ∀ p ∈ ps c₀, m₀ p.1 = some p.2) (hp : P 0 c₀)
    (turn : ∀ (c : σ) (i : Nat) (v : Value) (u : Str → Option Value) (h : Heap) (tk : Nat) (I : Addr) (it : Obj), it.cls = .type "list_iterator" → (∀ p ∈ news0, p.1 < I) → i < vs.length → vs[i]? = some v → P i c → Fr h₀ L h (kstB (fun z => if stored.contains z then u z else m₀ z) (ps c)) → News h₀ L h ((I, it) :: news0) →
      wpAny (model prog w) A (assign target env v) (fun _ s₂ => wpAny (model prog w) A (execs body env) (TnPost h₀ L ((I, it) :: news0) (fun m' => ∃ c', (∀ p ∈ ps c', m' p.1 = some p.2) ∧ (∀ z, (∀ p ∈ ps c', z ≠ p.1) → stored.contains z = false → m' z = m₀ z) ∧ P (i + 1) c') { s with heap := h, toks := tk } Q) E s₂) E { s with heap := h, toks := tk })
    (done : ∀ (c : σ) (u : Str → Option Value) h tk, P vs.length c → Fr h₀ L h (kstB (fun z => if stored.contains z then u z else m₀ z) (ps c)) → News h₀ L h news0 → Q .next { s with heap := h, toks := tk }) :
    wpAny (model prog w) A (pyIter (.ref ax)) (fun it s₂ => TurnsAt prog w A h₀ env target body Q E it s₂) E s := by
  subst hL
  refine iter_listTurns hh F N hm rfl rfl fun I hI => ?_
  have key : ∀ (r : List Value) (i : Nat) (c : σ) (u : Str → Option Value), vs.drop i = r → i + r.length = vs.length → P i c →
      ItemsRest prog w A E h₀ env target body Q s [(I, "list_iterator")] [(ax, listOf vs.toArray n)] (r.map .val) (kstB (fun z => if stored.contains z then u z else m₀ z) (ps c)) news0 := by
    intro r
    induction r with
    | nil =>
      intro i c u _ he hP
      obtain rfl : i = vs.length := by simpa using he
      exact ItemsRest.zero fun h tk F' N' => done c u h tk hP F' N'
    | cons v r ih =>
      intro i c u hd he hP
      have hi : i < vs.length := by rw [← he, List.length_cons]; omega
      rw [List.drop_eq_getElem_cons hi] at hd
      injection hd with hv hd
      refine ItemsRest.val fun h tk F' => ?_
      intro it hit N'
      have hrest := fun c' u' hP' => ih (i + 1) c' u' hd (by rw [← he, List.length_cons]; omega) hP'
      refine wpAny_mono (turn c i v u h tk I it hit hI hi (by rw [List.getElem?_eq_getElem hi, hv]) hP F' N') (fun _ s₂ h2 => wpAny_mono h2 (fun f s₃ p => ?_) fun _ _ e => e) fun _ _ e => e
      have fin : TnEnd h₀ env.locals ((I, it) :: news0) (fun m' => ∃ c', (∀ p ∈ ps c', m' p.1 = some p.2) ∧ (∀ z, (∀ p ∈ ps c', z ≠ p.1) → stored.contains z = false → m' z = m₀ z) ∧ P (i + 1) c') { s with heap := h, toks := tk } s₃ →
          UnrEndW h₀ env.locals { s with heap := h, toks := tk } [(I, it)] (fun m' n' => SubL [(ax, listOf vs.toArray n)] n' ∧ ItemsRest prog w A E h₀ env target body Q s [(I, "list_iterator")] [(ax, listOf vs.toArray n)] (r.map .val) m' n') s₃ := by
        rintro ⟨h', tk', m', all, e, F2, N2, hs, c', h1, h3, hP'⟩
        refine ⟨h', tk', m', news0, e, F2, fun p hp => N2 p (hs p (by simpa using hp)), fun p hp q hq => ?_, subL_of (fun p hp => by rw [List.mem_singleton.mp hp]; exact hm), ?_⟩
        · rw [List.mem_singleton.mp hq]; exact Nat.ne_of_lt (hI p hp)
        · have em : m' = kstB (fun z => if stored.contains z then m' z else m₀ z) (ps c') := by
            funext z
            refine (kstB_eq h1 fun hz => ?_).symm
            by_cases hst : stored.contains z = true
            · rw [if_pos hst]
            · rw [if_neg hst]; exact (h3 z hz (by simpa using hst)).symm
          rw [em]
          exact hrest c' m' hP'
      cases f with
      | ret v => exact p
      | brk => exact p
      | next => exact fin p
      | cont => exact fin p
  have e0 : kstB (fun z => if stored.contains z then m₀ z else m₀ z) (ps c₀) = m₀ := by
    funext z
    exact kstB_eq hk fun _ => by split <;> rfl
  have := key vs 0 c₀ m₀ rfl (by omega) hp
  rwa [e0] at this
end
end
-- part L12
section
theorem top_off_L12 : True := by
  w_top off
  exact True.intro
noncomputable def coinF (B : List (List Int)) (P : List Int) : List (Int × Int) → Int → Option Int
  | [], a => some a
  | c :: cs, a => if 0 ≤ c.1 ∧ c.1 < 4 ∧ 0 ≤ c.2 ∧ c.2 < 4 then (P[c.1.toNat]?).bind fun r => (P[c.2.toNat]?).bind fun l => (cellO B r l).bind fun v => coinF B P cs (Builtin.bitXor a v) else none
theorem pairs_get {T : List (Addr × Obj)} : ∀ {vs : List Value} {cs : List (Int × Int)}, PairsAre T vs cs → ∀ {i : Nat} {v : Value}, vs[i]? = some v → ∃ c, cs[i]? = some c ∧ PairAt T v c
  | [], [], _, i, v, h => by simp at h
  | _ :: _, c :: _, ⟨h1, _⟩, 0, v, h => by simp at h; subst h; exact ⟨c, rfl, h1⟩
  | _ :: _, _ :: _, ⟨_, h2⟩, i + 1, v, h => pairs_get h2 (i := i) (by simpa using h)
  | [], _ :: _, h, _, _, _ => h.elim
  | _ :: _, [], h, _, _, _ => h.elim
theorem pairs_len {T : List (Addr × Obj)} : ∀ {vs : List Value} {cs : List (Int × Int)}, PairsAre T vs cs → vs.length = cs.length
  | [], [], _ => rfl
  | _ :: _, _ :: _, ⟨_, h⟩ => by simp [pairs_len h]
  | [], _ :: _, h => h.elim
  | _ :: _, [], h => h.elim
structure CoT (B : List (List Int)) (P : List Int) (cs : List (Int × Int)) (f : Int) (T : List (Addr × Obj)) (i : Nat) (a : Int) (v : Value) (qc : Addr) (n : Nat) (ta tb : Tok) (c1 c2 r l x : Int) : Prop where
  ev : v = .ref qc
  mem : (qc, tupOf [.int c1 ta, .int c2 tb] n) ∈ T
  a0 : 0 ≤ c1
  a1 : c1 < 2 ^ 63
  b0 : 0 ≤ c2
  b1 : c2 < 2 ^ 63
  p1 : P[c1.toNat]? = some r
  p2 : P[c2.toNat]? = some l
  cell : cellO B r l = some x
  next : coinF B P (cs.drop (i + 1)) (Builtin.bitXor a x) = some f
theorem coin_turn {B : List (List Int)} {P : List Int} {cs : List (Int × Int)} {f : Int} {T : List (Addr × Obj)} {vs : List Value} {i : Nat} {a : Int} {v : Value} (hP : PairsAre T vs cs) (hv : vs[i]? = some v) (h : coinF B P (cs.drop i) a = some f) :
    ∃ qc n ta tb c1 c2 r l x, CoT B P cs f T i a v qc n ta tb c1 c2 r l x := by
  obtain ⟨c, hc, q, n, ta, tb, ev, hm⟩ := pairs_get hP hv
  rw [drop_get hc] at h
  simp only [coinF] at h
  split at h
  · rename_i hb
    obtain ⟨r, h1, h⟩ := Option.bind_eq_some_iff.mp h
    obtain ⟨l, h2, h⟩ := Option.bind_eq_some_iff.mp h
    obtain ⟨x, h3, h⟩ := Option.bind_eq_some_iff.mp h
    exact ⟨q, n, ta, tb, c.1, c.2, r, l, x, ev, hm, hb.1, by omega, hb.2.2.1, by omega, h1, h2, h3, h⟩
  · cases h
theorem coin_end {B : List (List Int)} {P : List Int} {cs : List (Int × Int)} {f a : Int} {n : Nat} (hn : n = cs.length) (h : coinF B P (cs.drop n) a = some f) : a = f := by
  subst hn
  rw [List.drop_length] at h
  exact Option.some.inj h
structure CoC where
  a : Int
  t1 : Tok
  t2 : Tok
theorem lx12 (w : World) (L : Addr) (x0 x1 x2 x3 x4 x5 x6 : Int) (k j : Int) (k0 : 0 ≤ k) (k1 : k < 6) (j0 : 0 ≤ j) (j1 : j < 4) (tq tf : Tok) (q : Addr) (cap : Nat) (us : List Value) (hI : IntsAre us [x0, x1, x2, x3, x4, x5, x6]) (oC oS : Obj) (vc vs : Option Value) (hC : oC.data = .cell vc) (hS : oS.data = .cell vs) (hlt : L + 4 < q)
    (pl b du cl : Addr) (pn nb nd nc : Nat) (pv vb vd vcs : List Value) (P : List Int) (B : List (List Int)) (cs : List (Int × Int)) (f : Int) (T : List (Addr × Obj)) (hP : IntsAre pv P) (mP9 : (pl, listOf pv.toArray pn) ∈ T) (mB9 : (b, listOf vb.toArray nb) ∈ T) (hB : RowsAre T vb B) (mD9 : (du, listOf vd.toArray nd) ∈ T) (hD : RowsAre T vd B) (mC9 : (cl, listOf vcs.toArray nc) ∈ T) (hCo : PairsAre T vcs cs) (hf : coinF B P cs 0 = some f) :
    LX w 12 L [(Str.ofString "cells", .ref q), (Str.ofString "quoted", .str (quotV k j) tq), (Str.ofString "places", .ref pl), (Str.ofString "board", .ref b), (Str.ofString "due", .ref du), (Str.ofString "coins", .ref cl), (Str.ofString "formula", .int f tf)] ((q, listOf us.toArray cap) :: (L + 3, oC) :: (L + 4, oS) :: T) := by
  have hZ := lx16 w L x0 x1 x2 x3 x4 x5 x6 k j k0 k1 j0 j1 tq q cap us hI oC oS vc vs hC hS hlt
  generalize quotV k j = qv at hZ ⊢
  have m4 : ∀ p ∈ T, p ∈ (q, listOf us.toArray cap) :: (L + 3, oC) :: (L + 4, oS) :: T := fun p hp => List.mem_cons_of_mem _ (List.mem_cons_of_mem _ (List.mem_cons_of_mem _ hp))
  have hnl := pairs_len hCo
  unfold LX
  k_fill
  refine' fnAt_of ?k6 ?_
  case k6 => k_is
  intro mean mg mb dp un gd a ccd A₀ base s m₀ Q htok B' F9 X' N' T' hd hu hret
  have hk : ScopeKind.function = ScopeKind.function := rfl
  have XB := X'
  have TB := T'
  dsimp only [List.drop]
  dsimp only [kstB] at F9
  refine seg_toks (l1 := [_, _, _, _]) htok ?_
  (try k_fold)
  k_with_none
  k_with "k_mem" => first | exact (by with_reducible assumption) | exact (List.mem_cons_of_mem _ (by with_reducible assumption)) | exact (List.mem_cons_of_mem _ (List.mem_cons_of_mem _ (by with_reducible assumption))) | exact (List.mem_cons_of_mem _ (List.mem_cons_of_mem _ (List.mem_cons_of_mem _ (by with_reducible assumption)))) | exact (List.mem_cons_of_mem _ (List.mem_cons_of_mem _ (List.mem_cons_of_mem _ (List.mem_cons_of_mem _ (by with_reducible assumption)))))
  k_with "pj" => first | with_reducible assumption | exact pj0 (by with_reducible assumption) | exact pj1 (by with_reducible assumption) | exact pj2 (by with_reducible assumption) | exact pj3 (by with_reducible assumption) | exact pj4 (by with_reducible assumption) | exact pj5 (by with_reducible assumption) | exact pj6 (by with_reducible assumption) | exact pj7 (by with_reducible assumption) | exact pj8 (by with_reducible assumption) | exact pj9 (by with_reducible assumption) | exact pj10 (by with_reducible assumption) | exact pj11 (by with_reducible assumption) | exact pj12 (by with_reducible assumption) | exact pj13 (by with_reducible assumption) | exact pj14 (by with_reducible assumption) | exact pj15 (by with_reducible assumption) | exact pj16 (by with_reducible assumption) | exact pj17 (by with_reducible assumption) | exact pj18 (by with_reducible assumption) | exact pj19 (by with_reducible assumption) | exact pj20 (by with_reducible assumption) | exact pj21 (by with_reducible assumption) | exact pj22 (by with_reducible assumption) | exact pj23 (by with_reducible assumption) | exact pj24 (by with_reducible assumption)
  k_with "pj2" => first | exact ltR (by k_extra "lt") | exact ltL (k := 4) (by k_extra "lt") (Nat.le_of_ble_eq_true rfl) | exact ltLR (k := 4) (by k_extra "lt") (Nat.le_of_ble_eq_true rfl) | exact ltR (by k_extra "pj") | exact ltL (k := 4) (by k_extra "pj") (Nat.le_of_ble_eq_true rfl) | exact ltLR (k := 4) (by k_extra "pj") (Nat.le_of_ble_eq_true rfl)
  k_with "lt" => first | with_reducible assumption | exact ltOf (by with_reducible assumption) (by k_mem)
  k_with "k_ne" => (refine neN ?_; (try dsimp only); first | exact neK rfl | exact neK0 rfl | exact neK1 rfl | exact Nat.ne_of_lt (by k_extra "lt") | exact Nat.ne_of_gt (by k_extra "lt") | exact Nat.ne_of_lt (by k_extra "pj") | exact Nat.ne_of_gt (by k_extra "pj") | exact Nat.ne_of_lt (by k_extra "pj2") | exact Nat.ne_of_gt (by k_extra "pj2") | k_extra "pj" | k_extra "pq" | exact Ne.symm (by k_extra "pj") | omega)
  k_with "mb" => first | with_reducible exact incM | with_reducible assumption | (with_reducible refine incMT ?_; k_extra "mb") | (with_reducible refine incML ?_; k_extra "mb") | (with_reducible refine incMR ?_; k_extra "mb")
  k_with "sbl" => first | with_reducible exact incI | (with_reducible refine incT ?_; k_extra "sbl") | (with_reducible refine incL ?_; k_extra "sbl") | (with_reducible refine incR ?_; k_extra "sbl")
  k_with "sb" => first | with_reducible exact incI | with_reducible exact incN | (with_reducible refine' incC ?m9 ?r9; (case m9 => k_extra "mb"); (case r9 => k_extra "sb")) | (k_extra "sbl") | (with_reducible refine incA ?_ ?_ <;> k_extra "sb")
  k_with "mg" => first | with_reducible exact List.mem_cons_self | (with_reducible refine List.mem_cons_of_mem _ ?_; k_extra "mg")
  k_with "ne1" => first | exact h1 | exact neP h2 (by k_extra "mg") | exact neC h3 (by k_extra "mg") | fail "ne1"
  k_with "nc" => with_reducible first | exact h3 | exact ncN | (refine' ncC ?b9 ?q9; (case b9 => k_extra "ne1"); (case q9 => k_extra "nc")) | fail "nc"
  k_with "sm" => with_reducible first | rfl | (refine' sm1 ?a9 ?r9; (case a9 => k_extra "ne1"); (case r9 => k_extra "sm")) | (refine' sm2 ?h9 ?r9; (case h9 => k_extra "nc"); (case r9 => k_extra "sm")) | (refine sm3 h2 ?_; k_extra "sm") | fail "sm"
  k_with "rm" => first | exact ltA0 (by with_reducible assumption) | exact ltA1 (by with_reducible assumption) (Nat.le_of_ble_eq_true rfl) | exact ltA2 (by with_reducible assumption) (Nat.le_of_ble_eq_true rfl) | exact ltA3 (by with_reducible assumption) (Nat.le_of_ble_eq_true rfl)
  k_with "sz" => first | with_reducible assumption | with_reducible exact Nat.le_of_ble_eq_true (Eq.refl true)
  k_with "my exec For Tuple Name cons nil" => (k_here; (rename Fr _ _ _ _ => lF'); (with_unfolding_all refine' For_turns lF' ?_); k_whole)
  k_with "my pyIter ref" => 
    k_here
    rename Fr _ _ _ _ => F8
    rename News _ _ _ _ => N8
    with_unfolding_all refine' turns_list (σ := CoC) (fun c => [(Str.ofString "worth", Value.int c.a c.t1), (Str.ofString "whole", Value.int c.a c.t2)]) [Str.ofString "row", Str.ofString "column"] (fun i c => coinF B P (cs.drop i) c.a = some f) ⟨0, _, _⟩ (by rfl) (by rfl) F8 N8 (m4 _ mC9) ?kk ?kp ?_ ?_
    case kk => kst_all
    case kp => with_unfolding_all exact hf
    all_goals first
      | (intro c i v u7 h7 tk7 I it hit hI7 hi7 hv7 hP7 F7 N7
         obtain ⟨a7, t7, r7⟩ := c
         obtain ⟨qc, n7, ta, tb, c1, c2, r, l, x, ct⟩ := coin_turn hCo hv7 hP7
         obtain ⟨g1, g2, g3, g4, qb, nb2, usb, tvb, hb1, hb2, hb3⟩ := cell_at hB ct.cell
         obtain ⟨_, _, _, _, qd, nd2, usd, tvd, hd1, hd2, hd3⟩ := cell_at hD ct.cell
         obtain ⟨tr, hp1⟩ := ints_get2 hP ct.p1
         obtain ⟨tl, hp2⟩ := ints_get2 hP ct.p2
         have hqc := ct.mem
         have ev := ct.ev
         subst ev
         clear F8 N8
         (try dsimp only [kstB] at F7)
         (try dsimp only)
         (try k_fold))
      | (intro c u7 h7 tk7 hP7 F7 N7
         obtain ⟨a7, t7, r7⟩ := c
         have hP7 : a7 = f := coin_end hnl hP7
         subst hP7
         clear F8 N8
         (try dsimp only [kstB] at F7)
         (try dsimp only)
         (try k_fold))
  k_with "my assign Tuple" => (k_here; (k_dflt (refine' unpackN_ ?F ?N ⟨_, News.get (by k_asm) (List.mem_cons_of_mem _ (m4 _ hqc)), rfl, _, rfl⟩ ?k1 ?k2 ?k3 ?_; (case F => k_asm); (case N => k_asm); (case k1 => exact rfl); (case k2 => exact rfl); (case k3 => exact rfl))); intro h' F' N'; (try dsimp only); (try k_fold))
  k_with "my subscriptTail" => first
    | (k_here; k_dflt (refine' pick_item (by k_asm) (List.mem_cons_of_mem _ (m4 _ mP9)) ct.a0 ct.a1 hp1 ?_); (try k_fold))
    | (k_here; k_dflt (refine' pick_item (by k_asm) (List.mem_cons_of_mem _ (m4 _ mP9)) ct.b0 ct.b1 hp2 ?_); (try k_fold))
    | (k_here; k_dflt (refine' pick_item (by k_asm) (List.mem_cons_of_mem _ (m4 _ mB9)) g1 g2 hb1 ?_); (try k_fold))
    | (k_here; k_dflt (refine' pick_item (by k_asm) (List.mem_cons_of_mem _ (m4 _ hb2)) g3 g4 hb3 ?_); (try k_fold))
    | (k_here; k_dflt (refine' pick_item (by k_asm) (List.mem_cons_of_mem _ (m4 _ mD9)) g1 g2 hd1 ?_); (try k_fold))
    | (k_here; k_dflt (refine' pick_item (by k_asm) (List.mem_cons_of_mem _ (m4 _ hd2)) g3 g4 hd3 ?_); (try k_fold))
  k_with "my call ref" => first
    | first | (k_here; k_dflt (refine' CS.use (xor_cs w _ _ _ _ _) ?B ?F ?X ?N ?T ?K ?D ?U ?_; (case B => k_asm); (case F => k_asm); (case X => k_asm); (case N => k_asm); (case T => k_asm); (case K => first | exact rfl | assumption); (case D => first | k_extra "rm" | omega | (show dp + _ + _ < recursionLimit; omega) | (show dp + _ < recursionLimit; omega) | (show _ + _ < recursionLimit; decide)); (case U => first | k_extra "rm" | omega | (show un + _ + 8 * _ < cLine; omega) | (show un + 8 * _ < cLine; omega) | ktr_units); k_whole; intro r9 n9 h9 tk9 F9 N9 p9; obtain ⟨⟨t9, rfl⟩, rfl⟩ := p9; skip; (try dsimp only); (try k_fold)))
    | first | (k_here; k_dflt (refine' CS.use (eof_cs w _ _ _) ?B ?F ?X ?N ?T ?K ?D ?U ?_; (case B => k_asm); (case F => k_asm); (case X => k_asm); (case N => k_asm); (case T => k_asm); (case K => first | exact rfl | assumption); (case D => first | k_extra "rm" | omega | (show dp + _ + _ < recursionLimit; omega) | (show dp + _ < recursionLimit; omega) | (show _ + _ < recursionLimit; decide)); (case U => first | k_extra "rm" | omega | (show un + _ + 8 * _ < cLine; omega) | (show un + 8 * _ < cLine; omega) | ktr_units); k_whole; intro r9 n9 h9 tk9 F9 N9 p9; obtain ⟨rfl, rfl⟩ := p9; skip; (try dsimp only); (try k_fold)))
  k_with "my compareOp NotEq ref ref" => (k_here; k_dflt (refine' ne_rows rfl ?N (m4 _ mB9) (m4 _ mD9) hB m4 hD m4 ?u ?_; (case N => k_asm); (case u => (show un + 64 < cLine; omega))))
  k_with "my TnPost" => (dsimp only [TnPost])
  k_with "my TnEnd" => (refine' TnEnd.intro ?F ?N ?s9 ⟨⟨Builtin.bitXor a7 x, _, _⟩, ?ps, ?rs, ct.next⟩; (case F => k_asm); (case N => k_asm); (case s9 => first | exact fun p h => h | (intro p h; exact h)); (case ps => kst_all); (case rs => (intro z h2 h3; (simp only [List.forall_mem_cons, List.not_mem_nil, false_implies, implies_true, and_true, ne_eq] at h2); (simp only [List.contains_cons, List.contains_nil, Bool.or_false, Bool.or_eq_false_iff, beq_eq_false_iff_ne, ne_eq] at h3); (simp [h2, h3]; done))))
  repeat' (first | (k_unfold; (try dsimp only)) | (k_end; wrow_close) | ((with_reducible show wpAny _ _ (execs (_ :: _) _) _ _ _); dsimp only; walk1) | walk1 | (dsimp only; walk1) | (leave1; walk_say "STEP leave1"; try dsimp only) | fail "no step")
  all_goals first
    | (refine SegEnd.intro fun ht9 => ?_; (try dsimp only at ht9); k_dflt (refine' LX.use (hZ) ?ho ?hr ?T1 ?B ?F ?ps ?X ?N ?T ?D ?U ?_; (skip); (case B => assumption); (case F => k_asm); (case X => assumption); (case ho => k_is); (case N => first | k_asm | (refine kst_newsOf (by k_asm) ?_; repeat (first | exact List.forall_mem_nil _ | (refine List.forall_mem_cons.mpr ⟨by first | exact List.mem_cons_self | (exact List.mem_cons_of_mem _ List.mem_cons_self) | (exact List.mem_cons_of_mem _ (List.mem_cons_of_mem _ List.mem_cons_self)) | k_mem, ?_⟩)))); (case T => assumption); (case hr => rfl); (case ps => kst_all); (case T1 => first | assumption | omega | (dsimp only; omega) | (with_unfolding_all assumption)); (case D => first | k_extra "rm" | omega); (case U => first | k_extra "rm" | omega); (skip)); all_goals exact fun m' news' h' tk' F9 N9 => hret m' news' h' tk' F9 N9)
    | (exfalso; exact absurd rfl (by assumption))
    | (exfalso; rename ¬ (_ = _) => hb9; exact hb9 rfl)
    | (exfalso; rename (_ != _) = true => hb9; clear hZ; revert hb9; first | (rw [bne_self_eq_false]; decide) | (have hbe : (a7 == 0) = decide (a7 = 0) := rfl; rw [hbe, bne_self_eq_false]; decide))
end
-- part L10
section
theorem top_off_L10 : True := by
  w_top off
  exact True.intro
noncomputable def sel3 (k a b c : Int) : Int := if k = 0 then a else if k = 1 then b else c
noncomputable def owV (k x : Int) : Int := sel3 k (Builtin.bitAnd x (-x)) x (x - 1)
noncomputable def dueR (k0 k1 : Int) (W : Nat) (r : Nat) : List Int := 0 :: (List.range W).map fun (y : Nat) => T4 (owV k0 (1 + (r : Int))) (owV k1 (1 + (y : Int)))
noncomputable def dueV (k0 k1 : Int) (H W : Nat) : List (List Int) := List.replicate (W + 1) 0 :: (List.range H).map (dueR k0 k1 W)
theorem pk3 {k a b c : Int} {ta tb tc : Tok} (h0 : 0 ≤ k) (h1 : k < 3) : ∃ t, [Value.int a ta, Value.int b tb, Value.int c tc][k.toNat]? = some (.int (sel3 k a b c) t) := by
  have : k = 0 ∨ k = 1 ∨ k = 2 := by omega
  rcases this with rfl | rfl | rfl
  · exact ⟨_, rfl⟩
  · exact ⟨_, rfl⟩
  · exact ⟨_, rfl⟩
theorem len_at {prog : Program} {w : World} {A : Around} {E : Value → Shared → Prop} {s : Shared} {h₀ : Heap} {L l : Addr} {news : List (Addr × Obj)} {vs : List Value} {n k : Nat} {Q : Value → Shared → Prop} (N : News h₀ L s.heap news) (hm : (l, listOf vs.toArray k) ∈ news) (hn : vs.length = n) (hb : n < 1000)
    (h : Q (.int (n : Int) (s.toks + 1)) { s with toks := s.toks + 1 + 1 }) : wpAny (model prog w) A (call (.builtin "len") [.ref l]) Q E s := by
  subst hn
  exact PyProof.Rows.len_list (News.isList N hm) (by rw [List.size_toArray]; omega) (by rw [List.size_toArray]; exact h)
theorem mul_zero {prog : Program} {w : World} {A : Around} {E : Value → Shared → Prop} {s : Shared} {h₀ : Heap} {L l : Addr} {m : Str → Option Value} {news : List (Addr × Obj)} {n k : Nat} {t u : Tok} {Q : Value → Shared → Prop} (F : Fr h₀ L s.heap m) (N : News h₀ L s.heap news) (hm : (l, listOf [Value.int 0 t].toArray n) ∈ news) (hk : k ≤ 200)
    (h : ∀ D ws h', Fr h₀ L h' m → News h₀ L h' ((D, listOf ws.toArray 0) :: news) → IntsAre ws (List.replicate k 0) → (∀ p ∈ news, p.1 < D) → Q (.ref D) { s with heap := h' }) : wpAny (model prog w) A (binaryOp .Mult (.ref l) (.int (k : Int) u)) Q E s :=
  KMa.mul F N (News.isList N hm) (by omega) (by omega) (by simp only [List.length_cons, List.length_nil]; omega) (flat_one _ _) fun D h' F' N' hl => h D _ h' F' N' (by rw [show ((k : Int)).toNat = k by omega]; exact ints_repl 0 t k) hl
theorem due_zero {k0 k1 : Int} {H W : Nat} {D : Addr} {ws : List Value} (h : IntsAre ws (List.replicate (W + 1) 0)) : RowsAre [(D, listOf ws.toArray 0)] [.ref D] ((dueV k0 k1 H W).take (0 + 1)) := ⟨⟨D, 0, ws, rfl, List.mem_singleton_self _, h⟩, trivial⟩
theorem ow_fin : ∀ (k : Fin 3) (r : Fin 5), 0 ≤ owV (k.val : Int) ((r.val : Int) + 1) ∧ owV (k.val : Int) ((r.val : Int) + 1) < 16 := by decide +kernel
theorem ow_bd {k : Int} (h0 : 0 ≤ k) (h1 : k < 3) {i : Nat} (hi : i < 5) : 0 ≤ owV k (1 + (i : Int)) ∧ owV k (1 + (i : Int)) < 16 := by
  have := ow_fin ⟨k.toNat, by omega⟩ ⟨i, hi⟩
  rw [show ((k.toNat : Nat) : Int) = k by omega, Int.add_comm] at this
  exact this
structure Keep (p : Prop) : Prop where
  h : p
structure DuC where
  us : List Value
  cap : Nat
  T : List (Addr × Obj)
  o : Obj
theorem ints_snoc2 {ys : List Value} {f : Nat → Int} {c : Nat} {z : Int} (t : Tok) (h : IntsAre ys ((List.range c).map f)) (hz : z = f c) : IntsAre (ys ++ [.int z t]) ((List.range (c + 1)).map f) := by
  subst hz
  rw [List.range_succ, List.map_append]
  exact IntsAre.append h (.cons _ t .nil)
theorem own_all {L2 du : Addr} {c1 : Obj} {T7 T own : List (Addr × Obj)} {o o7 oK oC oS : Obj} {q L : Addr} (e : L2 = L + 2) (hn : ∀ p ∈ T7, p.1 ≠ du ∧ p.1 ≠ L2) (hT : ∀ p ∈ T, p.1 ≠ L2) (hoff : OwnOff own (((du, c1) :: (L2, o7) :: (T7 ++ ((q, o) :: (L + 1, oK) :: (L + 3, oC) :: (L + 4, oS) :: T))).map (·.1))) (hlt : L + 4 < q) :
    ∀ p ∈ (T7 ++ ((q, o) :: (L + 1, oK) :: (L + 3, oC) :: (L + 4, oS) :: T)) ++ own, p.1 ≠ L2 := by
  subst e
  intro p hp
  rcases List.mem_append.mp hp with hp | hp
  · rcases List.mem_append.mp hp with hp | hp
    · exact (hn p hp).2
    · simp only [List.mem_cons] at hp
      rcases hp with rfl | rfl | rfl | rfl | hp
      · show q ≠ L + 2; have := ltN hlt; refine neN ?_; omega
      · show L + 1 ≠ L + 2; refine neN ?_; omega
      · show L + 3 ≠ L + 2; refine neN ?_; omega
      · show L + 4 ≠ L + 2; refine neN ?_; omega
      · exact hT p hp
  · exact hoff p hp _ (List.mem_cons_of_mem _ List.mem_cons_self)
set_option maxHeartbeats 1500000 in
theorem due_all {L du d9 : Addr} {c1 o8 oK oC oS o od : Obj} {T7 T own G : List (Addr × Obj)} {q : Addr} (hd : @LT.lt Nat _ du d9) (h2 : du ≠ L + 2) (hn : ∀ p ∈ T7, p.1 ≠ du ∧ p.1 ≠ L + 2) (hR : ∀ p ∈ (q, o) :: (L + 1, oK) :: (L + 3, oC) :: (L + 4, oS) :: T, p.1 < du) (hoff : OwnOff own (((du, c1) :: G).map (·.1))) :
    ∀ p ∈ (d9, od) :: (L + 2, o8) :: ((T7 ++ ((q, o) :: (L + 1, oK) :: (L + 3, oC) :: (L + 4, oS) :: T)) ++ own), p.1 ≠ du := by
  intro p hp
  rcases List.mem_cons.mp hp with rfl | hp
  · exact Nat.ne_of_gt hd
  · rcases List.mem_cons.mp hp with rfl | hp
    · exact Ne.symm h2
    · rcases List.mem_append.mp hp with hp | hp
      · rcases List.mem_append.mp hp with hp | hp
        · exact (hn p hp).1
        · exact Nat.ne_of_lt (hR p hp)
      · exact hoff p hp _ List.mem_cons_self
theorem due_off {du d9 : Addr} {c1 c2 od : Obj} {x : Addr × Obj} {o8 : Obj} {T7 R own : List (Addr × Obj)} (hd : ∀ p ∈ own, p.1 < d9) (hoff : OwnOff own (((du, c1) :: x :: (T7 ++ R)).map (·.1))) : OwnOff own (((du, c2) :: (x.1, o8) :: (((d9, od) :: T7) ++ R)).map (·.1)) := by
  intro p hp b hb
  simp only [List.map_cons, List.cons_append, List.mem_cons] at hb
  rcases hb with rfl | rfl | rfl | hb
  · exact hoff p hp _ List.mem_cons_self
  · exact hoff p hp _ (List.mem_cons_of_mem _ List.mem_cons_self)
  · exact Nat.ne_of_lt (hd p hp)
  · exact hoff p hp _ (List.mem_cons_of_mem _ (List.mem_cons_of_mem _ hb))
theorem due_rows {T7 : List (Addr × Obj)} {us vs : List Value} {k0 k1 : Int} {H W i : Nat} {d : Addr} (hi : i < H) (h : RowsAre T7 us ((dueV k0 k1 H W).take (i + 1))) (hV : IntsAre vs (dueR k0 k1 W i)) : RowsAre ((d, listOf vs.toArray 0) :: T7) (us ++ [.ref d]) ((dueV k0 k1 H W).take (i + 1 + 1)) := by
  have e : (dueV k0 k1 H W)[i + 1]? = some (dueR k0 k1 W i) := by
    show ((List.range H).map (dueR k0 k1 W))[i]? = _
    rw [List.getElem?_map, List.getElem?_range hi]; rfl
  rw [List.take_add_one, e]
  exact rows_snoc List.mem_cons_self hV (RowsAre.mono (fun p hp => List.mem_cons_of_mem _ hp) h)
theorem due_len {T7 : List (Addr × Obj)} {us : List Value} {k0 k1 : Int} {H W i : Nat} (h : RowsAre T7 us ((dueV k0 k1 H W).take (i + 1))) : us.length ≤ i + 1 := by
  rw [rows_len h, List.length_take]; omega
theorem due_fin {T7 : List (Addr × Obj)} {us : List Value} {k0 k1 : Int} {H W : Nat} (h : RowsAre T7 us ((dueV k0 k1 H W).take (H + 1))) : RowsAre T7 us (dueV k0 k1 H W) := by
  rwa [List.take_of_length_le (by simp [dueV])] at h
theorem lx10 (w : World) (L : Addr) (x0 x1 x2 x3 x4 x5 x6 : Int) (k j : Int) (k0 : 0 ≤ k) (k1 : k < 6) (j0 : 0 ≤ j) (j1 : j < 4) (tq tf : Tok) (q : Addr) (cap : Nat) (us : List Value) (hI : IntsAre us [x0, x1, x2, x3, x4, x5, x6]) (oK oO oC oS : Obj) (vo vc vs : Option Value) (hO : oO.data = .cell vo) (hC : oC.data = .cell vc) (hS : oS.data = .cell vs) (hlt : L + 4 < q)
    (kl pl b cl : Addr) (nk pn nb nc : Nat) (pv vb vcs : List Value) (P : List Int) (H W : Nat) (kk0 kk1 : Int) (tk0 tk1 : Tok) (cs : List (Int × Int)) (f : Int) (T : List (Addr × Obj)) (hK : oK.data = .cell (some (.ref kl))) (hk00 : 0 ≤ kk0) (hk03 : kk0 < 3) (hk10 : 0 ≤ kk1) (hk13 : kk1 < 3) (hHW : Keep (0 < H ∧ H < 5 ∧ 0 < W ∧ W < 6))
    (mK9 : (kl, listOf [Value.int kk0 tk0, .int kk1 tk1].toArray nk) ∈ T) (hP : IntsAre pv P) (mP9 : (pl, listOf pv.toArray pn) ∈ T) (mB9 : (b, listOf vb.toArray nb) ∈ T) (hB : RowsAre T vb (dueV kk0 kk1 H W)) (mC9 : (cl, listOf vcs.toArray nc) ∈ T) (hCo : PairsAre T vcs cs) (hf : coinF (dueV kk0 kk1 H W) P cs 0 = some f) (hT2 : ∀ p ∈ T, p.1 ≠ L + 2) :
    LX w 10 L [(Str.ofString "cells", .ref q), (Str.ofString "quoted", .str (quotV k j) tq), (Str.ofString "places", .ref pl), (Str.ofString "board", .ref b), (Str.ofString "coins", .ref cl), (Str.ofString "formula", .int f tf)] ((L + 2, oO) :: (q, listOf us.toArray cap) :: (L + 1, oK) :: (L + 3, oC) :: (L + 4, oS) :: T) := by
  have hZ := fun du nd vd T' m1 m2 m3 m4 m5 m6 m7 => lx12 w L x0 x1 x2 x3 x4 x5 x6 k j k0 k1 j0 j1 tq tf q cap us hI oC oS vc vs hC hS hlt pl b du cl pn nb nd nc pv vb vd vcs P (dueV kk0 kk1 H W) cs f T' hP m1 m2 m3 m4 m5 m6 m7 hf
  generalize quotV k j = qv at hZ ⊢
  have hlen := rows_len hB
  obtain ⟨q0, n0, us0, hb0, hm0, hi0⟩ := rows_get2 hB (i := 0) (r := List.replicate (W + 1) 0) rfl
  have hl0 := hi0.length
  rw [List.length_replicate] at hl0
  have hlb : vb.length = H + 1 := by rw [hlen]; simp [dueV]
  have m4 : ∀ p ∈ T, p ∈ (L + 2, oO) :: (q, listOf us.toArray cap) :: (L + 1, oK) :: (L + 3, oC) :: (L + 4, oS) :: T := fun p hp => List.mem_cons_of_mem _ (List.mem_cons_of_mem _ (List.mem_cons_of_mem _ (List.mem_cons_of_mem _ (List.mem_cons_of_mem _ hp))))
  replace hlt := ltN hlt
  unfold LX
  k_fill
  refine' fnAt_of ?k6 ?_
  case k6 => k_is
  intro mean mg mb dp un gd a ccd A₀ base s m₀ Q htok B' F9 X' N' T' hd hu hret
  have hk : ScopeKind.function = ScopeKind.function := rfl
  have XB := X'
  have TB := T'
  dsimp only [List.drop]
  dsimp only [kstB] at F9
  refine seg_toks (l1 := [_, _]) htok ?_
  (try k_fold)
  k_with_none
  k_with "k_mem" => first | exact (by with_reducible assumption) | exact (List.mem_cons_of_mem _ (by with_reducible assumption)) | exact (List.mem_cons_of_mem _ (List.mem_cons_of_mem _ (by with_reducible assumption))) | exact (List.mem_cons_of_mem _ (List.mem_cons_of_mem _ (List.mem_cons_of_mem _ (by with_reducible assumption)))) | exact (List.mem_cons_of_mem _ (List.mem_cons_of_mem _ (List.mem_cons_of_mem _ (List.mem_cons_of_mem _ (by with_reducible assumption)))))
  k_with "pj" => first | with_reducible assumption | exact pj0 (by with_reducible assumption) | exact pj1 (by with_reducible assumption) | exact pj2 (by with_reducible assumption) | exact pj3 (by with_reducible assumption) | exact pj4 (by with_reducible assumption) | exact pj5 (by with_reducible assumption) | exact pj6 (by with_reducible assumption) | exact pj7 (by with_reducible assumption) | exact pj8 (by with_reducible assumption) | exact pj9 (by with_reducible assumption) | exact pj10 (by with_reducible assumption) | exact pj11 (by with_reducible assumption) | exact pj12 (by with_reducible assumption) | exact pj13 (by with_reducible assumption) | exact pj14 (by with_reducible assumption) | exact pj15 (by with_reducible assumption) | exact pj16 (by with_reducible assumption) | exact pj17 (by with_reducible assumption) | exact pj18 (by with_reducible assumption) | exact pj19 (by with_reducible assumption) | exact pj20 (by with_reducible assumption) | exact pj21 (by with_reducible assumption) | exact pj22 (by with_reducible assumption) | exact pj23 (by with_reducible assumption) | exact pj24 (by with_reducible assumption)
  k_with "pj2" => first | exact ltR (by k_extra "lt") | exact ltL (k := 4) (by k_extra "lt") (Nat.le_of_ble_eq_true rfl) | exact ltLR (k := 4) (by k_extra "lt") (Nat.le_of_ble_eq_true rfl) | exact ltR (by k_extra "pj") | exact ltL (k := 4) (by k_extra "pj") (Nat.le_of_ble_eq_true rfl) | exact ltLR (k := 4) (by k_extra "pj") (Nat.le_of_ble_eq_true rfl)
  k_with "lt" => first | with_reducible assumption | exact ltOf (by with_reducible assumption) (by k_mem)
  k_with "k_ne" => (refine neN ?_; (try dsimp only); first | exact neK rfl | exact neK0 rfl | exact neK1 rfl | exact Nat.ne_of_lt (by k_extra "lt") | exact Nat.ne_of_gt (by k_extra "lt") | exact Nat.ne_of_lt (by k_extra "pj") | exact Nat.ne_of_gt (by k_extra "pj") | exact Nat.ne_of_lt (by k_extra "pj2") | exact Nat.ne_of_gt (by k_extra "pj2") | k_extra "pj" | k_extra "pq" | exact Ne.symm (by k_extra "pj") | omega)
  k_with "mb" => first | with_reducible exact incM | with_reducible assumption | (with_reducible refine incMT ?_; k_extra "mb") | (with_reducible refine incML ?_; k_extra "mb") | (with_reducible refine incMR ?_; k_extra "mb")
  k_with "sbl" => first | with_reducible exact incI | (with_reducible refine incT ?_; k_extra "sbl") | (with_reducible refine incL ?_; k_extra "sbl") | (with_reducible refine incR ?_; k_extra "sbl")
  k_with "sb" => first | with_reducible exact incI | with_reducible exact incN | (with_reducible refine' incC ?m9 ?r9; (case m9 => k_extra "mb"); (case r9 => k_extra "sb")) | (k_extra "sbl") | (with_reducible refine incA ?_ ?_ <;> k_extra "sb")
  k_with "mg" => first | with_reducible exact List.mem_cons_self | (with_reducible refine List.mem_cons_of_mem _ ?_; k_extra "mg")
  k_with "ne1" => first | exact h1 | exact neP h2 (by k_extra "mg") | exact neC h3 (by k_extra "mg") | fail "ne1"
  k_with "nc" => with_reducible first | exact h3 | exact ncN | (refine' ncC ?b9 ?q9; (case b9 => k_extra "ne1"); (case q9 => k_extra "nc")) | fail "nc"
  k_with "sm" => with_reducible first | rfl | (refine' sm1 ?a9 ?r9; (case a9 => k_extra "ne1"); (case r9 => k_extra "sm")) | (refine' sm2 ?h9 ?r9; (case h9 => k_extra "nc"); (case r9 => k_extra "sm")) | (refine sm3 h2 ?_; k_extra "sm") | fail "sm"
  k_with "rm" => first | exact ltA0 (by with_reducible assumption) | exact ltA1 (by with_reducible assumption) (Nat.le_of_ble_eq_true rfl) | exact ltA2 (by with_reducible assumption) (Nat.le_of_ble_eq_true rfl) | exact ltA3 (by with_reducible assumption) (Nat.le_of_ble_eq_true rfl)
  k_with "sz" => first | with_reducible assumption | with_reducible exact Nat.le_of_ble_eq_true (Eq.refl true)
  k_with "my subscriptTail" => first
    | (k_here; k_dflt (refine' pick_item (by k_asm) (m4 _ mB9) (by decide) (by decide) hb0 ?_); (try k_fold))
    | (k_here; k_dflt (refine' pick_item (by k_asm) (List.mem_cons_of_mem _ (m4 _ mB9)) (by decide) (by decide) hb0 ?_); (try k_fold))
    | (k_here; k_dflt (refine' pick_item (n := nb) (vs := vb) (v := .ref q0) (by k_asm) (by simp only [List.mem_append, List.mem_cons]; simp only [mB9, or_true, true_or]) (by decide) (by decide) hb0 ?_); (try k_fold))
    | (k_here; k_dflt (refine' pick_item (n := nk) (vs := [Value.int kk0 tk0, .int kk1 tk1]) (v := .int kk0 tk0) (by k_asm) (by simp only [List.mem_append, List.mem_cons]; simp only [mK9, or_true, true_or]) (by decide) (by decide) rfl ?_); (try k_fold))
    | (k_here; k_dflt (refine' pick_item (n := nk) (vs := [Value.int kk0 tk0, .int kk1 tk1]) (v := .int kk1 tk1) (by k_asm) (by simp only [List.mem_append, List.mem_cons]; simp only [mK9, or_true, true_or]) (by decide) (by decide) rfl ?_); (try k_fold))
    | (k_here; k_dflt (refine' pick_item (by k_asm) List.mem_cons_self hk10 (Int.lt_trans hk13 (by decide)) (pk3 hk10 hk13).choose_spec ?_); (try k_fold))
    | (k_here; k_dflt (refine' pick_item (by k_asm) List.mem_cons_self hk00 (Int.lt_trans hk03 (by decide)) (pk3 hk00 hk03).choose_spec ?_); (try k_fold))
  k_with "my call builtin:len" => first
    | (k_here; k_dflt (refine' len_at (by k_asm) (List.mem_cons_of_mem _ (m4 _ hm0)) hl0 (by have := hHW.h; omega) ?_); (try dsimp only); (try k_fold))
    | (k_here; k_dflt (refine' len_at (vs := us0) (k := n0) (by k_asm) (by simp only [List.mem_append, List.mem_cons]; simp only [hm0, or_true, true_or]) hl0 (by have := hHW.h; omega) ?_); (try dsimp only); (try k_fold))
    | (k_here; k_dflt (refine' len_at (vs := vb) (k := nb) (by k_asm) (by simp only [List.mem_append, List.mem_cons]; simp only [mB9, or_true, true_or]) hlb (by have := hHW.h; omega) ?_); (try dsimp only); (try k_fold))
  k_with "my binaryOp Mult ref int" => (k_here; k_dflt (refine' mul_zero (k := W + 1) (by k_asm) (by k_asm) List.mem_cons_self (by have := hHW.h; omega) ?_); intro D9 ws9 h9 F9 N9 hws9 l9; (try dsimp only); (try k_fold))
  k_with "my newList" => (k_here; (with_reducible show wpAny _ _ (newList [Value.ref _]) _ _ _); (k_dflt (refine' newList_K (by k_asm) (by k_asm) ?_ (by size_fits))); intro du hq9 Fq Nq dul; have hrow0 := due_zero (k0 := kk0) (k1 := kk1) (H := H) (D := D9) hws9; have hdu2 : du ≠ L + 2 := Nat.ne_of_gt (dul (L + 2, oO) (List.mem_cons_of_mem _ (List.mem_cons_of_mem _ List.mem_cons_self))); have hD9 : D9 ≠ du ∧ D9 ≠ L + 2 := ⟨Nat.ne_of_lt (dul _ List.mem_cons_self), Nat.ne_of_gt (l9 (L + 2, oO) (List.mem_cons_of_mem _ List.mem_cons_self))⟩; replace Nq := kst_newsOf (l' := (du, listOf [Value.ref D9].toArray 0) :: (L + 2, oO) :: ([(D9, listOf ws9.toArray 0)] ++ ((q, listOf us.toArray cap) :: (L + 1, oK) :: (L + 3, oC) :: (L + 4, oS) :: T))) Nq (by (first | (with_reducible refine Inc.use ?_; k_extra "sb") | (intro p hp; simp only [List.mem_append, List.mem_cons, List.not_mem_nil, or_false] at hp ⊢; first | (simp only [hp, true_or, or_true]; done) | ((repeat' (refine Or.elim hp ?_ ?_ <;> clear hp <;> intro hp)) <;> simp only [hp, true_or, or_true])))); (try dsimp only); (try k_fold))
  k_with "my callWith" => first | (k_here; (with_reducible show wpAny _ _ (callWith _ _ _ (backTo _ (starEach [PySem.Expr.BinOp _ _ _ _] _)) []) _ _ _); dsimp only; with_reducible (refine callWith_method1 ?_ star_Bin plain_nil))
  k_with "my eval ListComp" => (k_here; k_dflt (refine LCg.ListComp_U (F₀ := by k_asm) (by with_unfolding_all rfl) (by decide) (by rfl) (by decide) (by rfl) ?_); k_dflt lcg_toSrc)
  k_with "my CompSrc" => 
    k_here
    rename News _ _ _ _ => N8
    generalize hR0 : (_ :: (du, listOf us7.toArray cap7) :: _ : List (Addr × Obj)) = news0 at N8
    k_dflt (refine LCg.CompSrc.range (n := W) (by rfl) (by k_asm) N8 (by assumption) (small_one (by decide) (by decide) (by have := hHW.h; omega) (by have := hHW.h; omega)) (by rw [rangeSize_nat]; omega) (by have := hHW.h; simp only [PySem.sizeLine_eq]; omega) ?_)
    intro g'
    refine comp_ind W (fun c ys nn => nn = news0 ∧ IntsAre ys ((List.range c).map fun (y : Nat) => T4 (owV kk0 (1 + (i : Int))) (owV kk1 (1 + (y : Int))))) ?_ ?_ _ 0 [] _ (by omega) ⟨rfl, by rw [List.range_zero, List.map_nil]; exact .nil⟩
    all_goals first
      | (intro c9 ys9 news9 v I oI9 C oC9 D m₂ h9 tk9 E9 hi9 hI9 hP9 hC9 hx9 F9 N9 off9 ne9
         obtain ⟨rfl, hY9⟩ := hI9
         obtain ⟨t9, rfl⟩ := hP9
         subst hR0
         have hYn := fun (t : Tok) (z : Int) => ints_snoc2 (z := z) t hY9
         clear hY9
         (try dsimp only)
         (try k_fold))
      | (intro ysA news9 hI9
         obtain ⟨rfl, hYA⟩ := hI9
         subst hR0
         (try dsimp only)
         (try k_fold))
  k_with "my eval Name" => first
    | (k_here; (with_reducible show wpAny _ _ (eval (PySem.Expr.Name (Str.ofString "kinds") _) (envX _ _ _ _ _ _)) _ _ _); (k_dflt (refine' nameX_C (o := oK) ?zxN ?zxc ?zxm hK ?_ ?zxa ?zxb; (case zxa => rfl); (case zxb => rfl); (case zxN => k_asm); (case zxc => rfl); (case zxm => simp only [List.mem_append, List.mem_cons, true_or, or_true]))))
    | (k_here; (with_reducible show wpAny _ _ (eval (PySem.Expr.Name (Str.ofString "kinds") _) (compEnvC _ _ _ _)) _ _ _); (k_dflt (refine' lcf_cell (o := oK) ?zxN ?zxc ?zxm hK ?_ ?zxa ?zxb; (case zxa => rfl); (case zxb => rfl); (case zxN => k_asm); (case zxc => rfl); (case zxm => simp only [List.mem_append, List.mem_cons, true_or, or_true]))))
    | (k_here; (with_reducible show wpAny _ _ (eval (PySem.Expr.Name (Str.ofString "own") _) (compEnvC _ _ _ _)) _ _ _); (k_dflt (refine' lcf_cell (o := o8) ?zxN ?zxc ?zxm d8 ?_ ?zxa ?zxb; (case zxa => rfl); (case zxb => rfl); (case zxN => k_asm); (case zxc => rfl); (case zxm => simp only [List.mem_append, List.mem_cons, true_or, or_true]))))
    | (k_here; (with_reducible show wpAny _ _ (eval (Expr.Name _ _) (compEnvC _ _ _ _)) _ _ _); k_dflt (first | refine LCgL.ld_own (by k_asm) (by k_mem) (by assumption) (by with_reducible assumption) ?_ | (refine' lcf_cell ?N ?c ?m ?d ?_ ?a ?b; (case a => rfl); (case b => rfl); (case N => k_asm); (case c => rfl); (case m => k_mem); (case d => k_asm); k_whole) | refine LCgL.ld_built (by k_asm) (by k_asm) (by k_asm) (by k_is) (by boot_by_name) (by decide) ?_ | refine LCgL.ld_global (by k_asm) (by k_asm) (by k_asm) (by k_is) ?_))
  k_with "my call ref" => (have hA9 := ow_bd hk00 hk03 (i := i) (by have := hHW.h; omega); have hB9 := ow_bd hk10 hk13 (i := c9) (by have := hHW.h; omega); first | (k_here; k_dflt (refine' CS.use (times4_cs w _ _ _ _ _ hA9.1 hA9.2 hB9.1 hB9.2 _) ?B ?F ?X ?N ?T ?K ?D ?U ?_; (case B => k_asm); (case F => k_asm); (case X => k_asm); (case N => k_asm); (case T => k_asm); (case K => first | exact rfl | assumption); (case D => first | k_extra "rm" | omega | (show dp + _ + _ < recursionLimit; omega) | (show dp + _ < recursionLimit; omega) | (show _ + _ < recursionLimit; decide)); (case U => first | k_extra "rm" | omega | (show un + _ + 8 * _ < cLine; omega) | (show un + 8 * _ < cLine; omega) | ktr_units); k_whole; intro r9 n9 h9 tk9 F9 N9 p9; obtain ⟨⟨t8, rfl⟩, rfl⟩ := p9; skip; (try dsimp only); (try k_fold))))
  k_with "my CompEnd" => (refine LCg.CompEnd.intro (by k_asm) (by k_asm) _ ?s9 ?o9 trivial (by exact And.intro rfl (hYn t8 _ rfl)); (case s9 => first | exact fun p h => h | exact fun p h => List.mem_cons_of_mem _ h); (case o9 => exact off9))
  k_with "my binaryOp Add ref ref" => (k_here; k_dflt (refine' cat_ints ?zxF ?zxN ?zxl ?zxb ?zxu hYA ?zxz ?_; (case zxF => k_asm); (case zxN => k_asm); (case zxl => first | exact List.mem_cons_self | exact List.mem_cons_of_mem _ List.mem_cons_self); (case zxu => exact .cons 0 _ .nil); (case zxb => exact List.mem_cons_self); (case zxz => (have := hHW.h; simp only [List.length_map, List.length_range, List.length_cons, List.length_nil]; omega))); intro d9 vs9 h9 F9 N9 hV9 hlt9; (try dsimp only); (try k_fold))
  k_with "my storeName" => 
      k_here
      (with_reducible show wpAny _ _ (storeName _ (Str.ofString "own") _) _ _ _)
      rename News _ _ _ _ => N8
      have hall := own_all rfl hn7 hT2 hoff7 hlt
      have N8 := kst_newsOf (l' := (du, listOf us7.toArray cap7) :: (L + 2, o7) :: ((T7 ++ ((q, listOf us.toArray cap) :: (L + 1, oK) :: (L + 3, oC) :: (L + 4, oS) :: T)) ++ own7)) N8 (by (first | (with_reducible refine Inc.use ?_; k_extra "sb") | (intro p hp; simp only [List.mem_append, List.mem_cons, List.not_mem_nil, or_false] at hp ⊢; first | (simp only [hp, true_or, or_true]; done) | ((repeat' (refine Or.elim hp ?_ ?_ <;> clear hp <;> intro hp)) <;> simp only [hp, true_or, or_true]))))
      (k_dflt (refine' storeX_C ?zxF N8 ?zxc (UpdF.tail hdu2 (UpdF.head hall)) hv7 ?_ ?zxa ?zxb; (case zxa => rfl); (case zxb => rfl); (case zxF => k_asm); (case zxc => rfl)))
      clear N8
      intro h8 o8 F8 N8 d8
      (try dsimp only at N8)
      (try dsimp only)
      (try k_fold)
  k_with "my call builtin:list.append" => 
      k_here
      rename News _ _ _ _ => N8
      have hall2 := due_all (od := listOf vs9.toArray 0) (o8 := o8) (hlt9 (du, listOf us7.toArray cap7) (List.mem_cons_of_mem _ (List.mem_cons_of_mem _ List.mem_cons_self))) hdu2 hn7 (fun p hp => dul p (List.mem_cons_of_mem _ (List.mem_cons_of_mem _ (List.mem_cons_of_mem _ hp)))) hoff7
      have hown9 : ∀ p ∈ own7, p.1 < d9 := fun p hp => hlt9 p (by simp only [List.mem_append, List.mem_cons]; simp only [hp, or_true])
      have hul := due_len hR7
      have N8 := kst_newsOf (l' := (du, listOf us7.toArray cap7) :: (d9, listOf vs9.toArray 0) :: (L + 2, o8) :: ((T7 ++ ((q, listOf us.toArray cap) :: (L + 1, oK) :: (L + 3, oC) :: (L + 4, oS) :: T)) ++ own7)) N8 (by (first | (with_reducible refine Inc.use ?_; k_extra "sb") | (intro p hp; simp only [List.mem_append, List.mem_cons, List.not_mem_nil, or_false] at hp ⊢; first | (simp only [hp, true_or, or_true]; done) | ((repeat' (refine Or.elim hp ?_ ?_ <;> clear hp <;> intro hp)) <;> simp only [hp, true_or, or_true]))))
      (k_dflt (refine' append_K ?zyF N8 (Upd.head hall2) ?_ ?zyz; (case zyF => k_asm); (case zyz => (have := hHW.h; simp only [List.size_toArray, PySem.sizeLine_eq]; omega))))
      clear N8
      intro h9 F9 N9
      (try simp only [List.push_toArray] at N9)
      (try k_fold)
  k_with "my LpEnd" => (rename News _ _ _ _ => N8; refine' lp_end (DuC.mk (us7 ++ [Value.ref d9]) (cap7 + 1) ((d9, listOf vs9.toArray 0) :: T7) o8) (by k_asm) N8 ?hn ?ho ?hf ?hk ?hr ?hp; (case hk => kst_all); (case hn => (try dsimp only); (first | (with_reducible refine Inc.use ?_; k_extra "sb") | (intro p hp; simp only [List.mem_append, List.mem_cons, List.not_mem_nil, or_false] at hp ⊢; first | (simp only [hp, true_or, or_true]; done) | ((repeat' (refine Or.elim hp ?_ ?_ <;> clear hp <;> intro hp)) <;> simp only [hp, true_or, or_true])))); (case ho => (first | (with_reducible refine Inc.use ?_; k_extra "sb") | (intro p hp; simp only [List.mem_append, List.mem_cons, List.not_mem_nil, or_false] at hp ⊢; first | (simp only [hp, true_or, or_true]; done) | ((repeat' (refine Or.elim hp ?_ ?_ <;> clear hp <;> intro hp)) <;> simp only [hp, true_or, or_true])))); (case hf => (try dsimp only); exact due_off hown9 hoff7); (case hr => first | (intro z9 h1 h2 h3; k_extra "sm"; done) | kst_same); (case hp => (try dsimp only); exact ⟨due_rows hi7 hR7 (by k_dflt exact hV9), ⟨_, d8⟩, List.forall_mem_cons.mpr ⟨⟨Nat.ne_of_gt (hlt9 (du, listOf us7.toArray cap7) (List.mem_cons_of_mem _ (List.mem_cons_of_mem _ List.mem_cons_self))), Nat.ne_of_gt (hlt9 (L + 2, o8) (List.mem_cons_of_mem _ (List.mem_cons_of_mem _ (List.mem_cons_of_mem _ List.mem_cons_self))))⟩, hn7⟩⟩))
  k_with "my pyIter ref" => 
    k_here
    rename Fr _ _ _ _ => F8
    rename News _ _ _ _ => N8
    rename IsRange _ _ _ _ _ _ _ _ => R8
    with_unfolding_all refine' lp_rangeL (σ := DuC) (x := Str.ofString "row") (fun c => (du, listOf c.us.toArray c.cap) :: (L + 2, c.o) :: (c.T ++ ((q, listOf us.toArray cap) :: (L + 1, oK) :: (L + 3, oC) :: (L + 4, oS) :: T))) (fun _ => []) [] (fun i c => RowsAre c.T c.us ((dueV kk0 kk1 H W).take (i + 1)) ∧ (∃ v, c.o.data = .cell v) ∧ (∀ p ∈ c.T, p.1 ≠ du ∧ p.1 ≠ L + 2)) ⟨[.ref D9], 0, [(D9, listOf ws9.toArray 0)], oO⟩ (by rfl) (by rfl) R8 (by exact small_one (by decide) (by decide) (by have := hHW.h; omega) (by have := hHW.h; omega)) (n := H) (by first | rfl | omega | (rw [rangeSize_nat, Int.sub_zero]; done) | (rw [rangeSize_nat]; omega)) F8 ?kN ?kk ?kp ?_ ?_
    case kN => first | exact N8 | with_unfolding_all exact N8 | (refine kst_newsOf N8 ?_; with_reducible refine Inc.use ?_; k_extra "sb") | (refine kst_newsOf N8 ?_; intro p hp; simp only [List.mem_append, List.mem_cons, List.not_mem_nil, or_false] at hp ⊢; simp only [hp, true_or, or_true])
    case kk => kst_all
    case kp => exact ⟨hrow0, ⟨_, hO⟩, List.forall_mem_cons.mpr ⟨hD9, fun _ h => nomatch h⟩⟩
    clear F8 N8 R8
    rotate_left
    clear F8 N8 R8
    rotate_right
    all_goals first
      | (intro c i t7 u7 h7 tk7 own7 hi7 hoff7 hP F7 N7; obtain ⟨us7, cap7, T7, o7⟩ := c; (try dsimp only [kstB] at F7); (try dsimp only at N7); (try dsimp only at hP); (obtain ⟨hR7, ⟨v7, hv7⟩, hn7⟩ := hP); (try dsimp only); (try k_fold))
      | (intro c u7 h7 tk7 hP F7 N7; obtain ⟨us7, cap7, T7, o7⟩ := c; (try dsimp only [kstB] at F7); (try dsimp only at N7); (try dsimp only at hP); (obtain ⟨hR7, ⟨v7, hv7⟩, hn7⟩ := hP); (try dsimp only); (try k_fold))
  repeat' (first | (k_unfold; (try dsimp only)) | (k_end; wrow_close) | ((with_reducible show wpAny _ _ (execs (_ :: _) _) _ _ _); dsimp only; walk1) | walk1 | (dsimp only; walk1) | (leave1; walk_say "STEP leave1"; try dsimp only) | fail "no step")
  all_goals have hsub : ∀ p ∈ T, p ∈ (du, listOf us7.toArray cap7) :: (T7 ++ T) := fun p hp => List.mem_cons_of_mem _ (List.mem_append.mpr (.inr hp))
  all_goals (refine SegEnd.intro fun ht9 => ?_; (try dsimp only at ht9); k_dflt (refine' LX.use (hZ du cap7 us7 ((du, listOf us7.toArray cap7) :: (T7 ++ T)) (hsub _ mP9) (hsub _ mB9) (RowsAre.mono hsub hB) List.mem_cons_self (RowsAre.mono (fun p hp => List.mem_cons_of_mem _ (List.mem_append.mpr (.inl hp))) (due_fin hR7)) (hsub _ mC9) (PairsAre.mono hsub hCo)) ?ho ?hr ?T1 ?B ?F ?ps ?X ?N ?T ?D ?U ?_; (skip); (case B => assumption); (case F => k_asm); (case X => assumption); (case ho => k_is); (case N => exact kst_newsOf (by k_asm) (by (first | (with_reducible refine Inc.use ?_; k_extra "sb") | (intro p hp; simp only [List.mem_append, List.mem_cons, List.not_mem_nil, or_false] at hp ⊢; first | (simp only [hp, true_or, or_true]; done) | ((repeat' (refine Or.elim hp ?_ ?_ <;> clear hp <;> intro hp)) <;> simp only [hp, true_or, or_true]))))); (case T => assumption); (case hr => rfl); (case ps => kst_all); (case T1 => first | assumption | omega | (dsimp only; omega) | (with_unfolding_all assumption)); (case D => first | k_extra "rm" | omega); (case U => first | k_extra "rm" | omega); (skip)); all_goals exact fun m' news' h' tk' F9 N9 => hret m' news' h' tk' F9 N9)
end
-- part Pboard
section
theorem top_off_Pboard : True := by
  w_top off
  exact True.intro
noncomputable def zeroB (H W : Nat) : List (List Int) := List.replicate (H + 1) (List.replicate (W + 1) 0)
theorem board_fin : ∀ (a b : Fin 3) (h : Fin 4) (w : Fin 5), boardO (a.val : Int) (b.val : Int) ((w.val : Int) + 1) ((h.val + 1) * (w.val + 1)) 0 (zeroB (h.val + 1) (w.val + 1)) = some (dueV (a.val : Int) (b.val : Int) (h.val + 1) (w.val + 1)) := by decide +kernel
end
-- part L9
section
theorem top_off_L9 : True := by
  w_top off
  exact True.intro
theorem max_nat {M a b : Int} {n : Nat} (e : M = a ∨ M = b) (l : a ≤ M ∧ b ≤ M) (ha : 1 ≤ a ∧ a < n) (hb : 1 ≤ b ∧ b < n) : ∃ H : Nat, M = (H : Int) ∧ 0 < H ∧ H < n ∧ a ≤ H ∧ b ≤ H :=
  ⟨M.toNat, by omega, by omega, by omega, by omega, by omega⟩
theorem bo_cast {k0 k1 : Int} {H W : Nat} {F : List (List Int)} (h : boardO k0 k1 (W : Int) (H * W) 0 (List.replicate (H + 1) (List.replicate (W + 1) 0)) = some F) : boardO k0 k1 (W : Int) ((H : Int) * (W : Int)).toNat 0 (List.replicate ((H : Int) + 1).toNat (List.replicate ((W : Int) + 1).toNat 0)) = some F := by
  rw [show ((H : Int) * (W : Int)).toNat = H * W by rw [← Int.natCast_mul]; omega, show ((H : Int) + 1).toNat = H + 1 by omega, show ((W : Int) + 1).toNat = W + 1 by omega]
  exact h
theorem lx9 (w : World) (L : Addr) (x0 x1 x2 x3 x4 x5 x6 : Int) (k j : Int) (k0 : 0 ≤ k) (k1 : k < 6) (j0 : 0 ≤ j) (j1 : j < 4) (tq tf : Tok) (q : Addr) (cap : Nat) (us : List Value) (hI : IntsAre us [x0, x1, x2, x3, x4, x5, x6]) (oK oO oC oS : Obj) (vo vc vs : Option Value) (hO : oO.data = .cell vo) (hC : oC.data = .cell vc) (hS : oS.data = .cell vs) (hlt : L + 4 < q)
    (kl pl cl : Addr) (nk pn nc : Nat) (vcs : List Value) (p0 p1 p2 p3 : Int) (tp0 tp1 tp2 tp3 : Tok) (kk0 kk1 : Int) (tk0 tk1 : Tok) (cs : List (Int × Int)) (f : Int) (T : List (Addr × Obj)) (hK : oK.data = .cell (some (.ref kl))) (hk00 : 0 ≤ kk0) (hk03 : kk0 < 3) (hk10 : 0 ≤ kk1) (hk13 : kk1 < 3)
    (hp0 : 1 ≤ p0 ∧ p0 < 5) (hp1 : 1 ≤ p1 ∧ p1 < 5) (hp2 : 1 ≤ p2 ∧ p2 < 6) (hp3 : 1 ≤ p3 ∧ p3 < 6)
    (mK9 : (kl, listOf [Value.int kk0 tk0, .int kk1 tk1].toArray nk) ∈ T) (mP9 : (pl, listOf [Value.int p0 tp0, .int p1 tp1, .int p2 tp2, .int p3 tp3].toArray pn) ∈ T) (mC9 : (cl, listOf vcs.toArray nc) ∈ T) (hCo : PairsAre T vcs cs)
    (hBo : ∀ H W : Nat, 0 < H ∧ H < 5 ∧ 0 < W ∧ W < 6 → p0 ≤ H → p1 ≤ H → p2 ≤ W → p3 ≤ W → boardO kk0 kk1 (W : Int) (H * W) 0 (List.replicate (H + 1) (List.replicate (W + 1) 0)) = some (dueV kk0 kk1 H W) ∧ coinF (dueV kk0 kk1 H W) [p0, p1, p2, p3] cs 0 = some f) (hT2 : ∀ p ∈ T, p.1 ≠ L + 2) :
    LX w 9 L [(Str.ofString "cells", .ref q), (Str.ofString "quoted", .str (quotV k j) tq), (Str.ofString "places", .ref pl), (Str.ofString "coins", .ref cl), (Str.ofString "formula", .int f tf)] ((L + 2, oO) :: (q, listOf us.toArray cap) :: (L + 1, oK) :: (L + 3, oC) :: (L + 4, oS) :: T) := by
  have hZ := fun b nb vb H W T' m1 m2 m3 m4 m5 m6 m7 m8 m9 => lx10 w L x0 x1 x2 x3 x4 x5 x6 k j k0 k1 j0 j1 tq tf q cap us hI oK oO oC oS vo vc vs hO hC hS hlt kl pl b cl nk pn nb nc [Value.int p0 tp0, .int p1 tp1, .int p2 tp2, .int p3 tp3] vb vcs [p0, p1, p2, p3] H W kk0 kk1 tk0 tk1 cs f T' hK hk00 hk03 hk10 hk13 m1 m2 (.cons _ _ (.cons _ _ (.cons _ _ (.cons _ _ .nil)))) m3 m4 m5 m6 m7 m8 m9
  generalize quotV k j = qv at hZ ⊢
  have m4 : ∀ p ∈ T, p ∈ (L + 2, oO) :: (q, listOf us.toArray cap) :: (L + 1, oK) :: (L + 3, oC) :: (L + 4, oS) :: T := fun p hp => List.mem_cons_of_mem _ (List.mem_cons_of_mem _ (List.mem_cons_of_mem _ (List.mem_cons_of_mem _ (List.mem_cons_of_mem _ hp))))
  replace hlt := ltN hlt
  unfold LX
  k_fill
  refine' fnAt_of ?k6 ?_
  case k6 => k_is
  intro mean mg mb dp un gd a ccd A₀ base s m₀ Q htok B' F9 X' N' T' hd hu hret
  have hk : ScopeKind.function = ScopeKind.function := rfl
  have XB := X'
  have TB := T'
  dsimp only [List.drop]
  dsimp only [kstB] at F9
  refine seg_toks (l1 := [_]) htok ?_
  (try k_fold)
  k_with_none
  k_with "k_mem" => first | exact (by with_reducible assumption) | exact (List.mem_cons_of_mem _ (by with_reducible assumption)) | exact (List.mem_cons_of_mem _ (List.mem_cons_of_mem _ (by with_reducible assumption))) | exact (List.mem_cons_of_mem _ (List.mem_cons_of_mem _ (List.mem_cons_of_mem _ (by with_reducible assumption)))) | exact (List.mem_cons_of_mem _ (List.mem_cons_of_mem _ (List.mem_cons_of_mem _ (List.mem_cons_of_mem _ (by with_reducible assumption)))))
  k_with "pj" => first | with_reducible assumption | exact pj0 (by with_reducible assumption) | exact pj1 (by with_reducible assumption) | exact pj2 (by with_reducible assumption) | exact pj3 (by with_reducible assumption) | exact pj4 (by with_reducible assumption) | exact pj5 (by with_reducible assumption) | exact pj6 (by with_reducible assumption) | exact pj7 (by with_reducible assumption) | exact pj8 (by with_reducible assumption) | exact pj9 (by with_reducible assumption) | exact pj10 (by with_reducible assumption) | exact pj11 (by with_reducible assumption) | exact pj12 (by with_reducible assumption) | exact pj13 (by with_reducible assumption) | exact pj14 (by with_reducible assumption) | exact pj15 (by with_reducible assumption) | exact pj16 (by with_reducible assumption) | exact pj17 (by with_reducible assumption) | exact pj18 (by with_reducible assumption) | exact pj19 (by with_reducible assumption) | exact pj20 (by with_reducible assumption) | exact pj21 (by with_reducible assumption) | exact pj22 (by with_reducible assumption) | exact pj23 (by with_reducible assumption) | exact pj24 (by with_reducible assumption)
  k_with "pj2" => first | exact ltR (by k_extra "lt") | exact ltL (k := 4) (by k_extra "lt") (Nat.le_of_ble_eq_true rfl) | exact ltLR (k := 4) (by k_extra "lt") (Nat.le_of_ble_eq_true rfl) | exact ltR (by k_extra "pj") | exact ltL (k := 4) (by k_extra "pj") (Nat.le_of_ble_eq_true rfl) | exact ltLR (k := 4) (by k_extra "pj") (Nat.le_of_ble_eq_true rfl)
  k_with "lt" => first | with_reducible assumption | exact ltOf (by with_reducible assumption) (by k_mem)
  k_with "k_ne" => (refine neN ?_; (try dsimp only); first | exact neK rfl | exact neK0 rfl | exact neK1 rfl | exact Nat.ne_of_lt (by k_extra "lt") | exact Nat.ne_of_gt (by k_extra "lt") | exact Nat.ne_of_lt (by k_extra "pj") | exact Nat.ne_of_gt (by k_extra "pj") | exact Nat.ne_of_lt (by k_extra "pj2") | exact Nat.ne_of_gt (by k_extra "pj2") | k_extra "pj" | k_extra "pq" | exact Ne.symm (by k_extra "pj") | omega)
  k_with "mb" => first | with_reducible exact incM | with_reducible assumption | (with_reducible refine incMT ?_; k_extra "mb") | (with_reducible refine incML ?_; k_extra "mb") | (with_reducible refine incMR ?_; k_extra "mb")
  k_with "sbl" => first | with_reducible exact incI | (with_reducible refine incT ?_; k_extra "sbl") | (with_reducible refine incL ?_; k_extra "sbl") | (with_reducible refine incR ?_; k_extra "sbl")
  k_with "sb" => first | with_reducible exact incI | with_reducible exact incN | (with_reducible refine' incC ?m9 ?r9; (case m9 => k_extra "mb"); (case r9 => k_extra "sb")) | (k_extra "sbl") | (with_reducible refine incA ?_ ?_ <;> k_extra "sb")
  k_with "mg" => first | with_reducible exact List.mem_cons_self | (with_reducible refine List.mem_cons_of_mem _ ?_; k_extra "mg")
  k_with "ne1" => first | exact h1 | exact neP h2 (by k_extra "mg") | exact neC h3 (by k_extra "mg") | fail "ne1"
  k_with "nc" => with_reducible first | exact h3 | exact ncN | (refine' ncC ?b9 ?q9; (case b9 => k_extra "ne1"); (case q9 => k_extra "nc")) | fail "nc"
  k_with "sm" => with_reducible first | rfl | (refine' sm1 ?a9 ?r9; (case a9 => k_extra "ne1"); (case r9 => k_extra "sm")) | (refine' sm2 ?h9 ?r9; (case h9 => k_extra "nc"); (case r9 => k_extra "sm")) | (refine sm3 h2 ?_; k_extra "sm") | fail "sm"
  k_with "rm" => first | exact ltA0 (by with_reducible assumption) | exact ltA1 (by with_reducible assumption) (Nat.le_of_ble_eq_true rfl) | exact ltA2 (by with_reducible assumption) (Nat.le_of_ble_eq_true rfl) | exact ltA3 (by with_reducible assumption) (Nat.le_of_ble_eq_true rfl)
  k_with "sz" => first | with_reducible assumption | with_reducible exact Nat.le_of_ble_eq_true (Eq.refl true)
  k_with "my call ref" => 
      rename _ = p0 ∨ _ = p1 => eA
      rename p0 ≤ _ ∧ p1 ≤ _ => lA
      rename _ = p2 ∨ _ = p3 => eB
      rename p2 ≤ _ ∧ p3 ≤ _ => lB
      obtain ⟨H, rfl, hH0, hH5, hpa, hpb⟩ := max_nat (n := 5) eA lA hp0 hp1
      obtain ⟨W, rfl, hW0, hW6, hpc, hpd⟩ := max_nat (n := 6) eB lB hp2 hp3
      have hbo := hBo H W ⟨hH0, hH5, hW0, hW6⟩ hpa hpb hpc hpd
      clear eA lA eB lB
      (k_here; k_dflt (refine' CS.use ?C ?B ?F ?X ?N ?T ?K ?D ?U ?_; (case B => k_asm); (case F => k_asm); (case X => k_asm); (case N => k_asm); (case T => k_asm); (case K => first | exact rfl | assumption); (case C => exact board_cs w kl kk0 kk1 (H : Int) (W : Int) tk0 tk1 _ _ nk _ hk00 hk03 hk10 hk13 (by omega) (by omega) (by omega) (by omega) _ (List.mem_cons_of_mem _ (List.mem_cons_of_mem _ (m4 _ mK9))) (bo_cast hbo.1)); (case D => first | k_extra "rm" | omega | (show dp + _ + _ < recursionLimit; omega) | (show dp + _ < recursionLimit; omega) | (show _ + _ < recursionLimit; decide)); (case U => first | k_extra "rm" | omega | (show un + _ + 8 * _ < cLine; omega) | (show un + 8 * _ < cLine; omega) | ktr_units)); intro r9 n9 h9 tk9 F9 N9 p9; obtain ⟨bq, vbq, nbq, Tb, rfl, rfl, hbm, hbR, hbD⟩ := p9; skip; (try dsimp only); (try k_fold))
  repeat' (first | (k_unfold; (try dsimp only)) | (k_end; wrow_close) | ((with_reducible show wpAny _ _ (execs (_ :: _) _) _ _ _); dsimp only; walk1) | walk1 | (dsimp only; walk1) | (leave1; walk_say "STEP leave1"; try dsimp only) | fail "no step")
  all_goals have hsub : ∀ p ∈ T, p ∈ Tb ++ T := fun p hp => List.mem_append.mpr (.inr hp)
  all_goals have hsub2 : ∀ p ∈ Tb, p ∈ Tb ++ T := fun p hp => List.mem_append.mpr (.inl hp)
  all_goals have hT2' : ∀ p ∈ Tb ++ T, p.1 ≠ L + 2 := fun p hp => (List.mem_append.mp hp).elim (fun h => hbD p h (L + 2, oO) (List.mem_cons_of_mem _ (List.mem_cons_of_mem _ List.mem_cons_self))) (hT2 p)
  all_goals (refine SegEnd.intro fun ht9 => ?_; (try dsimp only at ht9); k_dflt (refine' LX.use (hZ bq nbq vbq H W (Tb ++ T) ⟨⟨hH0, hH5, hW0, hW6⟩⟩ (hsub _ mK9) (hsub _ mP9) (hsub2 _ hbm) (RowsAre.mono hsub2 hbR) (hsub _ mC9) (PairsAre.mono hsub hCo) hbo.2 hT2') ?ho ?hr ?T1 ?B ?F ?ps ?X ?N ?T ?D ?U ?_; (skip); (case B => assumption); (case F => k_asm); (case X => assumption); (case ho => k_is); (case N => exact kst_newsOf (by k_asm) (by (first | (with_reducible refine Inc.use ?_; k_extra "sb") | (intro p hp; simp only [List.mem_append, List.mem_cons, List.not_mem_nil, or_false] at hp ⊢; first | (simp only [hp, true_or, or_true]; done) | ((repeat' (refine Or.elim hp ?_ ?_ <;> clear hp <;> intro hp)) <;> simp only [hp, true_or, or_true]))))); (case T => assumption); (case hr => rfl); (case ps => kst_all); (case T1 => first | assumption | omega | (dsimp only; omega) | (with_unfolding_all assumption)); (case D => first | k_extra "rm" | omega); (case U => first | k_extra "rm" | omega); (skip)); all_goals exact fun m' news' h' tk' F9 N9 => hret m' news' h' tk' F9 N9)
end
-- part L8
section
theorem top_off_L8 : True := by
  w_top off
  exact True.intro
theorem heardF (w : World) (k j : Int) (k0 : 0 ≤ k) (k1 : k < 6) (j0 : 0 ≤ j) (j1 : j < 4) (t1 t2 : Tok) (news : List (Addr × Obj)) : CS0 w (hd.heap_39 w.params) 145 4 [.str (Str.ofString "257" ++ quotV k j) t1, .str (Str.ofString "") t2] news (fun r n => (∃ t, r = .str (textV k) t) ∧ n = news) := by
  have hq := quot_is k0 k1 j0 j1
  have s1 : (Str.ofString "257").length = 3 := by decide +kernel
  have h := heard1 w (Str.ofString "257" ++ quotV k j) t1 t2 (by rw [Str.length_append]; omega) (head3 (by decide +kernel) (by rw [Str.length_append]; omega)) (fun _ => by rw [Str.length_append]; omega) news
  rw [hq.1] at h
  exact h
noncomputable def symL (k : Int) : List Int := (symsF (textV k) 21 0).getD []
theorem sym_fin : ∀ k : Fin 6, (symsF (textV (k.val : Int)) 21 0).isSome = true ∧ (textV (k.val : Int)).length ≤ 20 ∧ (symL (k.val : Int)).length ≤ 21 := by decide +kernel
theorem sym_is {k : Int} (k0 : 0 ≤ k) (k1 : k < 6) : SyP (textV k) (symL k) 21 0 [] ∧ (textV k).length ≤ 20 ∧ (symL k).length ≤ 21 := by
  have h := fin6 (P := fun k => (symsF (textV k) 21 0).isSome = true ∧ (textV k).length ≤ 20 ∧ (symL k).length ≤ 21) sym_fin k0 k1
  obtain ⟨l, hl⟩ := Option.isSome_iff_exists.mp h.1
  exact ⟨⟨l, hl, by unfold symL; rw [hl]; rfl⟩, h.2⟩
theorem lx8 (w : World) (L : Addr) (x0 x1 x2 x3 x4 x5 x6 : Int) (k j : Int) (k0 : 0 ≤ k) (k1 : k < 6) (j0 : 0 ≤ j) (j1 : j < 4) (tq : Tok) (q : Addr) (cap : Nat) (us : List Value) (hI : IntsAre us [x0, x1, x2, x3, x4, x5, x6]) (oK oO oC oS : Obj) (vo vc vs : Option Value) (hO : oO.data = .cell vo) (hC : oC.data = .cell vc) (hS : oS.data = .cell vs) (hlt : L + 4 < q)
    (kl pl cl tl : Addr) (nk pn nc nt : Nat) (vcs wv : List Value) (W : Int → Int) (p0 p1 p2 p3 : Int) (tp0 tp1 tp2 tp3 : Tok) (kk0 kk1 : Int) (tk0 tk1 : Tok) (cs : List (Int × Int)) (f : Int) (T : List (Addr × Obj)) (hK : oK.data = .cell (some (.ref kl))) (hk00 : 0 ≤ kk0) (hk03 : kk0 < 3) (hk10 : 0 ≤ kk1) (hk13 : kk1 < 3)
    (hp0 : 1 ≤ p0 ∧ p0 < 5) (hp1 : 1 ≤ p1 ∧ p1 < 5) (hp2 : 1 ≤ p2 ∧ p2 < 6) (hp3 : 1 ≤ p3 ∧ p3 < 6)
    (mK9 : (kl, listOf [Value.int kk0 tk0, .int kk1 tk1].toArray nk) ∈ T) (mP9 : (pl, listOf [Value.int p0 tp0, .int p1 tp1, .int p2 tp2, .int p3 tp3].toArray pn) ∈ T) (mC9 : (cl, listOf vcs.toArray nc) ∈ T) (hCo : PairsAre T vcs cs)
    (hBo : ∀ H W : Nat, 0 < H ∧ H < 5 ∧ 0 < W ∧ W < 6 → p0 ≤ H → p1 ≤ H → p2 ≤ W → p3 ≤ W → boardO kk0 kk1 (W : Int) (H * W) 0 (List.replicate (H + 1) (List.replicate (W + 1) 0)) = some (dueV kk0 kk1 H W) ∧ coinF (dueV kk0 kk1 H W) [p0, p1, p2, p3] cs 0 = some f) (hT2 : ∀ p ∈ T, p.1 ≠ L + 2)
    (mT9 : (tl, listOf wv.toArray nt) ∈ T) (hW : ∀ i : Int, 0 ≤ W i ∧ W i < 16) (hwv : ∀ i : Int, 0 ≤ i → i < 4 → ∃ t, wv[i.toNat]? = some (Value.int (W i) t)) (st' : List Int) (hev : evF W 40 true 0 0 (symL k ++ [0]) = some (f, st')) :
    LX w 8 L [(Str.ofString "cells", .ref q), (Str.ofString "quoted", .str (quotV k j) tq), (Str.ofString "places", .ref pl), (Str.ofString "coins", .ref cl), (Str.ofString "told", .ref tl)] ((L + 2, oO) :: (q, listOf us.toArray cap) :: (L + 1, oK) :: (L + 3, oC) :: (L + 4, oS) :: T) := by
  have hZ := fun tf => lx9 w L x0 x1 x2 x3 x4 x5 x6 k j k0 k1 j0 j1 tq tf q cap us hI oK oO oC oS vo vc vs hO hC hS hlt kl pl cl nk pn nc vcs p0 p1 p2 p3 tp0 tp1 tp2 tp3 kk0 kk1 tk0 tk1 cs f T hK hk00 hk03 hk10 hk13 hp0 hp1 hp2 hp3 mK9 mP9 mC9 hCo hBo hT2
  have hH := fun t1 t2 news => heardF w k j k0 k1 j0 j1 t1 t2 news
  have hql := (quot_is k0 k1 j0 j1).2.1
  have hSy := sym_is k0 k1
  clear hBo
  generalize quotV k j = qv at hZ hH hql ⊢
  generalize textV k = tx at hH hSy
  generalize symL k = full at hSy hev
  have m4 : ∀ p ∈ T, p ∈ (L + 2, oO) :: (q, listOf us.toArray cap) :: (L + 1, oK) :: (L + 3, oC) :: (L + 4, oS) :: T := fun p hp => List.mem_cons_of_mem _ (List.mem_cons_of_mem _ (List.mem_cons_of_mem _ (List.mem_cons_of_mem _ (List.mem_cons_of_mem _ hp))))
  unfold LX
  k_fill
  refine' fnAt_of ?k6 ?_
  case k6 => k_is
  intro mean mg mb dp un gd a ccd A₀ base s m₀ Q htok B' F9 X' N' T' hd hu hret
  have hk : ScopeKind.function = ScopeKind.function := rfl
  have XB := X'
  have TB := T'
  dsimp only [List.drop]
  dsimp only [kstB] at F9
  refine seg_toks (l1 := [_]) htok ?_
  (try k_fold)
  k_with_none
  k_with "k_mem" => first | exact (by with_reducible assumption) | exact (List.mem_cons_of_mem _ (by with_reducible assumption)) | exact (List.mem_cons_of_mem _ (List.mem_cons_of_mem _ (by with_reducible assumption))) | exact (List.mem_cons_of_mem _ (List.mem_cons_of_mem _ (List.mem_cons_of_mem _ (by with_reducible assumption)))) | exact (List.mem_cons_of_mem _ (List.mem_cons_of_mem _ (List.mem_cons_of_mem _ (List.mem_cons_of_mem _ (by with_reducible assumption)))))
  k_with "pj" => first | with_reducible assumption | exact pj0 (by with_reducible assumption) | exact pj1 (by with_reducible assumption) | exact pj2 (by with_reducible assumption) | exact pj3 (by with_reducible assumption) | exact pj4 (by with_reducible assumption) | exact pj5 (by with_reducible assumption) | exact pj6 (by with_reducible assumption) | exact pj7 (by with_reducible assumption) | exact pj8 (by with_reducible assumption) | exact pj9 (by with_reducible assumption) | exact pj10 (by with_reducible assumption) | exact pj11 (by with_reducible assumption) | exact pj12 (by with_reducible assumption) | exact pj13 (by with_reducible assumption) | exact pj14 (by with_reducible assumption) | exact pj15 (by with_reducible assumption) | exact pj16 (by with_reducible assumption) | exact pj17 (by with_reducible assumption) | exact pj18 (by with_reducible assumption) | exact pj19 (by with_reducible assumption) | exact pj20 (by with_reducible assumption) | exact pj21 (by with_reducible assumption) | exact pj22 (by with_reducible assumption) | exact pj23 (by with_reducible assumption) | exact pj24 (by with_reducible assumption)
  k_with "pj2" => first | exact ltR (by k_extra "lt") | exact ltL (k := 4) (by k_extra "lt") (Nat.le_of_ble_eq_true rfl) | exact ltLR (k := 4) (by k_extra "lt") (Nat.le_of_ble_eq_true rfl) | exact ltR (by k_extra "pj") | exact ltL (k := 4) (by k_extra "pj") (Nat.le_of_ble_eq_true rfl) | exact ltLR (k := 4) (by k_extra "pj") (Nat.le_of_ble_eq_true rfl)
  k_with "lt" => first | with_reducible assumption | exact ltOf (by with_reducible assumption) (by k_mem)
  k_with "k_ne" => (refine neN ?_; (try dsimp only); first | exact neK rfl | exact neK0 rfl | exact neK1 rfl | exact Nat.ne_of_lt (by k_extra "lt") | exact Nat.ne_of_gt (by k_extra "lt") | exact Nat.ne_of_lt (by k_extra "pj") | exact Nat.ne_of_gt (by k_extra "pj") | exact Nat.ne_of_lt (by k_extra "pj2") | exact Nat.ne_of_gt (by k_extra "pj2") | k_extra "pj" | k_extra "pq" | exact Ne.symm (by k_extra "pj") | omega)
  k_with "mb" => first | with_reducible exact incM | with_reducible assumption | (with_reducible refine incMT ?_; k_extra "mb") | (with_reducible refine incML ?_; k_extra "mb") | (with_reducible refine incMR ?_; k_extra "mb")
  k_with "sbl" => first | with_reducible exact incI | (with_reducible refine incT ?_; k_extra "sbl") | (with_reducible refine incL ?_; k_extra "sbl") | (with_reducible refine incR ?_; k_extra "sbl")
  k_with "sb" => first | with_reducible exact incI | with_reducible exact incN | (with_reducible refine' incC ?m9 ?r9; (case m9 => k_extra "mb"); (case r9 => k_extra "sb")) | (k_extra "sbl") | (with_reducible refine incA ?_ ?_ <;> k_extra "sb")
  k_with "mg" => first | with_reducible exact List.mem_cons_self | (with_reducible refine List.mem_cons_of_mem _ ?_; k_extra "mg")
  k_with "ne1" => first | exact h1 | exact neP h2 (by k_extra "mg") | exact neC h3 (by k_extra "mg") | fail "ne1"
  k_with "nc" => with_reducible first | exact h3 | exact ncN | (refine' ncC ?b9 ?q9; (case b9 => k_extra "ne1"); (case q9 => k_extra "nc")) | fail "nc"
  k_with "sm" => with_reducible first | rfl | (refine' sm1 ?a9 ?r9; (case a9 => k_extra "ne1"); (case r9 => k_extra "sm")) | (refine' sm2 ?h9 ?r9; (case h9 => k_extra "nc"); (case r9 => k_extra "sm")) | (refine sm3 h2 ?_; k_extra "sm") | fail "sm"
  k_with "rm" => first | exact ltA0 (by with_reducible assumption) | exact ltA1 (by with_reducible assumption) (Nat.le_of_ble_eq_true rfl) | exact ltA2 (by with_reducible assumption) (Nat.le_of_ble_eq_true rfl) | exact ltA3 (by with_reducible assumption) (Nat.le_of_ble_eq_true rfl)
  k_with "sz" => first | with_reducible assumption | with_reducible exact Nat.le_of_ble_eq_true (Eq.refl true)
  k_with "my call ref" => first
    | (k_here; k_dflt (refine' CS0.use ?C ?B ?F ?X ?XB ?TB ?N ?T ?K ?D ?U ?_; (case B => k_asm); (case F => k_asm); (case X => assumption); (case XB => assumption); (case TB => assumption); (case N => k_asm); (case T => assumption); (case K => first | exact rfl | assumption); (case C => exact hH _ _ _); (case D => first | k_extra "rm" | omega); (case U => first | k_extra "rm" | omega)); intro r9 n9 h9 tk9 F9 N9 p9; obtain ⟨⟨t9, rfl⟩, rfl⟩ := p9; skip; (try dsimp only); (try k_fold))
    | (k_here; k_dflt (refine' CS.use ?C ?B ?F ?X ?N ?T ?K ?D ?U ?_; (case B => k_asm); (case F => k_asm); (case X => k_asm); (case N => k_asm); (case T => k_asm); (case K => first | exact rfl | assumption); (case C => exact syms_cs w tx _ full hSy.1 hSy.2.1 _); (case D => first | k_extra "rm" | omega | (show dp + _ + _ < recursionLimit; omega) | (show dp + _ < recursionLimit; omega) | (show _ + _ < recursionLimit; decide)); (case U => first | k_extra "rm" | omega | (show un + _ + 8 * _ < cLine; omega) | (show un + 8 * _ < cLine; omega) | ktr_units)); intro r9 n9 h9 tk9 F9 N9 p9; obtain ⟨sq, sus, sc, rfl, rfl, hsI, hsl⟩ := p9; skip; (try dsimp only); (try k_fold))
    | (have hsn : sus.length ≤ 100 := by rw [hsI.length, List.length_reverse, List.length_append]; have := hSy.2.2; simp only [List.length_cons, List.length_nil]; omega
       (k_here; k_dflt (refine' CS.use ?C ?B ?F ?X ?N ?T ?K ?D ?U ?_; (case B => k_asm); (case F => k_asm); (case X => k_asm); (case N => k_asm); (case T => k_asm); (case K => first | exact rfl | assumption); (case C => exact worked_all w W hW sq tl wv nt hwv 40 40 (Nat.le_refl _) 0 (full ++ [0]) st' f sus sc _ _ hev (by decide) (by decide) hsI hsn (m4 _ mT9) (fun p hp => Nat.ne_of_lt (hsl p hp))); (case D => first | k_extra "rm" | omega | (show dp + _ + _ < recursionLimit; omega) | (show dp + _ < recursionLimit; omega) | (show _ + _ < recursionLimit; decide)); (case U => first | k_extra "rm" | omega | (show un + _ + 8 * _ < cLine; omega) | (show un + 8 * _ < cLine; omega) | ktr_units)); intro r9 n9 h9 tk9 F9 N9 p9; obtain ⟨t9, us9, cap9, rfl, rfl, _⟩ := p9; skip; (try dsimp only); (try k_fold)))
  repeat' (first | (k_unfold; (try dsimp only)) | (k_end; wrow_close) | ((with_reducible show wpAny _ _ (execs (_ :: _) _) _ _ _); dsimp only; walk1) | walk1 | (dsimp only; walk1) | (leave1; walk_say "STEP leave1"; try dsimp only) | fail "no step")
  all_goals (refine SegEnd.intro fun ht9 => ?_; (try dsimp only at ht9); k_dflt (refine' LX.use (hZ _) ?ho ?hr ?T1 ?B ?F ?ps ?X ?N ?T ?D ?U ?_; (skip); (case B => assumption); (case F => k_asm); (case X => assumption); (case ho => k_is); (case N => exact kst_newsOf (by k_asm) (by (first | (with_reducible refine Inc.use ?_; k_extra "sb") | (intro p hp; simp only [List.mem_append, List.mem_cons, List.not_mem_nil, or_false] at hp ⊢; first | (simp only [hp, true_or, or_true]; done) | ((repeat' (refine Or.elim hp ?_ ?_ <;> clear hp <;> intro hp)) <;> simp only [hp, true_or, or_true]))))); (case T => assumption); (case hr => rfl); (case ps => kst_all); (case T1 => first | assumption | omega | (dsimp only; omega) | (with_unfolding_all assumption)); (case D => first | k_extra "rm" | omega); (case U => first | k_extra "rm" | omega); (skip)); all_goals exact fun m' news' h' tk' F9 N9 => hret m' news' h' tk' F9 N9)
end
-- part L7
section
theorem top_off_L7 : True := by
  w_top off
  exact True.intro
theorem lx7 (w : World) (L : Addr) (x0 x1 x2 x3 x4 x5 x6 : Int) (k j : Int) (k0 : 0 ≤ k) (k1 : k < 6) (j0 : 0 ≤ j) (j1 : j < 4) (tx te : Tok) (q : Addr) (cap : Nat) (us : List Value) (hI : IntsAre us [x0, x1, x2, x3, x4, x5, x6]) (oK oO oC oS : Obj) (vo vc vs : Option Value) (hO : oO.data = .cell vo) (hC : oC.data = .cell vc) (hS : oS.data = .cell vs) (hlt : L + 4 < q)
    (kl pl cl tl : Addr) (nk pn nc nt : Nat) (vcs wv : List Value) (W : Int → Int) (p0 p1 p2 p3 : Int) (tp0 tp1 tp2 tp3 : Tok) (kk0 kk1 : Int) (tk0 tk1 : Tok) (cs : List (Int × Int)) (f : Int) (T : List (Addr × Obj)) (hK : oK.data = .cell (some (.ref kl))) (hk00 : 0 ≤ kk0) (hk03 : kk0 < 3) (hk10 : 0 ≤ kk1) (hk13 : kk1 < 3)
    (hp0 : 1 ≤ p0 ∧ p0 < 5) (hp1 : 1 ≤ p1 ∧ p1 < 5) (hp2 : 1 ≤ p2 ∧ p2 < 6) (hp3 : 1 ≤ p3 ∧ p3 < 6)
    (mK9 : (kl, listOf [Value.int kk0 tk0, .int kk1 tk1].toArray nk) ∈ T) (mP9 : (pl, listOf [Value.int p0 tp0, .int p1 tp1, .int p2 tp2, .int p3 tp3].toArray pn) ∈ T) (mC9 : (cl, listOf vcs.toArray nc) ∈ T) (hCo : PairsAre T vcs cs)
    (hBo : ∀ H W : Nat, 0 < H ∧ H < 5 ∧ 0 < W ∧ W < 6 → p0 ≤ H → p1 ≤ H → p2 ≤ W → p3 ≤ W → boardO kk0 kk1 (W : Int) (H * W) 0 (List.replicate (H + 1) (List.replicate (W + 1) 0)) = some (dueV kk0 kk1 H W) ∧ coinF (dueV kk0 kk1 H W) [p0, p1, p2, p3] cs 0 = some f) (hT2 : ∀ p ∈ T, p.1 ≠ L + 2)
    (mT9 : (tl, listOf wv.toArray nt) ∈ T) (hW : ∀ i : Int, 0 ≤ W i ∧ W i < 16) (hwv : ∀ i : Int, 0 ≤ i → i < 4 → ∃ t, wv[i.toNat]? = some (Value.int (W i) t)) (st' : List Int) (hev : evF W 40 true 0 0 (symL k ++ [0]) = some (f, st')) :
    LX w 7 L [(Str.ofString "cells", .ref q), (Str.ofString "text", .str (textV k) tx), (Str.ofString "end", .str (endT j) te), (Str.ofString "places", .ref pl), (Str.ofString "coins", .ref cl), (Str.ofString "told", .ref tl)] ((L + 2, oO) :: (q, listOf us.toArray cap) :: (L + 1, oK) :: (L + 3, oC) :: (L + 4, oS) :: T) := by
  have hZ := fun tq => lx8 w L x0 x1 x2 x3 x4 x5 x6 k j k0 k1 j0 j1 tq q cap us hI oK oO oC oS vo vc vs hO hC hS hlt kl pl cl tl nk pn nc nt vcs wv W p0 p1 p2 p3 tp0 tp1 tp2 tp3 kk0 kk1 tk0 tk1 cs f T hK hk00 hk03 hk10 hk13 hp0 hp1 hp2 hp3 mK9 mP9 mC9 hCo hBo hT2 mT9 hW hwv st' hev
  have hql := (quot_is k0 k1 j0 j1).2.1
  have hSy := (sym_is k0 k1).2.1
  clear hBo
  unfold quotV at hZ hql
  simp only [Str.length_append] at hql
  have s1 : (Str.ofString " \"").length = 2 := by decide +kernel
  generalize textV k = tx at hZ hql hSy ⊢
  generalize endT j = te at hZ hql ⊢
  unfold LX
  k_fill
  refine' fnAt_of ?k6 ?_
  case k6 => k_is
  intro mean mg mb dp un gd a ccd A₀ base s m₀ Q htok B' F9 X' N' T' hd hu hret
  have hk : ScopeKind.function = ScopeKind.function := rfl
  have XB := X'
  have TB := T'
  dsimp only [List.drop]
  dsimp only [kstB] at F9
  refine seg_toks (l1 := [_]) htok ?_
  (try k_fold)
  k_with_none
  k_with "k_mem" => first | exact (by with_reducible assumption) | exact (List.mem_cons_of_mem _ (by with_reducible assumption)) | exact (List.mem_cons_of_mem _ (List.mem_cons_of_mem _ (by with_reducible assumption))) | exact (List.mem_cons_of_mem _ (List.mem_cons_of_mem _ (List.mem_cons_of_mem _ (by with_reducible assumption)))) | exact (List.mem_cons_of_mem _ (List.mem_cons_of_mem _ (List.mem_cons_of_mem _ (List.mem_cons_of_mem _ (by with_reducible assumption)))))
  k_with "pj" => first | with_reducible assumption | exact pj0 (by with_reducible assumption) | exact pj1 (by with_reducible assumption) | exact pj2 (by with_reducible assumption) | exact pj3 (by with_reducible assumption) | exact pj4 (by with_reducible assumption) | exact pj5 (by with_reducible assumption) | exact pj6 (by with_reducible assumption) | exact pj7 (by with_reducible assumption) | exact pj8 (by with_reducible assumption) | exact pj9 (by with_reducible assumption) | exact pj10 (by with_reducible assumption) | exact pj11 (by with_reducible assumption) | exact pj12 (by with_reducible assumption) | exact pj13 (by with_reducible assumption) | exact pj14 (by with_reducible assumption) | exact pj15 (by with_reducible assumption) | exact pj16 (by with_reducible assumption) | exact pj17 (by with_reducible assumption) | exact pj18 (by with_reducible assumption) | exact pj19 (by with_reducible assumption) | exact pj20 (by with_reducible assumption) | exact pj21 (by with_reducible assumption) | exact pj22 (by with_reducible assumption) | exact pj23 (by with_reducible assumption) | exact pj24 (by with_reducible assumption)
  k_with "pj2" => first | exact ltR (by k_extra "lt") | exact ltL (k := 4) (by k_extra "lt") (Nat.le_of_ble_eq_true rfl) | exact ltLR (k := 4) (by k_extra "lt") (Nat.le_of_ble_eq_true rfl) | exact ltR (by k_extra "pj") | exact ltL (k := 4) (by k_extra "pj") (Nat.le_of_ble_eq_true rfl) | exact ltLR (k := 4) (by k_extra "pj") (Nat.le_of_ble_eq_true rfl)
  k_with "lt" => first | with_reducible assumption | exact ltOf (by with_reducible assumption) (by k_mem)
  k_with "k_ne" => (refine neN ?_; (try dsimp only); first | exact neK rfl | exact neK0 rfl | exact neK1 rfl | exact Nat.ne_of_lt (by k_extra "lt") | exact Nat.ne_of_gt (by k_extra "lt") | exact Nat.ne_of_lt (by k_extra "pj") | exact Nat.ne_of_gt (by k_extra "pj") | exact Nat.ne_of_lt (by k_extra "pj2") | exact Nat.ne_of_gt (by k_extra "pj2") | k_extra "pj" | k_extra "pq" | exact Ne.symm (by k_extra "pj") | omega)
  k_with "mb" => first | with_reducible exact incM | with_reducible assumption | (with_reducible refine incMT ?_; k_extra "mb") | (with_reducible refine incML ?_; k_extra "mb") | (with_reducible refine incMR ?_; k_extra "mb")
  k_with "sbl" => first | with_reducible exact incI | (with_reducible refine incT ?_; k_extra "sbl") | (with_reducible refine incL ?_; k_extra "sbl") | (with_reducible refine incR ?_; k_extra "sbl")
  k_with "sb" => first | with_reducible exact incI | with_reducible exact incN | (with_reducible refine' incC ?m9 ?r9; (case m9 => k_extra "mb"); (case r9 => k_extra "sb")) | (k_extra "sbl") | (with_reducible refine incA ?_ ?_ <;> k_extra "sb")
  k_with "mg" => first | with_reducible exact List.mem_cons_self | (with_reducible refine List.mem_cons_of_mem _ ?_; k_extra "mg")
  k_with "ne1" => first | exact h1 | exact neP h2 (by k_extra "mg") | exact neC h3 (by k_extra "mg") | fail "ne1"
  k_with "nc" => with_reducible first | exact h3 | exact ncN | (refine' ncC ?b9 ?q9; (case b9 => k_extra "ne1"); (case q9 => k_extra "nc")) | fail "nc"
  k_with "sm" => with_reducible first | rfl | (refine' sm1 ?a9 ?r9; (case a9 => k_extra "ne1"); (case r9 => k_extra "sm")) | (refine' sm2 ?h9 ?r9; (case h9 => k_extra "nc"); (case r9 => k_extra "sm")) | (refine sm3 h2 ?_; k_extra "sm") | fail "sm"
  k_with "rm" => first | exact ltA0 (by with_reducible assumption) | exact ltA1 (by with_reducible assumption) (Nat.le_of_ble_eq_true rfl) | exact ltA2 (by with_reducible assumption) (Nat.le_of_ble_eq_true rfl) | exact ltA3 (by with_reducible assumption) (Nat.le_of_ble_eq_true rfl)
  k_with "sz" => first | with_reducible assumption | with_reducible exact Nat.le_of_ble_eq_true (Eq.refl true)
  k_with "my call builtin:str.replace" => (k_here;  (k_dflt (refine SC.replaceW (by show @Ne Nat _ _; (try dsimp only); omega) (by show @Ne Nat _ _; (try dsimp only); omega) (by show @Ne Nat _ _; (try dsimp only); omega) (by decide +kernel) (by omega) (by decide +kernel) ?_)); intro _ _; (try dsimp only))
  repeat' (first | (k_unfold; (try dsimp only)) | (k_end; wrow_close) | ((with_reducible show wpAny _ _ (execs (_ :: _) _) _ _ _); dsimp only; walk1) | walk1 | (dsimp only; walk1) | (leave1; walk_say "STEP leave1"; try dsimp only) | fail "no step")
  all_goals (refine SegEnd.intro fun ht9 => ?_; (try dsimp only at ht9); k_dflt (refine' LX.use (hZ _) ?ho ?hr ?T1 ?B ?F ?ps ?X ?N ?T ?D ?U ?_; (skip); (case B => assumption); (case F => k_asm); (case X => assumption); (case ho => k_is); (case N => exact kst_newsOf (by k_asm) (by (first | (with_reducible refine Inc.use ?_; k_extra "sb") | (intro p hp; simp only [List.mem_append, List.mem_cons, List.not_mem_nil, or_false] at hp ⊢; first | (simp only [hp, true_or, or_true]; done) | ((repeat' (refine Or.elim hp ?_ ?_ <;> clear hp <;> intro hp)) <;> simp only [hp, true_or, or_true]))))); (case T => assumption); (case hr => rfl); (case ps => kst_all); (case T1 => first | assumption | omega | (dsimp only; omega) | (with_unfolding_all assumption)); (case D => first | k_extra "rm" | omega); (case U => first | k_extra "rm" | omega); (skip)); all_goals exact fun m' news' h' tk' F9 N9 => hret m' news' h' tk' F9 N9)
end
-- part L6
section
theorem top_off_L6 : True := by
  w_top off
  exact True.intro
theorem lx6 (w : World) (L : Addr) (x0 x1 x2 x3 x4 x5 x6 : Int) (j : Int) (j0 : 0 ≤ j) (j1 : j < 4) (te : Tok) (q : Addr) (cap : Nat) (us : List Value) (hI : IntsAre us [x0, x1, x2, x3, x4, x5, x6]) (oK oO oC oS : Obj) (vo vc vs : Option Value) (hO : oO.data = .cell vo) (hC : oC.data = .cell vc) (hS : oS.data = .cell vs) (hlt : L + 4 < q)
    (kl pl tl : Addr) (nk pn nt : Nat) (wv : List Value) (W : Int → Int) (p0 p1 p2 p3 : Int) (tp0 tp1 tp2 tp3 : Tok) (kk0 kk1 : Int) (tk0 tk1 : Tok) (f : Int) (T : List (Addr × Obj)) (hK : oK.data = .cell (some (.ref kl))) (hk00 : 0 ≤ kk0) (hk03 : kk0 < 3) (hk10 : 0 ≤ kk1) (hk13 : kk1 < 3)
    (hp0 : 1 ≤ p0 ∧ p0 < 5) (hp1 : 1 ≤ p1 ∧ p1 < 5) (hp2 : 1 ≤ p2 ∧ p2 < 6) (hp3 : 1 ≤ p3 ∧ p3 < 6)
    (mK9 : (kl, listOf [Value.int kk0 tk0, .int kk1 tk1].toArray nk) ∈ T) (mP9 : (pl, listOf [Value.int p0 tp0, .int p1 tp1, .int p2 tp2, .int p3 tp3].toArray pn) ∈ T)
    (hBo : ∀ H W : Nat, 0 < H ∧ H < 5 ∧ 0 < W ∧ W < 6 → p0 ≤ H → p1 ≤ H → p2 ≤ W → p3 ≤ W → boardO kk0 kk1 (W : Int) (H * W) 0 (List.replicate (H + 1) (List.replicate (W + 1) 0)) = some (dueV kk0 kk1 H W) ∧ coinF (dueV kk0 kk1 H W) [p0, p1, p2, p3] (coinsV (x5.fmod 6)) 0 = some f) (hT2 : ∀ p ∈ T, p.1 ≠ L + 2)
    (mT9 : (tl, listOf wv.toArray nt) ∈ T) (hW : ∀ i : Int, 0 ≤ W i ∧ W i < 16) (hwv : ∀ i : Int, 0 ≤ i → i < 4 → ∃ t, wv[i.toNat]? = some (Value.int (W i) t)) (st' : List Int) (hev : evF W 40 true 0 0 (symL (x5.fmod 6) ++ [0]) = some (f, st')) :
    LX w 6 L [(Str.ofString "cells", .ref q), (Str.ofString "end", .str (endT j) te), (Str.ofString "places", .ref pl), (Str.ofString "told", .ref tl)] ((L + 2, oO) :: (q, listOf us.toArray cap) :: (L + 1, oK) :: (L + 3, oC) :: (L + 4, oS) :: T) := by
  have hZ := fun cl nc vcs tx T' m1 m2 m3 m4 m5 m6 => lx7 w L x0 x1 x2 x3 x4 x5 x6 (x5.fmod 6) j (fm_lo _ (by decide)) (fm_hi _ (by decide)) j0 j1 tx te q cap us hI oK oO oC oS vo vc vs hO hC hS hlt kl pl cl tl nk pn nc nt vcs wv W p0 p1 p2 p3 tp0 tp1 tp2 tp3 kk0 kk1 tk0 tk1 (coinsV (x5.fmod 6)) f T' hK hk00 hk03 hk10 hk13 hp0 hp1 hp2 hp3 m1 m2 m3 m4 hBo m5 m6 hW hwv st' hev
  clear hBo hev
  obtain ⟨t5, h5⟩ := ints_get2 hI (i := 5) (x := x5) rfl
  have m4 : ∀ p ∈ T, p ∈ (L + 2, oO) :: (q, listOf us.toArray cap) :: (L + 1, oK) :: (L + 3, oC) :: (L + 4, oS) :: T := fun p hp => List.mem_cons_of_mem _ (List.mem_cons_of_mem _ (List.mem_cons_of_mem _ (List.mem_cons_of_mem _ (List.mem_cons_of_mem _ hp))))
  have hS9 := shape_cs w (x5.fmod 6)
  have hf0 := fm_lo x5 (m := 6) (by decide)
  have hf1 := fm_hi x5 (m := 6) (by decide)
  generalize endT j = te at hZ ⊢
  generalize coinsV (x5.fmod 6) = cs at hZ hS9 ⊢
  generalize textV (x5.fmod 6) = tx at hZ hS9 ⊢
  unfold LX
  k_fill
  refine' fnAt_of ?k6 ?_
  case k6 => k_is
  intro mean mg mb dp un gd a ccd A₀ base s m₀ Q htok B' F9 X' N' T' hd hu hret
  have hk : ScopeKind.function = ScopeKind.function := rfl
  have XB := X'
  have TB := T'
  dsimp only [List.drop]
  dsimp only [kstB] at F9
  refine seg_toks (l1 := [_]) htok ?_
  (try k_fold)
  k_with_none
  k_with "k_mem" => first | exact (by with_reducible assumption) | exact (List.mem_cons_of_mem _ (by with_reducible assumption)) | exact (List.mem_cons_of_mem _ (List.mem_cons_of_mem _ (by with_reducible assumption))) | exact (List.mem_cons_of_mem _ (List.mem_cons_of_mem _ (List.mem_cons_of_mem _ (by with_reducible assumption)))) | exact (List.mem_cons_of_mem _ (List.mem_cons_of_mem _ (List.mem_cons_of_mem _ (List.mem_cons_of_mem _ (by with_reducible assumption)))))
  k_with "pj" => first | with_reducible assumption | exact pj0 (by with_reducible assumption) | exact pj1 (by with_reducible assumption) | exact pj2 (by with_reducible assumption) | exact pj3 (by with_reducible assumption) | exact pj4 (by with_reducible assumption) | exact pj5 (by with_reducible assumption) | exact pj6 (by with_reducible assumption) | exact pj7 (by with_reducible assumption) | exact pj8 (by with_reducible assumption) | exact pj9 (by with_reducible assumption) | exact pj10 (by with_reducible assumption) | exact pj11 (by with_reducible assumption) | exact pj12 (by with_reducible assumption) | exact pj13 (by with_reducible assumption) | exact pj14 (by with_reducible assumption) | exact pj15 (by with_reducible assumption) | exact pj16 (by with_reducible assumption) | exact pj17 (by with_reducible assumption) | exact pj18 (by with_reducible assumption) | exact pj19 (by with_reducible assumption) | exact pj20 (by with_reducible assumption) | exact pj21 (by with_reducible assumption) | exact pj22 (by with_reducible assumption) | exact pj23 (by with_reducible assumption) | exact pj24 (by with_reducible assumption)
  k_with "pj2" => first | exact ltR (by k_extra "lt") | exact ltL (k := 4) (by k_extra "lt") (Nat.le_of_ble_eq_true rfl) | exact ltLR (k := 4) (by k_extra "lt") (Nat.le_of_ble_eq_true rfl) | exact ltR (by k_extra "pj") | exact ltL (k := 4) (by k_extra "pj") (Nat.le_of_ble_eq_true rfl) | exact ltLR (k := 4) (by k_extra "pj") (Nat.le_of_ble_eq_true rfl)
  k_with "lt" => first | with_reducible assumption | exact ltOf (by with_reducible assumption) (by k_mem)
  k_with "k_ne" => (refine neN ?_; (try dsimp only); first | exact neK rfl | exact neK0 rfl | exact neK1 rfl | exact Nat.ne_of_lt (by k_extra "lt") | exact Nat.ne_of_gt (by k_extra "lt") | exact Nat.ne_of_lt (by k_extra "pj") | exact Nat.ne_of_gt (by k_extra "pj") | exact Nat.ne_of_lt (by k_extra "pj2") | exact Nat.ne_of_gt (by k_extra "pj2") | k_extra "pj" | k_extra "pq" | exact Ne.symm (by k_extra "pj") | omega)
  k_with "mb" => first | with_reducible exact incM | with_reducible assumption | (with_reducible refine incMT ?_; k_extra "mb") | (with_reducible refine incML ?_; k_extra "mb") | (with_reducible refine incMR ?_; k_extra "mb")
  k_with "sbl" => first | with_reducible exact incI | (with_reducible refine incT ?_; k_extra "sbl") | (with_reducible refine incL ?_; k_extra "sbl") | (with_reducible refine incR ?_; k_extra "sbl")
  k_with "sb" => first | with_reducible exact incI | with_reducible exact incN | (with_reducible refine' incC ?m9 ?r9; (case m9 => k_extra "mb"); (case r9 => k_extra "sb")) | (k_extra "sbl") | (with_reducible refine incA ?_ ?_ <;> k_extra "sb")
  k_with "mg" => first | with_reducible exact List.mem_cons_self | (with_reducible refine List.mem_cons_of_mem _ ?_; k_extra "mg")
  k_with "ne1" => first | exact h1 | exact neP h2 (by k_extra "mg") | exact neC h3 (by k_extra "mg") | fail "ne1"
  k_with "nc" => with_reducible first | exact h3 | exact ncN | (refine' ncC ?b9 ?q9; (case b9 => k_extra "ne1"); (case q9 => k_extra "nc")) | fail "nc"
  k_with "sm" => with_reducible first | rfl | (refine' sm1 ?a9 ?r9; (case a9 => k_extra "ne1"); (case r9 => k_extra "sm")) | (refine' sm2 ?h9 ?r9; (case h9 => k_extra "nc"); (case r9 => k_extra "sm")) | (refine sm3 h2 ?_; k_extra "sm") | fail "sm"
  k_with "rm" => first | exact ltA0 (by with_reducible assumption) | exact ltA1 (by with_reducible assumption) (Nat.le_of_ble_eq_true rfl) | exact ltA2 (by with_reducible assumption) (Nat.le_of_ble_eq_true rfl) | exact ltA3 (by with_reducible assumption) (Nat.le_of_ble_eq_true rfl)
  k_with "sz" => first | with_reducible assumption | with_reducible exact Nat.le_of_ble_eq_true (Eq.refl true)
  k_with "my subscriptTail" => (k_here; k_dflt (refine' pick_item (by k_asm) (by exact List.mem_cons_of_mem _ List.mem_cons_self) (by decide) (by decide) h5 ?_))
  k_with "my call ref" => ((k_here; k_dflt (refine' CS.use ?C ?B ?F ?X ?N ?T ?K ?D ?U ?_; (case B => k_asm); (case F => k_asm); (case X => k_asm); (case N => k_asm); (case T => k_asm); (case K => first | exact rfl | assumption); (case C => exact hS9 _ hf0 hf1 _); (case D => first | k_extra "rm" | omega | (show dp + _ + _ < recursionLimit; omega) | (show dp + _ < recursionLimit; omega) | (show _ + _ < recursionLimit; decide)); (case U => first | k_extra "rm" | omega | (show un + _ + 8 * _ < cLine; omega) | (show un + 8 * _ < cLine; omega) | ktr_units)); intro r9 n9 h9 tk9 F9 N9 p9; obtain ⟨tp9, c9, tt9, Tc, nn9, rfl, rfl, ⟨cl, nc, vcs, rfl, hcm, hcP⟩, hcl, _, _⟩ := p9; skip; (try dsimp only); (try k_fold)))
  k_with "my assign Tuple" => (k_here; (k_dflt (refine' unpackN_ ?F ?N ⟨_, News.get (by k_asm) List.mem_cons_self, rfl, _, rfl⟩ ?k1 ?k2 ?k3 ?_; (case F => k_asm); (case N => k_asm); (case k1 => exact rfl); (case k2 => exact rfl); (case k3 => exact rfl))); intro h' F' N'; (try dsimp only); (try k_fold))
  repeat' (first | (k_unfold; (try dsimp only)) | (k_end; wrow_close) | ((with_reducible show wpAny _ _ (execs (_ :: _) _) _ _ _); dsimp only; walk1) | walk1 | (dsimp only; walk1) | (leave1; walk_say "STEP leave1"; try dsimp only) | fail "no step")
  all_goals have hsub : ∀ p ∈ T, p ∈ Tc ++ T := fun p hp => List.mem_append.mpr (.inr hp)
  all_goals have hsub2 : ∀ p ∈ Tc, p ∈ Tc ++ T := fun p hp => List.mem_append.mpr (.inl hp)
  all_goals have hT2' : ∀ p ∈ Tc ++ T, p.1 ≠ L + 2 := fun p hp => (List.mem_append.mp hp).elim (fun h => Nat.ne_of_gt (hcl p h (L + 2, oO) List.mem_cons_self)) (hT2 p)
  all_goals (refine SegEnd.intro fun ht9 => ?_; (try dsimp only at ht9); k_dflt (refine' LX.use (hZ cl nc vcs _ (Tc ++ T) (hsub _ mK9) (hsub _ mP9) (hsub2 _ hcm) (PairsAre.mono hsub2 hcP) hT2' (hsub _ mT9)) ?ho ?hr ?T1 ?B ?F ?ps ?X ?N ?T ?D ?U ?_; (skip); (case B => assumption); (case F => k_asm); (case X => assumption); (case ho => k_is); (case N => exact kst_newsOf (by k_asm) (by (first | (with_reducible refine Inc.use ?_; k_extra "sb") | (intro p hp; simp only [List.mem_append, List.mem_cons, List.not_mem_nil, or_false] at hp ⊢; first | (simp only [hp, true_or, or_true]; done) | ((repeat' (refine Or.elim hp ?_ ?_ <;> clear hp <;> intro hp)) <;> simp only [hp, true_or, or_true]))))); (case T => assumption); (case hr => rfl); (case ps => kst_all); (case T1 => first | assumption | omega | (dsimp only; omega) | (with_unfolding_all assumption)); (case D => first | k_extra "rm" | omega); (case U => first | k_extra "rm" | omega); (skip)); all_goals exact fun m' news' h' tk' F9 N9 => hret m' news' h' tk' F9 N9)
end
-- part Czip
section
theorem top_off_Czip : True := by
  w_top off
  exact True.intro
section
variable {prog : Program} {w : World} {A : Around} {E : Value → Shared → Prop} {s : Shared}
noncomputable def isAsc (h : Heap) (a : Addr) (x : Str) (t : Tok) (i : Nat) : Prop := h.IsStrIter a "str_ascii_iterator" x t i
theorem zips_item {z TI TO i1 i2 l2 : Addr} {x : Str} {t : Tok} {k c : Nat} {ys : Array Value} {y a b : Value} {Q : Option Value → Shared → Prop} (D : ZipApart z TI TO i1 i2 l2 l2)
    (hz : IsZip s.heap z TI TO .none) (hTI : IsPair s.heap TI (.ref i1) (.ref i2)) (hTO : IsPair s.heap TO a b)
    (h1 : s.heap.IsStrIter i1 "str_ascii_iterator" x t k) (h2 : s.heap.IsListIter i2 l2 k) (hl2 : s.heap.IsList l2 ys) (hx : x.cps[k]? = some c) (hy : ys[k]? = some y)
    (hQ : ∀ h' u tk, IsZip h' z TI TO (rawInt s.heap.objs.size) → IsPair h' TO (.str ⟨#[c]⟩ u) y → h'.IsStrIter i1 "str_ascii_iterator" x t (k + 1) → h'.IsListIter i2 l2 (k + 1) → IsPair h' s.heap.objs.size (.str ⟨#[c]⟩ u) y →
      (∀ d o, d ≠ z → d ≠ TO → d ≠ i1 → d ≠ i2 → s.heap.get? d = some o → h'.get? d = some o) → Q (some (.ref s.heap.objs.size)) { s with heap := h', toks := tk }) :
    wpAny (model prog w) A (pyNext (.ref z)) Q E s := by
  have hT : s.TypeIs (.ref z) "zip" := ⟨_, hz, rfl⟩
  unfold pyNext
  refine wpAny_bind (wpAny_attempt (wpAny_callSpecial?_slot (name := Str.ofString "__next__") hT F.slot_zip_next
    (wpAny_call_entry F.slot_zip_next hT F.entry_zip_next ?_ (F.args_zip_next_1 _))))
  show wpAny _ _ (field (.ref z) 2 >>= _) _ _ _
  refine wpAny_bind (wpAny_field hz rfl (x := .bool false) rfl ?_)
  show wpAny _ _ (field (.ref z) 3 >>= _) _ _ _
  refine wpAny_bind (wpAny_field hz rfl (x := .ref TI) rfl ?_)
  refine wpAny_bind (wpAny_seqItems hTI rfl ?_)
  show wpAny _ _ (Builtin.SmallTypes.ownedTupleIsFree (.ref z) >>= _) _ _ _
  refine wpAny_bind ?_
  unfold Builtin.SmallTypes.ownedTupleIsFree
  refine wpAny_bind (wpAny_field hz rfl (x := .none) rfl (wpAny_pure ?_))
  simp only [if_true]
  refine wpAny_bind (wpAny_rule ?_)
  refine wpAny_bind (wpAny_field hz rfl (x := .ref TO) rfl ?_)
  refine wpAny_bind (wpAny_setField_rec hz (by simp) fun h₁ hz₁ hs₁ => ?_)
  replace hz₁ : IsZip h₁ z TI TO .ellipsis := hz₁
  refine wpAny_bind ?_
  simp only [List.zipIdx_cons, List.zipIdx_nil, List.forIn_cons, List.forIn_nil]
  refine wpAny_bind (wpAny_bind (wpAny_onRaise ?_))
  show wpAny _ _ (Builtin.SmallTypes.nextOf (.ref i1) >>= _) _ _ _
  refine wpAny_bind (wpAny_nextOf_ascii_item (h1.extBut hs₁.extBut D.i1z) hx fun h₂ h1₂ hs₂ => wpAny_pure ?_)
  have hTO₂ : IsPair h₂ TO a b := hs₂.extBut _ _ D.TOi1 (hs₁.extBut _ _ D.TOz hTO)
  refine wpAny_bind (wpAny_seqItems hTO₂ rfl ?_)
  refine wpAny_bind (wpAny_updateSeq_pair hTO₂ fun h₃ hTO₃ hs₃ => ?_)
  replace hTO₃ : IsPair h₃ TO _ b := hTO₃
  refine wpAny_bind (wpAny_letGo (wpAny_pure ?_))
  refine wpAny_bind (wpAny_bind (wpAny_onRaise ?_))
  show wpAny _ _ (Builtin.SmallTypes.nextOf (.ref i2) >>= _) _ _ _
  refine wpAny_bind (wpAny_nextOf_list_item (((h2.extBut hs₁.extBut D.i2z).extBut hs₂.extBut D.i12.symm).extBut hs₃.extBut D.TOi2.symm)
    (((hl2.extBut hs₁.extBut D.l2z).extBut hs₂.extBut D.l2i1).extBut hs₃.extBut D.l2TO) hy fun h₄ h2₄ hs₄ => wpAny_pure ?_)
  have hTO₄ : IsPair h₄ TO _ b := hs₄.extBut _ _ D.TOi2 hTO₃
  refine wpAny_bind (wpAny_seqItems hTO₄ rfl ?_)
  refine wpAny_bind (wpAny_updateSeq_pair hTO₄ fun h₅ hTO₅ hs₅ => ?_)
  replace hTO₅ : IsPair h₅ TO _ y := hTO₅
  refine wpAny_bind (wpAny_letGo (wpAny_pure (wpAny_pure ?_)))
  refine wpAny_bind (wpAny_seqItems hTO₅ rfl ?_)
  refine wpAny_bind (wpAny_newTuple ?_)
  have hsz : h₅.objs.size = s.heap.objs.size := by rw [hs₅.1, hs₄.1, hs₃.1, hs₂.1, hs₁.1]
  have hz₅ : IsZip h₅ z TI TO .ellipsis := hs₅.extBut _ _ D.TOz.symm (hs₄.extBut _ _ D.i2z.symm (hs₃.extBut _ _ D.TOz.symm (hs₂.extBut _ _ D.i1z.symm hz₁)))
  have hk₅ : ∀ c o, c ≠ z → c ≠ TO → c ≠ i1 → c ≠ i2 → s.heap.get? c = some o → h₅.get? c = some o := fun c o c1 c2 c3 c4 e =>
    hs₅.extBut _ _ c2 (hs₄.extBut _ _ c4 (hs₃.extBut _ _ c2 (hs₂.extBut _ _ c3 (hs₁.extBut _ _ c1 e))))
  have h1₅ : h₅.IsStrIter i1 "str_ascii_iterator" x t (k + 1) := ((h1₂.extBut hs₃.extBut D.TOi1.symm).extBut hs₄.extBut D.i12).extBut hs₅.extBut D.TOi1.symm
  have h2₅ : h₅.IsListIter i2 l2 (k + 1) := h2₄.extBut hs₅.extBut D.TOi2.symm
  have hzlt : z < h₅.objs.size := Heap.lt_size hz₅
  show wpAny _ _ (Builtin.SmallTypes.ownedTupleHandOut (.ref z) (.ref h₅.objs.size) >>= _) _ _ _
  refine wpAny_bind ?_
  unfold Builtin.SmallTypes.ownedTupleHandOut
  have hz₆ : IsZip (h₅.push { cls := .type "tuple", data := .seq #[.str ⟨#[c]⟩ s.toks, y] }) z TI TO .ellipsis := Heap.get?_push_of_some _ hz₅
  refine wpAny_bind (wpAny_setField_rec hz₆ (by simp) fun h₇ hz₇ hs₇ => ?_)
  replace hz₇ : IsZip h₇ z TI TO (rawInt h₅.objs.size) := hz₇
  refine wpAny_setField_rec hz₇ (by simp) fun h₈ hz₈ hs₈ => ?_
  replace hz₈ : IsZip h₈ z TI TO (rawInt h₅.objs.size) := hz₈
  have up : ∀ c o, c ≠ z → h₅.get? c = some o → h₈.get? c = some o := fun c o c1 e => hs₈.extBut _ _ c1 (hs₇.extBut _ _ c1 (Heap.get?_push_of_some _ e))
  have hT₈ : IsPair h₈ h₅.objs.size (.str ⟨#[c]⟩ s.toks) y := hs₈.extBut _ _ (Nat.ne_of_gt hzlt) (hs₇.extBut _ _ (Nat.ne_of_gt hzlt) (Heap.get?_push_size _ rfl))
  rw [hsz] at hz₈ hT₈
  refine wpAny_pure ⟨_, rfl, wpAny_pure ?_⟩
  show Q (some (.ref h₅.objs.size)) _
  rw [hsz]
  exact hQ h₈ _ _ hz₈ (up _ _ D.TOz hTO₅) (let ⟨o, ho, r⟩ := h1₅; ⟨o, up _ o D.i1z ho, r⟩) (h2₅.at fun o e => up _ o D.i2z e) hT₈ fun c o c1 c2 c3 c4 e => up c o c1 (hk₅ c o c1 c2 c3 c4 e)
theorem zips_end {z TI TO i1 i2 l2 : Addr} {x : Str} {t : Tok} {k : Nat} {a b : Value} {Q : Option Value → Shared → Prop} (hh : A.handled = none) (D : ZipApart z TI TO i1 i2 l2 l2)
    (hz : IsZip s.heap z TI TO .none) (hTI : IsPair s.heap TI (.ref i1) (.ref i2)) (hTO : IsPair s.heap TO a b)
    (h1 : s.heap.IsStrIter i1 "str_ascii_iterator" x t k) (hend : x.cps[k]? = none)
    (hQ : ∀ h', (∀ c o, c ≠ z → c ≠ TO → c ≠ i1 → c ≠ i2 → s.heap.get? c = some o → h'.get? c = some o) → Q none { s with heap := h' }) : wpAny (model prog w) A (pyNext (.ref z)) Q E s := by
  have hT : s.TypeIs (.ref z) "zip" := ⟨_, hz, rfl⟩
  have key : ∀ (R : Fin → Shared → Prop) (E' : Value → Shared → Prop), (∀ h' e, (∀ c o, c ≠ z → c ≠ TO → c ≠ i1 → c ≠ i2 → s.heap.get? c = some o → h'.get? c = some o) → (∃ o, h'.get? e = some o ∧ o.cls = .type "StopIteration") → E' (.ref e) { s with heap := h' }) →
      wpAny (model prog w) A.in1 (Builtin.«zip.__next__» ⟨[.ref z], []⟩) R E' s := by
    intro R E' hE
    show wpAny _ _ (field (.ref z) 2 >>= _) _ _ _
    refine wpAny_bind (wpAny_field hz rfl (x := .bool false) rfl ?_)
    show wpAny _ _ (field (.ref z) 3 >>= _) _ _ _
    refine wpAny_bind (wpAny_field hz rfl (x := .ref TI) rfl ?_)
    refine wpAny_bind (wpAny_seqItems hTI rfl ?_)
    show wpAny _ _ (Builtin.SmallTypes.ownedTupleIsFree (.ref z) >>= _) _ _ _
    refine wpAny_bind ?_
    unfold Builtin.SmallTypes.ownedTupleIsFree
    refine wpAny_bind (wpAny_field hz rfl (x := .none) rfl (wpAny_pure ?_))
    simp only [if_true]
    refine wpAny_bind (wpAny_rule ?_)
    refine wpAny_bind (wpAny_field hz rfl (x := .ref TO) rfl ?_)
    refine wpAny_bind (wpAny_setField_rec hz (by simp) fun h₁ hz₁ hs₁ => ?_)
    replace hz₁ : IsZip h₁ z TI TO .ellipsis := hz₁
    refine wpAny_bind ?_
    simp only [List.zipIdx_cons, List.zipIdx_nil, List.forIn_cons, List.forIn_nil]
    refine wpAny_bind (wpAny_bind (wpAny_onRaise ?_))
    show wpAny _ _ (Builtin.SmallTypes.nextOf (.ref i1) >>= _) _ _ _
    refine wpAny_bind (wpAny_nextOf_ascii_end hh (h1.extBut hs₁.extBut D.i1z) hend fun h₂ e hs₂ he => ?_)
    obtain ⟨oe, hoe, hce⟩ := he
    have hz₂ : IsZip h₂ z TI TO .ellipsis := hs₂ _ _ D.i1z.symm hz₁
    have hez : e ≠ z := fun x => by subst x; rw [hz₂] at hoe; cases hoe; simp at hce
    exact wpAny_setField_rec hz₂ (by simp) fun h₃ _ hs₃ => hE h₃ e (fun c o c1 _ c3 _ x => hs₃.extBut _ _ c1 (hs₂ _ _ c3 (hs₁.extBut _ _ c1 x))) ⟨oe, hs₃.extBut _ _ hez hoe, hce⟩
  unfold pyNext
  refine wpAny_bind (wpAny_attempt (wpAny_callSpecial?_slot (name := Str.ofString "__next__") hT F.slot_zip_next
    (wpAny_call_entry F.slot_zip_next hT F.entry_zip_next (key _ _ fun h' e hk he => ?_) (F.args_zip_next_1 _))))
  obtain ⟨o, ho, hc⟩ := he
  refine wpAny_bind (wpAny_isInstance (T := "StopIteration") (b := true) ⟨o, ho, hc⟩ isSubtype_stop ?_)
  exact wpAny_pure (hQ _ hk)
theorem walks_zips (hh : A.handled = none) (z TI TO i1 i2 l2 : Addr) (D : ZipApart z TI TO i1 i2 l2 l2) (x : Str) (t : Tok) (ys : Array Value) (hsz : x.cps.size ≤ ys.size) :
    WalksT prog w A z [z, TI, TO, i1, i2, l2] [z, TO, i1, i2] x.cps.size
      (fun i vals => ∃ c u y, x.cps[i]? = some c ∧ ys[i]? = some y ∧ vals = #[.str ⟨#[c]⟩ u, y])
      (fun i h => IsZip h z TI TO .none ∧ IsPair h TI (.ref i1) (.ref i2) ∧ (∃ a b, IsPair h TO a b) ∧ h.IsStrIter i1 "str_ascii_iterator" x t i ∧ h.IsListIter i2 l2 i ∧ h.IsList l2 ys)
      (fun i T h => IsZip h z TI TO (rawInt T) ∧ IsPair h TI (.ref i1) (.ref i2) ∧ (∃ a b, IsPair h TO a b) ∧ h.IsStrIter i1 "str_ascii_iterator" x t (i + 1) ∧ h.IsListIter i2 l2 (i + 1) ∧ h.IsList l2 ys ∧
        T ≠ z ∧ T ≠ TO ∧ T ≠ i1 ∧ T ≠ i2) where
  sub := fun c hc => by simp at hc ⊢; rcases hc with rfl | rfl | rfl | rfl <;> simp
  frame := fun i h h' hst hk => by
    obtain ⟨hz, hTI, ⟨a, b, hTO⟩, ⟨o1, h1, r1⟩, h2, hl2⟩ := hst
    exact ⟨hk z (by simp) _ hz, hk TI (by simp) _ hTI, ⟨a, b, hk TO (by simp) _ hTO⟩, ⟨o1, hk i1 (by simp) _ h1, r1⟩, h2.at fun o e => hk i2 (by simp) o e, hl2.at fun o e => hk l2 (by simp) o e⟩
  item := fun i s Q E hi hst hQ => by
    obtain ⟨hz, hTI, ⟨a, b, hTO⟩, h1, h2, hl2⟩ := hst
    have hiy : i < ys.size := Nat.lt_of_lt_of_le hi hsz
    refine zips_item D hz hTI hTO h1 h2 hl2 (Array.getElem?_eq_getElem hi) (Array.getElem?_eq_getElem hiy) fun h' u tk a1 a2 a3 a4 a5 hk => ?_
    have lt : ∀ {c o}, s.heap.get? c = some o → s.heap.objs.size ≠ c := fun e => Nat.ne_of_gt (Heap.lt_size e)
    exact hQ s.heap.objs.size _ h' tk ⟨_, u, _, Array.getElem?_eq_getElem hi, Array.getElem?_eq_getElem hiy, rfl⟩ (Nat.le_refl _) ⟨_, a5, rfl, _, rfl⟩
      ⟨a1, hk _ _ D.TIz D.TITO D.TIi1 D.TIi2 hTI, ⟨_, _, a2⟩, a3, a4, hl2.at fun o e => hk _ o D.l2z D.l2TO D.l2i1 D.l2i2 e,
        lt hz, lt hTO, (by obtain ⟨_, e, _⟩ := h1; exact lt e), (by obtain ⟨_, e, _⟩ := h2; exact lt e)⟩
      fun c o hc e => hk c o (fun x => hc (by simp [x])) (fun x => hc (by simp [x])) (fun x => hc (by simp [x])) (fun x => hc (by simp [x])) e
  go := fun elts k pos i T s Q E hm hQ => by
    obtain ⟨hz, hTI, ⟨a, b, hTO⟩, h1, h2, hl2, _⟩ := hm
    refine wpAny_letOwnedTupleGo_zip hz fun h' hz' hs' => hQ h' ⟨hz', hs'.extBut _ _ D.TIz hTI, ⟨a, b, hs'.extBut _ _ D.TOz hTO⟩, h1.extBut hs'.extBut D.i1z, h2.extBut hs'.extBut D.i2z,
      hl2.extBut hs'.extBut D.l2z⟩ fun c o hc e => hs'.extBut _ _ (fun x => hc (by simp [x])) e
  apart := fun i T h hm hT => by
    obtain ⟨_, _, _, _, _, _, t1, t2, t3, t4⟩ := hm
    simp at hT
    rcases hT with rfl | rfl | rfl | rfl
    · exact t1 rfl
    · exact t2 rfl
    · exact t3 rfl
    · exact t4 rfl
  done := fun s Q E hst hQ => by
    obtain ⟨hz, hTI, ⟨a, b, hTO⟩, h1, h2, hl2⟩ := hst
    refine zips_end hh D hz hTI hTO h1 (Array.getElem?_eq_none (Nat.le_refl _)) fun h' hk => hQ h' s.toks fun c o hc e =>
      hk c o (fun x => hc (by simp [x])) (fun x => hc (by simp [x])) (fun x => hc (by simp [x])) (fun x => hc (by simp [x])) e
  self := fun i s Q E hst hQ => wpAny_pyIter_zip hst.1 hQ
noncomputable def zsObj (x : Str) (t : Tok) : Obj := { cls := .type "str_ascii_iterator", data := .fields #[.str x t, .int 0 0] }
noncomputable abbrev zs1 (h : Heap) (x : Str) (t : Tok) : Heap := h.push { cls := .type (strIterType x), data := .fields #[.str x t, .int 0 0] }
noncomputable abbrev zs2 (h : Heap) (x : Str) (t : Tok) (l2 : Addr) : Heap := (zs1 h x t).push { cls := .type "list_iterator", data := .fields #[.ref l2, .int 0 0] }
noncomputable abbrev zs3 (h : Heap) (x : Str) (t : Tok) (l2 : Addr) : Heap := (zs2 h x t l2).push { cls := .type "tuple", data := .seq #[.ref h.objs.size, .ref (zs1 h x t).objs.size] }
noncomputable abbrev zs4 (h : Heap) (x : Str) (t : Tok) (l2 : Addr) : Heap := (zs3 h x t l2).push { cls := .type "tuple", data := .seq #[.none, .none] }
noncomputable abbrev zs5 (h : Heap) (x : Str) (t : Tok) (l2 : Addr) : Heap := (zs4 h x t l2).push { cls := .type "zip", data := .fields #[.none, .bool false, .bool false, .ref (zs2 h x t l2).objs.size, .ref (zs3 h x t l2).objs.size] }
theorem meets_zips (x : Str) (t : Tok) (l2 : Addr) (ys : Array Value) :
    Meets (Builtin.«zip.__new__» ⟨[.type "zip", .str x t, .ref l2], []⟩) (fun _ R s => s.heap.IsList l2 ys ∧
      R (.ok (.ret (.ref (zs4 s.heap x t l2).objs.size))) { s with heap := zs5 s.heap x t l2 }) :=
  .of_wp fun prog w A R s h => by
    obtain ⟨hp, g, d, tk, os⟩ := s; obtain ⟨hl2, h⟩ := h
    have hsub := sub_zip
    have hL2 : Heap.IsList (Shared.heap ⟨hp.push { cls := .type (strIterType x), data := .fields #[.str x t, .int 0 0] }, g, d, tk, os⟩) l2 ys := Heap.IsList.push hl2 _
    wp_walk using wpAny_pyIter_strU, wpAny_pyIter_list hL2
    exact ⟨_, rfl, h⟩
end
end
-- part Czip2
section
theorem top_off_Czip2 : True := by
  w_top off
  exact True.intro
section
variable {prog : Program} {w : World} {A : Around} {E : Value → Shared → Prop} {s : Shared} {env : Env} {h₀ : Heap} {body : List Stmt}
theorem call_zips {l2 : Addr} {x : Str} {t : Tok} {ys : Array Value} {Q : Value → Shared → Prop} (ha : strIterType x = "str_ascii_iterator") (hl2 : s.heap.IsList l2 ys)
    (h : ∀ h', IsZip h' (s.heap.objs.size + 4) (s.heap.objs.size + 2) (s.heap.objs.size + 3) .none → IsPair h' (s.heap.objs.size + 2) (.ref s.heap.objs.size) (.ref (s.heap.objs.size + 1)) →
      IsPair h' (s.heap.objs.size + 3) .none .none → h'.IsStrIter s.heap.objs.size "str_ascii_iterator" x t 0 → h'.IsListIter (s.heap.objs.size + 1) l2 0 →
      (∀ c o, s.heap.get? c = some o → h'.get? c = some o) → Q (.ref (s.heap.objs.size + 4)) { s with heap := h' }) :
    wpAny (model prog w) A (call (.type "zip") [.str x t, .ref l2]) Q E s := by
  refine callType_new F.called_zip (by decide) (F.typeCall_zip_2 _ _) (F.newCall_zip_2 _ _) (fun obj => F.args_object_init_3 obj _ _) F.entry_zip_new
    (meets_zips x t l2 ys) ⟨hl2, ?_⟩
  have z1 : (zs1 s.heap x t).objs.size = s.heap.objs.size + 1 := Heap.size_push ..
  have z2 : (zs2 s.heap x t l2).objs.size = s.heap.objs.size + 2 := by rw [Heap.size_push, z1]
  have z3 : (zs3 s.heap x t l2).objs.size = s.heap.objs.size + 3 := by rw [Heap.size_push, z2]
  have z4 : (zs4 s.heap x t l2).objs.size = s.heap.objs.size + 4 := by rw [Heap.size_push, z3]
  have g5 : (zs5 s.heap x t l2).get? (zs4 s.heap x t l2).objs.size = some _ := Heap.get?_push_size _ rfl
  have g4 : (zs5 s.heap x t l2).get? (zs3 s.heap x t l2).objs.size = some _ := Heap.get?_push_of_some _ (Heap.get?_push_size _ rfl)
  have g3 : (zs5 s.heap x t l2).get? (zs2 s.heap x t l2).objs.size = some _ := Heap.get?_push_of_some _ (Heap.get?_push_of_some _ (Heap.get?_push_size _ rfl))
  have g2 : (zs5 s.heap x t l2).get? (zs1 s.heap x t).objs.size = some _ := Heap.get?_push_of_some _ (Heap.get?_push_of_some _ (Heap.get?_push_of_some _ (Heap.get?_push_size _ rfl)))
  have g1 : (zs5 s.heap x t l2).get? s.heap.objs.size = some _ := Heap.get?_push_of_some _ (Heap.get?_push_of_some _ (Heap.get?_push_of_some _ (Heap.get?_push_of_some _ (Heap.get?_push_size _ rfl))))
  show _ ∧ _
  rw [z2, z3, z4] at g5
  rw [z1, z2] at g3
  rw [z3] at g4
  rw [z1] at g2
  rw [z4]
  exact ⟨⟨_, g5, rfl⟩, h _ g5 g3 g4 ⟨_, g1, congrArg Value.type ha, rfl⟩ ⟨_, g2, rfl, rfl⟩ fun c o x =>
    Heap.get?_push_of_some _ (Heap.get?_push_of_some _ (Heap.get?_push_of_some _ (Heap.get?_push_of_some _ (Heap.get?_push_of_some _ x))))⟩
noncomputable def zipSItems : List Nat → List Value → List Itm
  | c :: r, y :: q => .pair (fun t => .str ⟨#[c]⟩ t) y :: zipSItems r q
  | _, _ => []
theorem zipS_get : ∀ (cs : List Nat) (ys : List Value) (i : Nat) {c : Nat} {y : Value}, cs[i]? = some c → ys[i]? = some y → (zipSItems cs ys)[i]? = some (.pair (fun t => .str ⟨#[c]⟩ t) y)
  | c :: r, y :: q, 0, c', y', h, h' => by simp at h h'; subst h h'; rfl
  | c :: r, y :: q, i + 1, c', y', h, h' => zipS_get r q i (c := c') (y := y') (by simpa using h) (by simpa using h')
  | [], _, _, _, _, h, _ => by simp at h
  | _ :: _, [], _, _, _, _, h => by simp at h
theorem zipS_len : ∀ (cs : List Nat) (ys : List Value), cs.length ≤ ys.length → (zipSItems cs ys).length = cs.length
  | [], ys, _ => by cases ys <;> rfl
  | _ :: _, [], h => by simp at h
  | _ :: r, _ :: q, h => by simp [zipSItems, zipS_len r q (by simpa using h)]
theorem ktu_zips {Q : Flow → Shared → Prop} {elts : List PySem.Expr} {k : Nat} {pos : Pos} {l2 : Addr} {lo2 : Obj} {x : Str} {t : Tok} {ys : List Value} {n2 : Nat} {m₀ : Str → Option Value} {news : List (Addr × Obj)} {xs : List Itm}
    (hh : A.handled = none) (F : Fr h₀ env.locals s.heap m₀) (N : News h₀ env.locals s.heap news) (ha : strIterType x = "str_ascii_iterator") (hm2 : (l2, lo2) ∈ news) (hc2 : lo2.cls = .type "list") (hd2 : lo2.data = .seq ys.toArray n2)
    (hle : x.cps.toList.length ≤ ys.length) (hxs : zipSItems x.cps.toList ys = xs)
    (rest₀ : ∀ I : Addr, (∀ p ∈ news, p.1 < I) → ItemsRest prog w A E h₀ env (.Tuple elts k pos) body Q s [(I + 4, "zip"), (I + 2, "tuple"), (I + 3, "tuple"), (I, "str_ascii_iterator"), (I + 1, "list_iterator")] [(l2, lo2)] xs m₀ news) :
    wpAny (model prog w) A (call (.type "zip") [.str x t, .ref l2]) (fun xv s₁ => wpAny (model prog w) A (pyIter xv) (fun it s₂ => TurnsAt prog w A h₀ env (.Tuple elts k pos) body Q E it s₂) E s₁) E s := by
  subst hxs
  have hax2 := N _ hm2
  have hl2 : s.heap.IsList l2 ys.toArray := ⟨lo2, hax2.1, hc2, n2, hd2⟩
  have hlt2 : l2 < s.heap.objs.size := Heap.lt_size hax2.1
  have hLs : env.locals < s.heap.objs.size := F.ns.lt
  have D : ZipApart (s.heap.objs.size + 4) (s.heap.objs.size + 2) (s.heap.objs.size + 3) s.heap.objs.size (s.heap.objs.size + 1) l2 l2 := ktu_apart _ _ _ hlt2 hlt2
  refine call_zips ha hl2 fun h' hz hTI hTO hi1 hi2 hk => ?_
  refine wpAny_pyIter_zip hz ?_
  have hsz9 : x.cps.size ≤ ys.toArray.size := by simpa using hle
  refine ktu_core (tk0 := s.toks) (keep := [(l2, lo2)]) (KTurns.ofWalksU (walks_zips hh _ _ _ _ _ _ D x t ys.toArray hsz9).toU) (by rw [zipS_len _ _ hle]; simp) ?_ ?_ ?_ ?_ ?_ ?_ ?_ ?_ (F.keeps hk) (N.grown hk) (And.intro hm2 trivial) (rest₀ _ fun p hp => Heap.lt_size (N p hp).1)
  · rintro i v h ⟨T, vals, rfl, ⟨c, u, y, hx, hy, rfl⟩, hT⟩
    exact ⟨_, zipS_get x.cps.toList ys i (c := c) (y := y) (by simpa using hx) (by simpa using hy), T, u, rfl, hT⟩
  · rintro i h ⟨hz, hTI, ⟨a, b, hTO⟩, ⟨o1, ho1, hc1, _⟩, ⟨o2, ho2, hc2, _⟩, _⟩
    have e1 : ∃ o : Obj, h.get? (s.heap.objs.size + 4) = some o ∧ o.cls = .type "zip" := ⟨_, hz, rfl⟩
    have e2 : ∃ o : Obj, h.get? (s.heap.objs.size + 2) = some o ∧ o.cls = .type "tuple" := ⟨_, hTI, rfl⟩
    have e3 : ∃ o : Obj, h.get? (s.heap.objs.size + 3) = some o ∧ o.cls = .type "tuple" := ⟨_, hTO, rfl⟩
    obtain ⟨q1, g1, k1⟩ := e1
    obtain ⟨q2, g2, k2⟩ := e2
    obtain ⟨q3, g3, k3⟩ := e3
    refine ⟨[(s.heap.objs.size + 4, q1), (s.heap.objs.size + 2, q2), (s.heap.objs.size + 3, q3), (s.heap.objs.size, o1), (s.heap.objs.size + 1, o2)], ⟨⟨rfl, k1⟩, ⟨rfl, k2⟩, ⟨rfl, k3⟩, ⟨rfl, hc1⟩, ⟨rfl, hc2⟩, trivial⟩, fun p hp => ?_⟩
    rcases List.mem_cons.mp hp with rfl | hp
    · exact g1
    rcases List.mem_cons.mp hp with rfl | hp
    · exact g2
    rcases List.mem_cons.mp hp with rfl | hp
    · exact g3
    rcases List.mem_cons.mp hp with rfl | hp
    · exact ho1
    rw [List.mem_singleton.mp hp]
    exact ho2
  · intro b hb
    have hb' : b = s.heap.objs.size + 4 ∨ b = s.heap.objs.size + 2 ∨ b = s.heap.objs.size + 3 ∨ b = s.heap.objs.size ∨ b = s.heap.objs.size + 1 := by simpa using hb
    rcases hb' with rfl | rfl | rfl | rfl | rfl
    · exact ⟨by simp, ktu_new F (Nat.le_add_right _ _)⟩
    · exact ⟨by simp, ktu_new F (Nat.le_add_right _ _)⟩
    · exact ⟨by simp, ktu_new F (Nat.le_add_right _ _)⟩
    · exact ⟨by simp, ktu_new F (Nat.le_refl _)⟩
    · exact ⟨by simp, ktu_new F (Nat.le_add_right _ _)⟩
  · intro b hb
    have hb' : b = s.heap.objs.size + 4 ∨ b = s.heap.objs.size + 3 ∨ b = s.heap.objs.size ∨ b = s.heap.objs.size + 1 := by simpa using hb
    rcases hb' with rfl | rfl | rfl | rfl <;> simp
  · intro b hb
    have hb' : b = s.heap.objs.size + 4 ∨ b = s.heap.objs.size + 2 ∨ b = s.heap.objs.size + 3 ∨ b = s.heap.objs.size ∨ b = s.heap.objs.size + 1 ∨ b = l2 := by simpa using hb
    rcases hb' with rfl | rfl | rfl | rfl | rfl | rfl
    · exact .inl (by simp)
    · exact .inl (by simp)
    · exact .inl (by simp)
    · exact .inl (by simp)
    · exact .inl (by simp)
    · exact .inr ⟨lo2, by simp⟩
  · intro hI'
    have hb' : env.locals = s.heap.objs.size + 4 ∨ env.locals = s.heap.objs.size + 2 ∨ env.locals = s.heap.objs.size + 3 ∨ env.locals = s.heap.objs.size ∨ env.locals = s.heap.objs.size + 1 ∨ env.locals = l2 := by simpa using hI'
    have n2 := hax2.2.1
    rcases hb' with e | e | e | e | e | e
    · exact ktu_ne 4 hLs e
    · exact ktu_ne 2 hLs e
    · exact ktu_ne 3 hLs e
    · exact Nat.ne_of_lt hLs e
    · exact ktu_ne 1 hLs e
    · exact n2 e.symm
  · intro p hp hI'
    have hb' : p.1 = s.heap.objs.size + 4 ∨ p.1 = s.heap.objs.size + 3 ∨ p.1 = s.heap.objs.size ∨ p.1 = s.heap.objs.size + 1 := by simpa using hI'
    have hlp := Heap.lt_size (N p hp).1
    rcases hb' with e | e | e | e
    · exact ktu_ne 4 hlp e
    · exact ktu_ne 3 hlp e
    · exact Nat.ne_of_lt hlp e
    · exact ktu_ne 1 hlp e
  · exact ⟨hz, hTI, ⟨_, _, hTO⟩, hi1, hi2, hl2.at fun o e => hk l2 o e⟩
end
end
-- part Cslice
section
theorem top_off_Cslice : True := by
  w_top off
  exact True.intro
section
variable {prog : Program} {w : World} {A : Around} {E : Value → Shared → Prop} {s : Shared}
theorem adjust_to (b n : Nat) (hb : b ≤ n) : Builtin.Slice.sliceAdjust none (some (b : Int)) 1 (n : Int) = ((0 : Int), (b : Int)) := by
  unfold Builtin.Slice.sliceAdjust
  have h1 : ¬ ((1 : Int) < 0) := by omega
  have h2 : ¬ ((b : Int) < 0) := by omega
  simp only [h1, h2, if_false]
  congr 1
  omega
theorem places_to (b : Nat) : Builtin.Slice.slicePlaces (0 : Int) (b : Int) 1 = b := by
  unfold Builtin.Slice.slicePlaces
  have h1 : (1 : Int) > 0 := by omega
  simp only [h1, if_true, Int.ediv_one]
  split <;> omega
theorem applied_to {sl : Addr} {b n : Nat} {u : Tok} {Q : Int × Int × Nat → Shared → Prop} (hs : s.heap.IsSliceOf sl .none (.int b u) .none) (hb : b ≤ n) (h : Q ((0 : Int), 1, b) s) :
    wpAny (model prog w) A (Builtin.Slice.sliceApplied (.ref sl) (pure (n : Int))) Q E s := by
  obtain ⟨os, hos, hcs, hds⟩ := id hs
  unfold Builtin.Slice.sliceApplied Builtin.Slice.sliceFields
  refine wpAny_bind (wpAny_bind (wpAny_field hos hds (x := .none) rfl (wpAny_bind (wpAny_field hos hds (x := .int b u) rfl (wpAny_bind (wpAny_field hos hds (x := .none) rfl (wpAny_pure ?_)))))))
  refine wpAny_bind (slicePart_none ?_)
  show wpAny _ _ (if ((1 : Int) == 0) = true then _ else _) _ _ s
  rw [if_neg (by decide)]
  refine wpAny_bind (slicePart_none (wpAny_bind (slicePart_int (wpAny_bind (wpAny_pure ?_)))))
  show wpAny _ _ (match Builtin.Slice.sliceAdjust none (some (b : Int)) 1 (n : Int) with | (lo, hi) => pure (lo, (1 : Int), Builtin.Slice.slicePlaces lo hi 1)) _ _ s
  rw [adjust_to b n hb]
  show wpAny _ _ (pure ((0 : Int), (1 : Int), Builtin.Slice.slicePlaces (0 : Int) (b : Int) 1)) _ _ s
  rw [places_to b]
  exact wpAny_pure h
theorem pick_to (xs : Array Value) (b : Nat) : ((List.range b).filterMap fun (k : Nat) => xs[((0 : Int) + (k : Int) * 1).toNat]?).toArray = (xs.toList.take b).toArray := by
  have e : (fun (k : Nat) => xs[((0 : Int) + (k : Int) * 1).toNat]?) = fun k => xs[0 + k]? := by
    funext k
    have : ((0 : Int) + (k : Int) * 1).toNat = 0 + k := by omega
    rw [this]
  rw [e]
  have := pick_run xs 0 b
  rw [List.filterMap_map] at this
  have e2 : ((fun x => xs[x]?) ∘ fun x => 0 + x) = fun k => xs[0 + k]? := rfl
  rw [e2] at this
  rw [this, List.drop_zero]
theorem getItem_to {t sl : Addr} {items : Array Value} {b : Nat} {u : Tok} {Q : Value → Shared → Prop} (ht : IsTup s.heap t items) (hs : s.heap.IsSliceOf sl .none (.int b u) .none) (hb : b ≤ items.size) (hsz : items.size ≤ sizeLine)
    (h : b = items.size → Q (.ref t) s) (h2 : b < items.size → Q (.ref s.heap.objs.size) { s with heap := s.heap.push { cls := .type "tuple", data := .seq (items.toList.take b).toArray } }) : wpAny (model prog w) A (getItem (.ref t) (.ref sl)) Q E s := by
  have htake : sizeOk (.seq (items.toList.take b).toArray) := by
    show (items.toList.take b).toArray.size ≤ sizeLine
    rw [List.size_toArray, List.length_take, Array.length_toList]
    omega
  obtain ⟨os, hos, hcs, hds⟩ := id hs
  have hTs : s.TypeIs (.ref sl) "slice" := ⟨os, hos, hcs⟩
  unfold getItem
  try with_reducible refine wpAny_holding ?_
  first | refine wpAny_bind (wpAny_pure ?_) | skip
  refine wpAny_bind (wpAny_sequenceKey ht.typeIs (by decide) ?_)
  refine wpAny_bind (wpAny_callSpecial?_slot (name := Str.ofString "__getitem__") ht.typeIs slot_tuple_getitem
    (wpAny_call_entry slot_tuple_getitem ht.typeIs entry_tuple_getitem ?_ (args_tuple_getitem _ _)))
  show wpAny _ _ (Builtin.Tuple.tupleItemsOf (.ref t) >>= _) _ _ s
  refine wpAny_bind (tupleItemsOf_ ht ?_)
  refine wpAny_bind (wpAny_typeOf hTs ?_)
  rw [if_pos (by decide)]
  refine wpAny_bind (applied_to hs hb ?_)
  show wpAny _ _ (if ((0 : Int) == 0 && (1 : Int) == 1 && b == items.size) = true then _ else _) _ _ s
  by_cases e : b = items.size
  · rw [if_pos (by simp [e])]
    unfold Builtin.Tuple.tupleIsExact
    exact wpAny_bind (wpAny_bind (wpAny_typeOf ht.typeIs (wpAny_pure (wpAny_bind (wpAny_rule (wpAny_pure ⟨_, rfl, wpAny_pure (h e)⟩))))))
  · have hno : ¬ (((0 : Int) == 0 && (1 : Int) == 1 && b == items.size) = true) := by simp [e]
    have hlt : b < items.size := by omega
    rw [if_neg hno, pick_to items b]
    first
      | exact wpAny_bind (m := Builtin.Tuple.tupleExact _) (wpAny_newObj_type (wpAny_pure ⟨_, rfl, wpAny_pure (h2 hlt)⟩) htake)
      | exact wpAny_bind (m := Builtin.Tuple.tupleExact _) (wpAny_newObj_type (wpAny_bind (wpAny_pure (wpAny_pure ⟨_, rfl, wpAny_pure (h2 hlt)⟩))) htake)
      | exact wpAny_bind (wpAny_bind (m := Builtin.Tuple.tupleExact _) (wpAny_newObj_type (wpAny_pure (wpAny_pure ⟨_, rfl, wpAny_pure (h2 hlt)⟩)) htake))
      | exact wpAny_bind (wpAny_bind (m := Builtin.Tuple.tupleExact _) (wpAny_newObj_type (wpAny_pure ⟨_, rfl, wpAny_pure (h2 hlt)⟩) htake))
theorem slice_to {h₀ : Heap} {L : Addr} {m : Str → Option Value} {news : List (Addr × Obj)} {value slice : PySem.Expr} {t : Addr} {l : List Value} (b : Nat) {v : Int} {u : Tok} {Q : Value → Shared → Prop}
    (F : Fr h₀ L s.heap m) (N : News h₀ L s.heap news) (ht : IsTup s.heap t l.toArray) (hv : v = (b : Int)) (hb : b ≤ l.length)
    (h1 : b = l.length → ∀ h', Fr h₀ L h' m → News h₀ L h' news → Q (.ref t) { s with heap := h' })
    (h2 : b < l.length → ∀ D h', Fr h₀ L h' m → News h₀ L h' ((D, { cls := .type "tuple", data := .seq (l.take b).toArray }) :: news) → (∀ p ∈ news, p.1 < D) → Q (.ref D) { s with heap := h' })
    (hs : subscripted slice false (.ref t) (.ref s.heap.objs.size) = operate [.ref s.heap.objs.size, .ref t] (getItem (.ref t) (.ref s.heap.objs.size)) := by with_unfolding_all rfl)
    (hg : ∀ r, letTemporaryGo value (.ref t) r = pure () := by intro _; with_unfolding_all rfl)
    (hsz : l.length ≤ sizeLine := by size_fits) :
    wpAny (model prog w) A (subscriptTail value slice (.ref t) (.ref s.heap.objs.size)) Q E { s with heap := s.heap.push { cls := .type "slice", data := .fields #[.none, .int v u, .none] } } := by
  subst hv
  have ht' : IsTup (s.heap.push { cls := .type "slice", data := .fields #[.none, .int (b : Int) u, .none] }) t l.toArray := ht.keeps fun _ _ e => Heap.get?_push_of_some _ e
  refine subscriptTail_ops (s := { s with heap := s.heap.push { cls := .type "slice", data := .fields #[.none, .int (b : Int) u, .none] } }) ht'.typeIs slot_tuple_getitem.lookup
    (getItem_to ht' (Heap.IsSliceOf.new ..) (by simpa using hb) (by simpa using hsz) (fun e => h1 (by simpa using e) _ (F.push _) (N.grown fun _ _ e => Heap.get?_push_of_some _ e)) (fun e => ?_)) hs hg
  have N1 := News.push (F.push { cls := .type "slice", data := .fields #[.none, .int (b : Int) u, .none] }) (N.grown fun _ _ e => Heap.get?_push_of_some _ e) { cls := .type "tuple", data := .seq (l.take b).toArray }
  exact h2 (by simpa using e) _ _ ((F.push _).push _) N1 fun p hp => Nat.lt_of_lt_of_le (Heap.lt_size (N p hp).1) (by show _ ≤ (s.heap.push _).objs.size; rw [Heap.size_push]; exact Nat.le_succ _)
theorem slice_at {h₀ : Heap} {L : Addr} {m : Str → Option Value} {news : List (Addr × Obj)} {value slice : PySem.Expr} {t : Addr} {l : List Value} {h : Heap} {g : _} {d : _} {tk : _} {os : _} (b : Nat) {v : Int} {u : Tok} {Q : Value → Shared → Prop}
    (F : Fr h₀ L h m) (N : News h₀ L h news) (ht : IsTup h t l.toArray) (hv : v = (b : Int)) (hb : b ≤ l.length)
    (h1 : b = l.length → ∀ h', Fr h₀ L h' m → News h₀ L h' news → Q (.ref t) (Shared.mk h' g d tk os))
    (h2 : b < l.length → ∀ D h', Fr h₀ L h' m → News h₀ L h' ((D, { cls := .type "tuple", data := .seq (l.take b).toArray }) :: news) → (∀ p ∈ news, p.1 < D) → Q (.ref D) (Shared.mk h' g d tk os))
    (hs : subscripted slice false (.ref t) (.ref h.objs.size) = operate [.ref h.objs.size, .ref t] (getItem (.ref t) (.ref h.objs.size)))
    (hg : ∀ r, letTemporaryGo value (.ref t) r = pure ())
    (hsz : l.length ≤ sizeLine) :
    wpAny (model prog w) A (subscriptTail value slice (.ref t) (.ref h.objs.size)) Q E (Shared.mk (h.push { cls := .type "slice", data := .fields #[.none, .int v u, .none] }) g d tk os) :=
  slice_to (s := Shared.mk h g d tk os) b F N ht hv hb h1 h2 hs hg hsz
end
end
-- part Ppl
section
theorem top_off_Ppl : True := by
  w_top off
  exact True.intro
noncomputable def wvF (a b c d : Int) : Int → Int := fun i => ([a, b, c, d][i.toNat]?).getD 0
noncomputable def clF (k a b c d : Int) : Int :=
  if k = 0 then Builtin.bitXor (T4 a c) (T4 b d) else if k = 1 then T4 (Builtin.bitXor a b) (Builtin.bitXor c d) else if k = 2 then Builtin.bitXor (T4 a (Builtin.bitXor c d)) (T4 b c)
  else if k = 3 then Builtin.bitXor (T4 (Builtin.bitXor a b) c) (T4 b d) else if k = 4 then Builtin.bitXor (Builtin.bitXor (T4 a c) (T4 a d)) (T4 b (Builtin.bitXor c d)) else Builtin.bitXor (T4 a d) (T4 a (Builtin.bitXor c d))
theorem sy0 : symL 0 ++ [0] = [256, 16, 258, 32, 257, 16, 259, 0] := by decide +kernel
theorem ev0 (a b c d : Int) : ∃ st, evF (wvF a b c d) 40 true 0 0 (symL 0 ++ [0]) = some (clF 0 a b c d, st) := by
  rw [sy0]
  exact ⟨[0], by simp [evF, rankF, opF, wvF, clF]⟩
theorem sy1 : symL 1 ++ [0] = [7, 256, 32, 257, 8, 16, 7, 258, 32, 259, 8, 0] := by decide +kernel
theorem ev1 (a b c d : Int) : ∃ st, evF (wvF a b c d) 40 true 0 0 (symL 1 ++ [0]) = some (clF 1 a b c d, st) := by
  rw [sy1]
  exact ⟨[0], by simp [evF, rankF, opF, wvF, clF]⟩
theorem sy2 : symL 2 ++ [0] = [256, 16, 7, 258, 32, 259, 8, 32, 257, 16, 258, 0] := by decide +kernel
theorem ev2 (a b c d : Int) : ∃ st, evF (wvF a b c d) 40 true 0 0 (symL 2 ++ [0]) = some (clF 2 a b c d, st) := by
  rw [sy2]
  exact ⟨[0], by simp [evF, rankF, opF, wvF, clF]⟩
theorem sy3 : symL 3 ++ [0] = [7, 256, 32, 257, 8, 16, 258, 32, 257, 16, 259, 0] := by decide +kernel
theorem ev3 (a b c d : Int) : ∃ st, evF (wvF a b c d) 40 true 0 0 (symL 3 ++ [0]) = some (clF 3 a b c d, st) := by
  rw [sy3]
  exact ⟨[0], by simp [evF, rankF, opF, wvF, clF]⟩
theorem sy4 : symL 4 ++ [0] = [256, 16, 258, 32, 256, 16, 259, 32, 257, 16, 7, 258, 32, 259, 8, 0] := by decide +kernel
theorem ev4 (a b c d : Int) : ∃ st, evF (wvF a b c d) 40 true 0 0 (symL 4 ++ [0]) = some (clF 4 a b c d, st) := by
  rw [sy4]
  exact ⟨[0], by simp [evF, rankF, opF, wvF, clF]⟩
theorem sy5 : symL 5 ++ [0] = [256, 16, 259, 32, 256, 16, 7, 258, 32, 259, 8, 0] := by decide +kernel
theorem ev5 (a b c d : Int) : ∃ st, evF (wvF a b c d) 40 true 0 0 (symL 5 ++ [0]) = some (clF 5 a b c d, st) := by
  rw [sy5]
  exact ⟨[0], by simp [evF, rankF, opF, wvF, clF]⟩
theorem ev_all {k : Int} (k0 : 0 ≤ k) (k1 : k < 6) (a b c d : Int) : ∃ st, evF (wvF a b c d) 40 true 0 0 (symL k ++ [0]) = some (clF k a b c d, st) := by
  have : k = 0 ∨ k = 1 ∨ k = 2 ∨ k = 3 ∨ k = 4 ∨ k = 5 := by omega
  rcases this with rfl | rfl | rfl | rfl | rfl | rfl
  · exact ev0 a b c d
  · exact ev1 a b c d
  · exact ev2 a b c d
  · exact ev3 a b c d
  · exact ev4 a b c d
  · exact ev5 a b c d
theorem bil_fin : ∀ a b c : Fin 8, T4 (Builtin.bitXor (a.val : Int) (b.val : Int)) (c.val : Int) = Builtin.bitXor (T4 (a.val : Int) (c.val : Int)) (T4 (b.val : Int) (c.val : Int)) ∧ T4 (c.val : Int) (Builtin.bitXor (a.val : Int) (b.val : Int)) = Builtin.bitXor (T4 (c.val : Int) (a.val : Int)) (T4 (c.val : Int) (b.val : Int)) := by decide +kernel
theorem bx_fin8 : ∀ a b : Fin 8, 0 ≤ Builtin.bitXor (a.val : Int) (b.val : Int) ∧ Builtin.bitXor (a.val : Int) (b.val : Int) < 8 := by decide +kernel
theorem t4_fin8 : ∀ a b : Fin 8, 0 ≤ T4 (a.val : Int) (b.val : Int) ∧ T4 (a.val : Int) (b.val : Int) < 16 := by decide +kernel
theorem as_fin : ∀ a b c : Fin 16, Builtin.bitXor (Builtin.bitXor (a.val : Int) (b.val : Int)) (c.val : Int) = Builtin.bitXor (a.val : Int) (Builtin.bitXor (b.val : Int) (c.val : Int)) ∧ Builtin.bitXor 0 (a.val : Int) = (a.val : Int) := by decide +kernel
theorem bx8 {x y : Int} (h0 : 0 ≤ x ∧ x < 8) (k0 : 0 ≤ y ∧ y < 8) : 0 ≤ Builtin.bitXor x y ∧ Builtin.bitXor x y < 8 :=
  to_fin (n := 8) (P := fun x => 0 ≤ Builtin.bitXor x y ∧ Builtin.bitXor x y < 8) (fun a => to_fin (n := 8) (P := fun y => 0 ≤ Builtin.bitXor (a.val : Int) y ∧ Builtin.bitXor (a.val : Int) y < 8) (fun b => bx_fin8 a b) k0.1 k0.2) h0.1 h0.2
theorem t48 {x y : Int} (h0 : 0 ≤ x ∧ x < 8) (k0 : 0 ≤ y ∧ y < 8) : 0 ≤ T4 x y ∧ T4 x y < 16 :=
  to_fin (n := 8) (P := fun x => 0 ≤ T4 x y ∧ T4 x y < 16) (fun a => to_fin (n := 8) (P := fun y => 0 ≤ T4 (a.val : Int) y ∧ T4 (a.val : Int) y < 16) (fun b => t4_fin8 a b) k0.1 k0.2) h0.1 h0.2
theorem bil {a b c : Int} (ha : 0 ≤ a ∧ a < 8) (hb : 0 ≤ b ∧ b < 8) (hc : 0 ≤ c ∧ c < 8) : T4 (Builtin.bitXor a b) c = Builtin.bitXor (T4 a c) (T4 b c) ∧ T4 c (Builtin.bitXor a b) = Builtin.bitXor (T4 c a) (T4 c b) :=
  to_fin (n := 8) (P := fun a => T4 (Builtin.bitXor a b) c = Builtin.bitXor (T4 a c) (T4 b c) ∧ T4 c (Builtin.bitXor a b) = Builtin.bitXor (T4 c a) (T4 c b)) (fun a => to_fin (n := 8) (P := fun b => T4 (Builtin.bitXor (a.val : Int) b) c = Builtin.bitXor (T4 (a.val : Int) c) (T4 b c) ∧ T4 c (Builtin.bitXor (a.val : Int) b) = Builtin.bitXor (T4 c (a.val : Int)) (T4 c b)) (fun b => to_fin (n := 8) (P := fun c => T4 (Builtin.bitXor (a.val : Int) (b.val : Int)) c = Builtin.bitXor (T4 (a.val : Int) c) (T4 (b.val : Int) c) ∧ T4 c (Builtin.bitXor (a.val : Int) (b.val : Int)) = Builtin.bitXor (T4 c (a.val : Int)) (T4 c (b.val : Int))) (fun c => bil_fin a b c) hc.1 hc.2) hb.1 hb.2) ha.1 ha.2
theorem as16 {a b c : Int} (ha : 0 ≤ a ∧ a < 16) (hb : 0 ≤ b ∧ b < 16) (hc : 0 ≤ c ∧ c < 16) : Builtin.bitXor (Builtin.bitXor a b) c = Builtin.bitXor a (Builtin.bitXor b c) ∧ Builtin.bitXor 0 a = a :=
  to_fin (n := 16) (P := fun a => Builtin.bitXor (Builtin.bitXor a b) c = Builtin.bitXor a (Builtin.bitXor b c) ∧ Builtin.bitXor 0 a = a) (fun a => to_fin (n := 16) (P := fun b => Builtin.bitXor (Builtin.bitXor (a.val : Int) b) c = Builtin.bitXor (a.val : Int) (Builtin.bitXor b c) ∧ Builtin.bitXor 0 (a.val : Int) = (a.val : Int)) (fun b => to_fin (n := 16) (P := fun c => Builtin.bitXor (Builtin.bitXor (a.val : Int) (b.val : Int)) c = Builtin.bitXor (a.val : Int) (Builtin.bitXor (b.val : Int) c) ∧ Builtin.bitXor 0 (a.val : Int) = (a.val : Int)) (fun c => as_fin a b c) hc.1 hc.2) hb.1 hb.2) ha.1 ha.2
noncomputable def coF (v : Int → Int → Int) : List (Int × Int) → Int → Int
  | [], x => x
  | c :: cs, x => coF v cs (Builtin.bitXor x (v c.1 c.2))
theorem cl_co {k a b c d : Int} (k0 : 0 ≤ k) (k1 : k < 6) (ha : 0 ≤ a ∧ a < 8) (hb : 0 ≤ b ∧ b < 8) (hc : 0 ≤ c ∧ c < 8) (hd : 0 ≤ d ∧ d < 8) : coF (fun i j => T4 (wvF a b c d i) (wvF a b c d j)) (coinsV k) 0 = clF k a b c d := by
  have e1 := (bil hc hd ha).2
  have e2 := (bil hc hd hb).2
  have e3 := (bil ha hb hc).1
  have e4 := (bil ha hb (bx8 hc hd)).1
  have w0 : wvF a b c d 0 = a := rfl
  have w1 : wvF a b c d 1 = b := rfl
  have w2 : wvF a b c d 2 = c := rfl
  have w3 : wvF a b c d 3 = d := rfl
  have t1 := t48 ha hc
  have t2 := t48 ha hd
  have t3 := t48 hb hc
  have t4 := t48 hb hd
  have : k = 0 ∨ k = 1 ∨ k = 2 ∨ k = 3 ∨ k = 4 ∨ k = 5 := by omega
  rcases this with rfl | rfl | rfl | rfl | rfl | rfl
  all_goals simp only [coinsV, clF, coF, List.getD, Int.toNat, w0, w1, w2, w3]
  all_goals simp [coF, w0, w1, w2, w3, (as16 t1 t1 t1).2, (as16 t2 t1 t1).2, e1, e2, e3, e4]
  · rw [(as16 (bx16 t1.1 t1.2 t2.1 t2.2) t3 t4).1]
  · rw [(as16 (bx16 t1.1 t1.2 t2.1 t2.2) t3 t4).1]
  · rw [(as16 t2 t1 t2).1]
end
-- part Ppl2
section
theorem top_off_Ppl2 : True := by
  w_top off
  exact True.intro
theorem cell_nat {k0 k1 : Int} {H W r c : Nat} (hr : r < H) (hc : c < W) (h1 : H < 50) (h2 : W < 50) : cellO (dueV k0 k1 H W) ((r : Int) + 1) ((c : Int) + 1) = some (T4 (owV k0 (1 + (r : Int))) (owV k1 (1 + (c : Int)))) := by
  unfold cellO
  rw [if_pos (by omega), show ((r : Int) + 1).toNat = r + 1 by omega, show ((c : Int) + 1).toNat = c + 1 by omega]
  show ((List.replicate (W + 1) 0 :: (List.range H).map (dueR k0 k1 W))[r + 1]?).bind _ = _
  rw [List.getElem?_cons_succ, List.getElem?_map, List.getElem?_range hr]
  show (0 :: (List.range W).map fun (y : Nat) => T4 (owV k0 (1 + (r : Int))) (owV k1 (1 + (y : Int))))[c + 1]? = _
  rw [List.getElem?_cons_succ, List.getElem?_map, List.getElem?_range hc]
  rfl
theorem cell_is {k0 k1 p l : Int} {H W : Nat} (hp : 1 ≤ p) (hpH : p ≤ H) (hl : 1 ≤ l) (hlW : l ≤ W) (h1 : H < 50) (h2 : W < 50) : cellO (dueV k0 k1 H W) p l = some (T4 (owV k0 p) (owV k1 l)) := by
  have h := cell_nat (k0 := k0) (k1 := k1) (H := H) (W := W) (r := (p - 1).toNat) (c := (l - 1).toNat) (by omega) (by omega) h1 h2
  rw [show (((p - 1).toNat : Nat) : Int) + 1 = p by omega, show (((l - 1).toNat : Nat) : Int) + 1 = l by omega, show 1 + (((p - 1).toNat : Nat) : Int) = p by omega, show 1 + (((l - 1).toNat : Nat) : Int) = l by omega] at h
  exact h
theorem coin_co {B : List (List Int)} {P : List Int} {v : Int → Int → Int} : ∀ (cs : List (Int × Int)) (x : Int), (∀ c ∈ cs, 0 ≤ c.1 ∧ c.1 < 4 ∧ 0 ≤ c.2 ∧ c.2 < 4 ∧ ∃ r l, P[c.1.toNat]? = some r ∧ P[c.2.toNat]? = some l ∧ cellO B r l = some (v c.1 c.2)) → coinF B P cs x = some (coF v cs x)
  | [], _, _ => rfl
  | c :: cs, x, h => by
    obtain ⟨a0, a1, b0, b1, r, l, hr, hl, hc⟩ := h c List.mem_cons_self
    unfold coinF coF
    rw [if_pos ⟨a0, a1, b0, b1⟩, hr, hl]
    show (cellO B r l).bind _ = _
    rw [hc]
    exact coin_co cs _ fun d hd => h d (List.mem_cons_of_mem _ hd)
theorem row_fin : ∀ (k : Fin 3) (p : Fin 5), rowW (k.val : Int) ((p.val : Int) + 1) = owV (k.val : Int) ((p.val : Int) + 1) ∧ 0 ≤ rowW (k.val : Int) ((p.val : Int) + 1) ∧ rowW (k.val : Int) ((p.val : Int) + 1) < 8 := by decide +kernel
theorem row_is {k p : Int} (h0 : 0 ≤ k) (h1 : k < 3) (p0 : 1 ≤ p) (p1 : p < 6) : rowW k p = owV k p ∧ 0 ≤ rowW k p ∧ rowW k p < 8 := by
  have h := row_fin ⟨k.toNat, by omega⟩ ⟨(p - 1).toNat, by omega⟩
  rwa [show ((k.toNat : Nat) : Int) = k by omega, show (((p - 1).toNat : Nat) : Int) + 1 = p by omega] at h
theorem coins_fin : ∀ k : Fin 6, (coinsV (k.val : Int)).all (fun c => decide ((c.1 = 0 ∨ c.1 = 1) ∧ (c.2 = 2 ∨ c.2 = 3))) = true := by decide +kernel
theorem board_is {k0 k1 : Int} {H W : Nat} (a0 : 0 ≤ k0) (a1 : k0 < 3) (b0 : 0 ≤ k1) (b1 : k1 < 3) (h : 0 < H ∧ H < 5 ∧ 0 < W ∧ W < 6) : boardO k0 k1 (W : Int) (H * W) 0 (List.replicate (H + 1) (List.replicate (W + 1) 0)) = some (dueV k0 k1 H W) := by
  have hb := board_fin ⟨k0.toNat, by omega⟩ ⟨k1.toNat, by omega⟩ ⟨H - 1, by omega⟩ ⟨W - 1, by omega⟩
  obtain ⟨h1, h2, h3, h4⟩ := h
  obtain ⟨H, rfl⟩ : ∃ n, H = n + 1 := ⟨H - 1, by omega⟩
  obtain ⟨W, rfl⟩ : ∃ n, W = n + 1 := ⟨W - 1, by omega⟩
  simp only [Nat.add_sub_cancel] at hb
  rw [show ((k0.toNat : Nat) : Int) = k0 by omega, show ((k1.toNat : Nat) : Int) = k1 by omega] at hb
  exact hb
theorem plain_law {k k0 k1 p0 p1 p2 p3 : Int} (hk0 : 0 ≤ k) (hk1 : k < 6) (a0 : 0 ≤ k0) (a1 : k0 < 3) (b0 : 0 ≤ k1) (b1 : k1 < 3) (hp0 : 1 ≤ p0 ∧ p0 < 5) (hp1 : 1 ≤ p1 ∧ p1 < 5) (hp2 : 1 ≤ p2 ∧ p2 < 6) (hp3 : 1 ≤ p3 ∧ p3 < 6) :
    ∃ f st', evF (fun i => ([rowW k0 p0, rowW k0 p1, rowW k1 p2, rowW k1 p3][i.toNat]?).getD 0) 40 true 0 0 (symL k ++ [0]) = some (f, st') ∧
      ∀ H W : Nat, 0 < H ∧ H < 5 ∧ 0 < W ∧ W < 6 → p0 ≤ H → p1 ≤ H → p2 ≤ W → p3 ≤ W → boardO k0 k1 (W : Int) (H * W) 0 (List.replicate (H + 1) (List.replicate (W + 1) 0)) = some (dueV k0 k1 H W) ∧ coinF (dueV k0 k1 H W) [p0, p1, p2, p3] (coinsV k) 0 = some f := by
  have r0 := row_is a0 a1 hp0.1 (by omega)
  have r1 := row_is a0 a1 hp1.1 (by omega)
  have r2 := row_is b0 b1 hp2.1 hp2.2
  have r3 := row_is b0 b1 hp3.1 hp3.2
  obtain ⟨st', hev⟩ := ev_all hk0 hk1 (rowW k0 p0) (rowW k0 p1) (rowW k1 p2) (rowW k1 p3)
  refine ⟨_, st', hev, fun H W hHW l0 l1 l2 l3 => ⟨board_is a0 a1 b0 b1 hHW, ?_⟩⟩
  rw [← cl_co hk0 hk1 r0.2 r1.2 r2.2 r3.2]
  refine coin_co _ _ fun c hc => ?_
  have hcs := List.all_eq_true.mp (fin6 (P := fun k => (coinsV k).all (fun c => decide ((c.1 = 0 ∨ c.1 = 1) ∧ (c.2 = 2 ∨ c.2 = 3))) = true) coins_fin hk0 hk1) c hc
  obtain ⟨c1, c2⟩ := c
  simp only [decide_eq_true_eq] at hcs
  obtain ⟨e1, e2⟩ := hcs
  rcases e1 with rfl | rfl <;> rcases e2 with rfl | rfl
  all_goals refine ⟨by decide, by decide, by decide, by decide, _, _, rfl, rfl, ?_⟩
  · rw [cell_is hp0.1 l0 hp2.1 l2 (by omega) (by omega), ← r0.1, ← r2.1]; rfl
  · rw [cell_is hp0.1 l0 hp3.1 l3 (by omega) (by omega), ← r0.1, ← r3.1]; rfl
  · rw [cell_is hp1.1 l1 hp2.1 l2 (by omega) (by omega), ← r1.1, ← r2.1]; rfl
  · rw [cell_is hp1.1 l1 hp3.1 l3 (by omega) (by omega), ← r1.1, ← r3.1]; rfl
end
-- part L5
section
theorem top_off_L5 : True := by
  w_top off
  exact True.intro
local macro_rules | `(tactic| k_all) => `(tactic| with_reducible assumption)
theorem rowW_fin : ∀ (k : Fin 3) (p : Fin 5), 0 ≤ rowW (k.val : Int) ((p.val : Int) + 1) ∧ rowW (k.val : Int) ((p.val : Int) + 1) < 16 := by decide +kernel
theorem rowW_bd {k p : Int} (h0 : 0 ≤ k) (h1 : k < 3) (p0 : 1 ≤ p) (p1 : p < 6) : 0 ≤ rowW k p ∧ rowW k p < 16 := by
  have h := rowW_fin ⟨k.toNat, by omega⟩ ⟨(p - 1).toNat, by omega⟩
  rwa [show ((k.toNat : Nat) : Int) = k by omega, show (((p - 1).toNat : Nat) : Int) + 1 = p by omega] at h
theorem p229s (w : World) (i p c : Int) (h0 : 0 ≤ i) (h1 : i < 4) (p0 : 1 ≤ p) (p1 : p ≤ 5) (t1 : Tok) (pa : Addr) (k : Nat) (v0 : Value) (vs : List Value) (news : List (Addr × Obj)) (hm : (pa, ({ cls := .type "tuple", data := .seq (v0 :: vs).toArray k } : Obj)) ∈ news) :
    CS w (hd.heap_39 w.params) 86 2 [.str (replyV (nm4 i) p c) t1, .ref pa] news (fun r n => ∃ q t, r = .ref q ∧ n = (q, ({ cls := .type "tuple", data := .seq #[v0, .int p t] } : Obj)) :: news ∧ ∀ p ∈ news, p.1 < q) := by
  obtain ⟨l, r, ps, h⟩ := rep_is i p c h0 h1 p0 p1
  exact p229ok w _ t1 pa k v0 vs l r ps p (Nat.le_trans h.len (by decide)) h.head h.hl h.hr h.h0 h.h1 h.h2 h.h3 h.he h.hp h.hp3 h.hi h.hpl news hm
theorem four_bd {a b c d : Int} (ha : 0 ≤ a ∧ a < 16) (hb : 0 ≤ b ∧ b < 16) (hc : 0 ≤ c ∧ c < 16) (hd : 0 ≤ d ∧ d < 16) (i : Int) : 0 ≤ ([a, b, c, d][i.toNat]?).getD 0 ∧ ([a, b, c, d][i.toNat]?).getD 0 < 16 := by
  generalize i.toNat = n
  match n with
  | 0 => exact ha
  | 1 => exact hb
  | 2 => exact hc
  | 3 => exact hd
  | n + 4 => exact (show (0 : Int) ≤ 0 ∧ (0 : Int) < 16 from by decide)
theorem four_at {a b c d : Int} {t0 t1 t2 t3 : Tok} (i : Int) (h0 : 0 ≤ i) (h1 : i < 4) : ∃ t, [Value.int a t0, .int b t1, .int c t2, .int d t3][i.toNat]? = some (Value.int (([a, b, c, d][i.toNat]?).getD 0) t) := by
  have : i = 0 ∨ i = 1 ∨ i = 2 ∨ i = 3 := by omega
  rcases this with rfl | rfl | rfl | rfl <;> exact ⟨_, rfl⟩
theorem zip4 {IR : List Itm → (Str → Option Value) → List (Addr × Obj) → Prop} {Led : List Value → Nat → List (Addr × Obj)} {ps : List (Str × Value)} (fn : Nat → Tok → Value) (pv : Nat → Value) (wv : Nat → Int)
    (step : ∀ (i : Nat) (ws : List Value) (cap : Nat) (m : Str → Option Value) (r : List Itm), i < 4 → ws.length = i → (∀ m' t cap', IR r (kstB m' ps) (Led (ws ++ [.int (wv i) t]) cap')) → IR (.pair (fn i) (pv i) :: r) (kstB m ps) (Led ws cap))
    (fin : ∀ m t0 t1 t2 t3 cap, IR [] (kstB m ps) (Led [.int (wv 0) t0, .int (wv 1) t1, .int (wv 2) t2, .int (wv 3) t3] cap)) (m : Str → Option Value) (cap : Nat) : IR [.pair (fn 0) (pv 0), .pair (fn 1) (pv 1), .pair (fn 2) (pv 2), .pair (fn 3) (pv 3)] (kstB m ps) (Led [] cap) :=
  step 0 [] cap m _ (by decide) rfl fun m1 t0 c1 => step 1 [.int (wv 0) t0] c1 m1 _ (by decide) rfl fun m2 t1 c2 => step 2 [.int (wv 0) t0, .int (wv 1) t1] c2 m2 _ (by decide) rfl fun m3 t2 c3 => step 3 [.int (wv 0) t0, .int (wv 1) t1, .int (wv 2) t2] c3 m3 _ (by decide) rfl fun m4 t3 c4 => fin m4 t0 t1 t2 t3 c4
structure TnI (kk0 kk1 : Int) (tk0 tk1 : Tok) (pv : Nat → Value) (wv : Nat → Int) (i : Nat) (p : Int) (tp : Tok) (kk : Int) (tk : Tok) : Prop where
  pv : pv i = .int p tp
  wv : wv i = rowW kk p
  p0 : 1 ≤ p
  p5 : p ≤ 5
  k0 : 0 ≤ kk
  k3 : kk < 3
  i0 : (0 : Int) ≤ (i : Int)
  i4 : (i : Int) < 4
  md : 1 + (i : Int).fmod 4 = ((i + 1 : Nat) : Int)
  d0 : 0 ≤ (i : Int).fdiv 2
  d1 : (i : Int).fdiv 2 < 2 ^ 63
  kd : [Value.int kk0 tk0, .int kk1 tk1][((i : Int).fdiv 2).toNat]? = some (.int kk tk)
  gd : [kk0, kk1].getD ((i : Int).fdiv 2).toNat 0 = kk
  nl : (nm4 (i : Int)).length = 1
  ok : PyData.strOk (nm4 (i : Int) ++ Str.ofString ".Net") = true
noncomputable def pv5F (p0 p1 p2 p3 : Int) (t0 t1 t2 t3 : Tok) : Nat → Value
  | 0 => .int p0 t0
  | 1 => .int p1 t1
  | 2 => .int p2 t2
  | _ => .int p3 t3
noncomputable def wv5F (k0 k1 p0 p1 p2 p3 : Int) : Nat → Int
  | 0 => rowW k0 p0
  | 1 => rowW k0 p1
  | 2 => rowW k1 p2
  | _ => rowW k1 p3
theorem tn_facts {k0 k1 p0 p1 p2 p3 : Int} {tk0 tk1 t0 t1 t2 t3 : Tok} (hk00 : 0 ≤ k0) (hk03 : k0 < 3) (hk10 : 0 ≤ k1) (hk13 : k1 < 3) (hp0 : 1 ≤ p0 ∧ p0 < 5) (hp1 : 1 ≤ p1 ∧ p1 < 5) (hp2 : 1 ≤ p2 ∧ p2 < 6) (hp3 : 1 ≤ p3 ∧ p3 < 6) :
    ∀ i, i < 4 → ∃ p tp kk tk, TnI k0 k1 tk0 tk1 (pv5F p0 p1 p2 p3 t0 t1 t2 t3) (wv5F k0 k1 p0 p1 p2 p3) i p tp kk tk
  | 0, _ => ⟨p0, t0, k0, tk0, rfl, rfl, hp0.1, by omega, hk00, hk03, by decide, by decide, by decide, by decide, by decide, rfl, rfl, by decide +kernel, by decide +kernel⟩
  | 1, _ => ⟨p1, t1, k0, tk0, rfl, rfl, hp1.1, by omega, hk00, hk03, by decide, by decide, by decide, by decide, by decide, rfl, rfl, by decide +kernel, by decide +kernel⟩
  | 2, _ => ⟨p2, t2, k1, tk1, rfl, rfl, hp2.1, by omega, hk10, hk13, by decide, by decide, by decide, by decide, by decide, rfl, rfl, by decide +kernel, by decide +kernel⟩
  | 3, _ => ⟨p3, t3, k1, tk1, rfl, rfl, hp3.1, by omega, hk10, hk13, by decide, by decide, by decide, by decide, by decide, rfl, rfl, by decide +kernel, by decide +kernel⟩
  | n + 4, h => absurd h (by omega)
theorem ne_pair {prog : Program} {w : World} {A : Around} {E : Value → Shared → Prop} {s : Shared} {h₀ : Heap} {L a b : Addr} {news : List (Addr × Obj)} {x : Str} {p : Int} {t t' u u' : Tok} {ka kb : Nat} {Q : Value → Shared → Prop} (N : News h₀ L s.heap news) (ma : (a, ({ cls := .type "tuple", data := .seq #[.str x t, .int p u] ka } : Obj)) ∈ news) (mb : (b, ({ cls := .type "tuple", data := .seq #[.str x t', .int p u'] kb } : Obj)) ∈ news) (hok : PyData.strOk x = true) (hu : A.units + 64 < cLine) (h : Q (.bool false) s) :
    wpAny (model prog w) A (compareOp .NotEq (.ref a) (.ref b)) Q E s := by
  have sh : SeqAt.shaped (.tuple [.str x, .int p]) = true := by
    simp [SeqAt.shaped, PyData.canLay0, PyData.canLayAll0, PyData.depth, PyData.depthAll, hok]
  refine ne_dataH (reads_tuple_at (News.get N ma) rfl rfl (.cons (Reads.str _ _) (.cons (Reads.int _ _) .nil))) (reads_tuple_at (News.get N mb) rfl rfl (.cons (Reads.str _ _) (.cons (Reads.int _ _) .nil))) sh sh hu ?_
  simp only [PyData.eqv, PyData.eqvAll, beq_self_eq_true, Bool.and_true, Bool.not_true]
  exact h
theorem end5 {h₀ h' : Heap} {L I : Addr} {s₁ : Shared} {m' : Str → Option Value} {its n' all : List (Addr × Obj)} {rest : (Str → Option Value) → List (Addr × Obj) → Prop} {tk : Nat} (F : Fr h₀ L h' m') (N : News h₀ L h' all) (hi : ∀ p ∈ its, p ∈ all) (hs : ∀ p ∈ n', p ∈ all) (hI : ∀ p ∈ n', p.1 < I) (hge : ∀ q ∈ its, I ≤ q.1) {ps : List (Str × Value)} (hps : ∀ p ∈ ps, m' p.1 = some p.2) (r : rest (kstB m' ps) n') : UnrEndW h₀ L s₁ its rest { s₁ with heap := h', toks := tk } :=
  ⟨h', tk, m', n', rfl, F, fun p hp => (List.mem_append.mp hp).elim (fun h => N p (hi p h)) fun h => N p (hs p h), fun p hp q hq => Nat.ne_of_lt (Nat.lt_of_lt_of_le (hI p hp) (hge q hq)), by rw [kst_back hps] at r; exact r⟩
theorem slice_any {prog : Program} {w : World} {A : Around} {E : Value → Shared → Prop} {h₀ : Heap} {L : Addr} {m : Str → Option Value} {R : List (Addr × Obj)} {value slice : PySem.Expr} {t : Addr} {x0 x1 x2 x3 : Value} {kt : Nat} {h : Heap} {g : _} {d : _} {tk : _} {os : _} (i : Nat) (hi : i < 4) {v : Int} {u : Tok} {Q : Value → Shared → Prop}
    (F : Fr h₀ L h m) (N : News h₀ L h ((t, { cls := .type "tuple", data := .seq #[x0, x1, x2, x3] kt }) :: R)) (hv : v = ((i + 1 : Nat) : Int)) (hR : ∀ p ∈ R, p.1 < t)
    (hq : ∀ D vs k h', Fr h₀ L h' m → News h₀ L h' ((D, { cls := .type "tuple", data := .seq (x0 :: vs).toArray k }) :: R) → (∀ p ∈ R, p.1 < D) → Q (.ref D) (Shared.mk h' g d tk os))
    (hs : subscripted slice false (.ref t) (.ref h.objs.size) = operate [.ref h.objs.size, .ref t] (getItem (.ref t) (.ref h.objs.size)))
    (hg : ∀ r, letTemporaryGo value (.ref t) r = pure ()) :
    wpAny (model prog w) A (subscriptTail value slice (.ref t) (.ref h.objs.size)) Q E (Shared.mk (h.push { cls := .type "slice", data := .fields #[.none, .int v u, .none] }) g d tk os) :=
  slice_at (l := [x0, x1, x2, x3]) (i + 1) F N (News.isTup (items := #[x0, x1, x2, x3]) N List.mem_cons_self) hv (by show i + 1 ≤ 4; omega) (fun _ h' F' N' => hq t [x1, x2, x3] _ h' F' N' hR)
    (fun _ D h' F' N' l1 => hq D ([x1, x2, x3].take i) _ h' F' (kst_newsOf N' fun p hp => (List.mem_cons.mp hp).elim (fun e => e ▸ List.mem_cons_self) fun e => List.mem_cons_of_mem _ (List.mem_cons_of_mem _ e)) fun p hp => l1 p (List.mem_cons_of_mem _ hp)) hs hg (by exact Nat.le_of_ble_eq_true rfl)
theorem lx5 (w : World) (L : Addr) (x0 x1 x2 x3 x4 x5 x6 : Int) (j : Int) (j0 : 0 ≤ j) (j1 : j < 4) (te : Tok) (q : Addr) (cap : Nat) (us : List Value) (hI : IntsAre us [x0, x1, x2, x3, x4, x5, x6]) (oK oO oC oS : Obj) (vo vc vs : Option Value) (hO : oO.data = .cell vo) (hC : oC.data = .cell vc) (hS : oS.data = .cell vs) (hlt : L + 4 < q)
    (kl pl tl : Addr) (nk pn nt : Nat) (p0 p1 p2 p3 : Int) (tp0 tp1 tp2 tp3 : Tok) (kk0 kk1 : Int) (tk0 tk1 : Tok) (f : Int) (T : List (Addr × Obj)) (hK : oK.data = .cell (some (.ref kl))) (hk00 : 0 ≤ kk0) (hk03 : kk0 < 3) (hk10 : 0 ≤ kk1) (hk13 : kk1 < 3)
    (hp0 : 1 ≤ p0 ∧ p0 < 5) (hp1 : 1 ≤ p1 ∧ p1 < 5) (hp2 : 1 ≤ p2 ∧ p2 < 6) (hp3 : 1 ≤ p3 ∧ p3 < 6)
    (hBo : ∀ H W : Nat, 0 < H ∧ H < 5 ∧ 0 < W ∧ W < 6 → p0 ≤ H → p1 ≤ H → p2 ≤ W → p3 ≤ W → boardO kk0 kk1 (W : Int) (H * W) 0 (List.replicate (H + 1) (List.replicate (W + 1) 0)) = some (dueV kk0 kk1 H W) ∧ coinF (dueV kk0 kk1 H W) [p0, p1, p2, p3] (coinsV (x5.fmod 6)) 0 = some f)
    (hkl : L + 4 < kl) (hpl : L + 4 < pl) (hlt5 : pl < tl ∧ kl < tl ∧ q < tl ∧ L + 1 < tl ∧ L + 2 < tl ∧ L + 3 < tl ∧ L + 4 < tl) (st' : List Int) (hev : evF (fun i => ([rowW kk0 p0, rowW kk0 p1, rowW kk1 p2, rowW kk1 p3][i.toNat]?).getD 0) 40 true 0 0 (symL (x5.fmod 6) ++ [0]) = some (f, st')) :
    LX w 5 L [(Str.ofString "cells", .ref q), (Str.ofString "end", .str (endT j) te), (Str.ofString "places", .ref pl), (Str.ofString "told", .ref tl)] [(tl, listOf #[] 0), (pl, listOf [Value.int p0 tp0, .int p1 tp1, .int p2 tp2, .int p3 tp3].toArray pn), (kl, listOf [Value.int kk0 tk0, .int kk1 tk1].toArray nk), (q, listOf us.toArray cap), (L + 1, oK), (L + 2, oO), (L + 3, oC), (L + 4, oS)] := by
  have r0 := rowW_bd hk00 hk03 hp0.1 (Int.lt_trans hp0.2 (by decide))
  have r1 := rowW_bd hk00 hk03 hp1.1 (Int.lt_trans hp1.2 (by decide))
  have r2 := rowW_bd hk10 hk13 hp2.1 hp2.2
  have r3 := rowW_bd hk10 hk13 hp3.1 hp3.2
  obtain ⟨g51, g52, g53, g54, g55, g56, g57⟩ := hlt5
  replace g51 := ltN g51
  replace g52 := ltN g52
  replace g53 := ltN g53
  replace g54 := ltN g54
  replace g55 := ltN g55
  replace g56 := ltN g56
  replace g57 := ltN g57
  replace hkl := ltN hkl
  replace hpl := ltN hpl
  have n1 : tl ≠ L + 2 := by refine neN ?_; omega
  have n2 : pl ≠ L + 2 := by refine neN ?_; omega
  have n3 : kl ≠ L + 2 := by refine neN ?_; omega
  have hZ := fun t0 t1 t2 t3 n5 => lx6 w L x0 x1 x2 x3 x4 x5 x6 j j0 j1 te q cap us hI oK oO oC oS vo vc vs hO hC hS hlt kl pl tl nk pn n5 [Value.int (rowW kk0 p0) t0, .int (rowW kk0 p1) t1, .int (rowW kk1 p2) t2, .int (rowW kk1 p3) t3] (fun i => ([rowW kk0 p0, rowW kk0 p1, rowW kk1 p2, rowW kk1 p3][i.toNat]?).getD 0) p0 p1 p2 p3 tp0 tp1 tp2 tp3 kk0 kk1 tk0 tk1 f [(tl, listOf [Value.int (rowW kk0 p0) t0, .int (rowW kk0 p1) t1, .int (rowW kk1 p2) t2, .int (rowW kk1 p3) t3].toArray n5), (pl, listOf [Value.int p0 tp0, .int p1 tp1, .int p2 tp2, .int p3 tp3].toArray pn), (kl, listOf [Value.int kk0 tk0, .int kk1 tk1].toArray nk)] hK hk00 hk03 hk10 hk13 hp0 hp1 hp2 hp3 (List.mem_cons_of_mem _ (List.mem_cons_of_mem _ List.mem_cons_self)) (List.mem_cons_of_mem _ List.mem_cons_self) hBo (List.forall_mem_cons.mpr ⟨n1, List.forall_mem_cons.mpr ⟨n2, List.forall_mem_cons.mpr ⟨n3, List.forall_mem_nil _⟩⟩⟩) List.mem_cons_self (four_bd r0 r1 r2 r3) four_at st' hev
  clear hBo hev
  obtain ⟨t6, h6⟩ := ints_get2 hI (i := 6) (x := x6) rfl
  have eZ : zipSItems (Str.ofString "a\"cd").cps.toList [Value.int p0 tp0, .int p1 tp1, .int p2 tp2, .int p3 tp3] = [.pair ((fun (i : Nat) t => Value.str (nm4 (i : Int)) t) 0) (pv5F p0 p1 p2 p3 tp0 tp1 tp2 tp3 0), .pair ((fun (i : Nat) t => Value.str (nm4 (i : Int)) t) 1) (pv5F p0 p1 p2 p3 tp0 tp1 tp2 tp3 1), .pair ((fun (i : Nat) t => Value.str (nm4 (i : Int)) t) 2) (pv5F p0 p1 p2 p3 tp0 tp1 tp2 tp3 2), .pair ((fun (i : Nat) t => Value.str (nm4 (i : Int)) t) 3) (pv5F p0 p1 p2 p3 tp0 tp1 tp2 tp3 3)] := by
    rw [show (Str.ofString "a\"cd").cps.toList = [97, 34, 99, 100] by decide +kernel]
    dsimp only
    rw [show nm4 ((0 : Nat) : Int) = ⟨#[97]⟩ by decide +kernel, show nm4 ((1 : Nat) : Int) = ⟨#[34]⟩ by decide +kernel, show nm4 ((2 : Nat) : Int) = ⟨#[99]⟩ by decide +kernel, show nm4 ((3 : Nat) : Int) = ⟨#[100]⟩ by decide +kernel]
    rfl
  have hTn := tn_facts (tk0 := tk0) (tk1 := tk1) (t0 := tp0) (t1 := tp1) (t2 := tp2) (t3 := tp3) hk00 hk03 hk10 hk13 hp0 hp1 hp2 hp3
  unfold LX
  k_fill
  refine' fnAt_of ?k6 ?_
  case k6 => k_is
  intro mean mg mb dp un gd a ccd A₀ base s m₀ Q htok B' F9 X' N' T' hd hu hret
  have hk : ScopeKind.function = ScopeKind.function := rfl
  have XB := X'
  have TB := T'
  dsimp only [List.drop]
  dsimp only [kstB] at F9
  refine seg_toks (l1 := [_]) htok ?_
  (try k_fold)
  k_with_none
  k_with "k_mem" => first | exact (by with_reducible assumption) | exact (List.mem_cons_of_mem _ (by with_reducible assumption)) | exact (List.mem_cons_of_mem _ (List.mem_cons_of_mem _ (by with_reducible assumption))) | exact (List.mem_cons_of_mem _ (List.mem_cons_of_mem _ (List.mem_cons_of_mem _ (by with_reducible assumption)))) | exact (List.mem_cons_of_mem _ (List.mem_cons_of_mem _ (List.mem_cons_of_mem _ (List.mem_cons_of_mem _ (by with_reducible assumption)))))
  k_with "pj" => first | with_reducible assumption | exact pj0 (by with_reducible assumption) | exact pj1 (by with_reducible assumption) | exact pj2 (by with_reducible assumption) | exact pj3 (by with_reducible assumption) | exact pj4 (by with_reducible assumption) | exact pj5 (by with_reducible assumption) | exact pj6 (by with_reducible assumption) | exact pj7 (by with_reducible assumption) | exact pj8 (by with_reducible assumption) | exact pj9 (by with_reducible assumption) | exact pj10 (by with_reducible assumption) | exact pj11 (by with_reducible assumption) | exact pj12 (by with_reducible assumption) | exact pj13 (by with_reducible assumption) | exact pj14 (by with_reducible assumption) | exact pj15 (by with_reducible assumption) | exact pj16 (by with_reducible assumption) | exact pj17 (by with_reducible assumption) | exact pj18 (by with_reducible assumption) | exact pj19 (by with_reducible assumption) | exact pj20 (by with_reducible assumption) | exact pj21 (by with_reducible assumption) | exact pj22 (by with_reducible assumption) | exact pj23 (by with_reducible assumption) | exact pj24 (by with_reducible assumption)
  k_with "pj2" => first | exact ltR (by k_extra "lt") | exact ltL (k := 4) (by k_extra "lt") (Nat.le_of_ble_eq_true rfl) | exact ltLR (k := 4) (by k_extra "lt") (Nat.le_of_ble_eq_true rfl) | exact ltR (by k_extra "pj") | exact ltL (k := 4) (by k_extra "pj") (Nat.le_of_ble_eq_true rfl) | exact ltLR (k := 4) (by k_extra "pj") (Nat.le_of_ble_eq_true rfl)
  k_with "lt" => first | with_reducible assumption | exact ltOf (by with_reducible assumption) (by k_mem)
  k_with "k_ne" => (refine neN ?_; (try dsimp only); first | exact neK rfl | exact neK0 rfl | exact neK1 rfl | exact Nat.ne_of_lt (by k_extra "lt") | exact Nat.ne_of_gt (by k_extra "lt") | exact Nat.ne_of_lt (by k_extra "pj") | exact Nat.ne_of_gt (by k_extra "pj") | exact Nat.ne_of_lt (by k_extra "pj2") | exact Nat.ne_of_gt (by k_extra "pj2") | k_extra "pj" | k_extra "pq" | exact Ne.symm (by k_extra "pj") | omega)
  k_with "mb" => first | with_reducible exact incM | with_reducible assumption | (with_reducible refine incMT ?_; k_extra "mb") | (with_reducible refine incML ?_; k_extra "mb") | (with_reducible refine incMR ?_; k_extra "mb")
  k_with "sbl" => first | with_reducible exact incI | (with_reducible refine incT ?_; k_extra "sbl") | (with_reducible refine incL ?_; k_extra "sbl") | (with_reducible refine incR ?_; k_extra "sbl")
  k_with "sb" => first | with_reducible exact incI | with_reducible exact incN | (with_reducible refine' incC ?m9 ?r9; (case m9 => k_extra "mb"); (case r9 => k_extra "sb")) | (k_extra "sbl") | (with_reducible refine incA ?_ ?_ <;> k_extra "sb")
  k_with "mg" => first | with_reducible exact List.mem_cons_self | (with_reducible refine List.mem_cons_of_mem _ ?_; k_extra "mg")
  k_with "ne1" => first | exact h1 | exact neP h2 (by k_extra "mg") | exact neC h3 (by k_extra "mg") | fail "ne1"
  k_with "nc" => with_reducible first | exact h3 | exact ncN | (refine' ncC ?b9 ?q9; (case b9 => k_extra "ne1"); (case q9 => k_extra "nc")) | fail "nc"
  k_with "sm" => with_reducible first | rfl | (refine' sm1 ?a9 ?r9; (case a9 => k_extra "ne1"); (case r9 => k_extra "sm")) | (refine' sm2 ?h9 ?r9; (case h9 => k_extra "nc"); (case r9 => k_extra "sm")) | (refine sm3 h2 ?_; k_extra "sm") | fail "sm"
  k_with "rm" => first | exact ltA0 (by with_reducible assumption) | exact ltA1 (by with_reducible assumption) (Nat.le_of_ble_eq_true rfl) | exact ltA2 (by with_reducible assumption) (Nat.le_of_ble_eq_true rfl) | exact ltA3 (by with_reducible assumption) (Nat.le_of_ble_eq_true rfl)
  k_with "sz" => first | with_reducible assumption | with_reducible exact Nat.le_of_ble_eq_true (Eq.refl true)
  k_with "my exec For Tuple Call cons nil" => (k_here; (rename Fr _ _ _ _ => lF'); (with_unfolding_all refine' For_turns lF' ?_); k_whole)
  k_with "my call type:zip" => 
    k_here
    rename Fr _ _ _ _ => F8
    rename News _ _ _ _ => N8
    with_unfolding_all refine' ktu_zips (lo2 := listOf [Value.int p0 tp0, .int p1 tp1, .int p2 tp2, .int p3 tp3].toArray pn) (by rfl) F8 N8 (by decide +kernel) (by k_mem) (by rfl) (by rfl) (by rw [show (Str.ofString "a\"cd").cps.toList.length = 4 by decide +kernel]; exact Nat.le_refl 4) eZ ?_
    clear F8 N8
    intro i' l1
    with_unfolding_all refine' zip4 (Led := fun ws c => (tl, listOf ws.toArray c) :: [(pl, listOf [Value.int p0 tp0, .int p1 tp1, .int p2 tp2, .int p3 tp3].toArray pn), (kl, listOf [Value.int kk0 tk0, .int kk1 tk1].toArray nk), (q, listOf us.toArray cap), (L + 1, oK), (L + 2, oO), (L + 3, oC), (L + 4, oS)]) (ps := [(Str.ofString "cells", .ref q), (Str.ofString "end", .str (endT j) te), (Str.ofString "places", .ref pl), (Str.ofString "told", .ref tl)]) (fun (i : Nat) t => Value.str (nm4 (i : Int)) t) (pv5F p0 p1 p2 p3 tp0 tp1 tp2 tp3) (wv5F kk0 kk1 p0 p1 p2 p3) ?_ ?_ _ 0
    all_goals first
      | (intro i ws cap9 m9 r9 hi9 hw9 hK9
         obtain ⟨p9, tp9, kk9, tk9, hT9⟩ := hTn i hi9
         rw [hT9.pv]
         rw [hT9.wv] at hK9
         have hnl := hT9.nl
         clear hTn
         (try dsimp only)
         (try dsimp only [kstB]))
      | (intro m9 t0 t1 t2 t3 c9
         (try dsimp only [wv5F])
         (try dsimp only [kstB]))
  k_with "my call builtin:len" => (k_here; k_dflt (refine' len_at (vs := ws) (k := cap9) (by k_asm) (by k_mem) hw9 (by omega) ?_); (try dsimp only); (try k_fold))
  k_with "my call ref" => first
    | ((with_reducible show wpAny _ _ (call _ [Value.str _ _, Value.int _ _, Value.int _ _]) _ _ _); first | (k_here; k_dflt (refine' CS.use (reply_cs w _ _ _ _ _ _ hnl hT9.p0 hT9.p5 _) ?B ?F ?X ?N ?T ?K ?D ?U ?_; (case B => k_asm); (case F => k_asm); (case X => k_asm); (case N => k_asm); (case T => k_asm); (case K => first | exact rfl | assumption); (case D => first | k_extra "rm" | omega | (show dp + _ + _ < recursionLimit; omega) | (show dp + _ < recursionLimit; omega) | (show _ + _ < recursionLimit; decide)); (case U => first | k_extra "rm" | omega | (show un + _ + 8 * _ < cLine; omega) | (show un + 8 * _ < cLine; omega) | ktr_units); k_whole; intro r9 n9 h9 tk9 F9 N9 p9; obtain ⟨⟨t9, rfl⟩, rfl⟩ := p9; skip; (try dsimp only); (try k_fold))))
    | ((with_reducible show wpAny _ _ (call _ [Value.str (replyV _ _ _) _, _]) _ _ _); (k_here; k_dflt (refine' CS.use ?C ?B ?F ?X ?N ?T ?K ?D ?U ?_; (case B => k_asm); (case F => k_asm); (case X => k_asm); (case N => k_asm); (case T => k_asm); (case K => first | exact rfl | assumption); (case C => exact p229s w (i : Int) p9 _ hT9.i0 hT9.i4 hT9.p0 hT9.p5 _ D9 _ _ _ _ List.mem_cons_self); (case D => first | k_extra "rm" | omega | (show dp + _ + _ < recursionLimit; omega) | (show dp + _ < recursionLimit; omega) | (show _ + _ < recursionLimit; decide)); (case U => first | k_extra "rm" | omega | (show un + _ + 8 * _ < cLine; omega) | (show un + 8 * _ < cLine; omega) | ktr_units)); intro r9 n9 h9 tk9 F9 N9 p9; obtain ⟨pq9, pt9, rfl, rfl, hpl9⟩ := p9; skip; (try dsimp only); (try k_fold)))
    | ((with_reducible show wpAny _ _ (call _ [Value.int _ _, Value.int _ _, _]) _ _ _); rw [hT9.gd]; (k_here; k_dflt (refine' CS.use ?C ?B ?F ?X ?N ?T ?K ?D ?U ?_; (case B => k_asm); (case F => k_asm); (case X => k_asm); (case N => k_asm); (case T => k_asm); (case K => first | exact rfl | assumption); (case C => exact worth_cs w kk9 p9 j _ _ _ hT9.k0 hT9.k3 hT9.p0 hT9.p5 j0 j1 _); (case D => first | k_extra "rm" | omega | (show dp + _ + _ < recursionLimit; omega) | (show dp + _ < recursionLimit; omega) | (show _ + _ < recursionLimit; decide)); (case U => first | k_extra "rm" | omega | (show un + _ + 8 * _ < cLine; omega) | (show un + 8 * _ < cLine; omega) | ktr_units)); intro r9 n9 h9 tk9 F9 N9 p9; obtain ⟨⟨t9, rfl⟩, rfl⟩ := p9; skip; (try dsimp only); (try k_fold)))
  k_with "my eval Name" => (k_here; (with_reducible show wpAny _ _ (eval (PySem.Expr.Name (Str.ofString "kinds") _) (envX _ _ _ _ _ _)) _ _ _); (k_dflt (refine' nameX_C (o := oK) ?zxN ?zxc ?zxm hK ?_ ?zxa ?zxb; (case zxa => rfl); (case zxb => rfl); (case zxN => k_asm); (case zxc => rfl); (case zxm => simp only [List.mem_append, List.mem_cons, true_or, or_true]))))
  k_with "my subscriptTail" =>
       k_here
       (with_reducible show wpAny _ _ (subscriptTail (PySem.Expr.Name _ _) (PySem.Expr.Slice _ _ _ _) (Value.ref _) (Value.ref _)) _ _ _)
       rename Fr _ _ _ _ => F8
       rename News _ _ _ _ => N8
       rename ∀ (p : Addr × Obj), p ∈ _ → p.1 < _ => l8
       (with_unfolding_all refine' slice_any (x0 := Value.str _ _) (x1 := Value.int 21 _) (x2 := Value.int 0 _) (x3 := Value.int 0 _) i hi9 F8 N8 hT9.md l8 ?_ (by with_unfolding_all rfl) (by intro _; with_unfolding_all rfl))
       intro D9 vs9 k9 h9 F9 N9 l9
       clear F8 N8
       (try dsimp only)
       (try k_fold)
  k_with "my subscriptTail Name BinOp ref int" => (k_here; k_dflt (refine' pick_item (vs := [Value.int kk0 tk0, .int kk1 tk1]) (v := .int kk9 tk9) (by k_asm) (by k_mem) hT9.d0 hT9.d1 hT9.kd ?_))
  k_with "my compareOp NotEq ref ref" => (k_here; (k_dflt (refine' ne_pair ?N ?ma ?mb hT9.ok ?u ?_; (case N => k_asm); (case ma => k_mem); (case mb => k_mem); (case u => (show un + 64 < cLine; k_extra "rm")))))
  k_with "my UnrEndW" => 
    rename Fr _ _ _ _ => F8
    rename News _ _ _ _ => N8
    simp only [List.push_toArray] at N8
    (refine' end5 (n' := (tl, listOf (ws ++ [Value.int (rowW kk9 p9) t9]).toArray (cap9 + 1)) :: [(pl, listOf [Value.int p0 tp0, .int p1 tp1, .int p2 tp2, .int p3 tp3].toArray pn), (kl, listOf [Value.int kk0 tk0, .int kk1 tk1].toArray nk), (q, listOf us.toArray cap), (L + 1, oK), (L + 2, oO), (L + 3, oC), (L + 4, oS)]) F8 N8 ?e1 ?e2 (List.forall_mem_cons.mpr ⟨l1 (tl, listOf #[] 0) List.mem_cons_self, fun p hp => l1 p (List.mem_cons_of_mem _ hp)⟩) ?e3 (ps := [(Str.ofString "cells", .ref q), (Str.ofString "end", .str (endT j) te), (Str.ofString "places", .ref pl), (Str.ofString "told", .ref tl)]) ?e6 ⟨?e4, hK9 _ t9 (cap9 + 1)⟩; (case e2 => (refine List.forall_mem_cons.mpr ⟨by k_mem, ?_⟩; (first | (with_reducible refine Inc.use ?_; k_extra "sb") | (intro p hp; simp only [List.mem_append, List.mem_cons, List.not_mem_nil, or_false] at hp ⊢; first | (simp only [hp, true_or, or_true]; done) | ((repeat' (refine Or.elim hp ?_ ?_ <;> clear hp <;> intro hp)) <;> simp only [hp, true_or, or_true]))))); (case e1 => (first | (with_reducible refine Inc.use ?_; k_extra "sb") | (intro p hp; simp only [List.mem_append, List.mem_cons, List.not_mem_nil, or_false] at hp ⊢; first | (simp only [hp, true_or, or_true]; done) | ((repeat' (refine Or.elim hp ?_ ?_ <;> clear hp <;> intro hp)) <;> simp only [hp, true_or, or_true])))); (case e3 => simp [Nat.le_refl]); (case e4 => exact ⟨List.mem_cons_of_mem _ List.mem_cons_self, trivial⟩); (case e6 => kst_all))
  repeat' (first | (k_unfold; (try dsimp only)) | (k_end; wrow_close) | ((with_reducible show wpAny _ _ (execs (_ :: _) _) _ _ _); dsimp only; walk1) | walk1 | (dsimp only; walk1) | (leave1; walk_say "STEP leave1"; try dsimp only) | fail "no step")
  all_goals (refine SegEnd.intro fun ht9 => ?_; (try dsimp only at ht9); k_dflt (refine' LX.use (hZ _ _ _ _ _) ?ho ?hr ?T1 ?B ?F ?ps ?X ?N ?T ?D ?U ?_; (skip); (case B => assumption); (case F => k_asm); (case X => assumption); (case ho => k_is); (case N => first | k_asm | (refine kst_newsOf (by k_asm) ?_; repeat (first | exact List.forall_mem_nil _ | (refine List.forall_mem_cons.mpr ⟨by first | exact List.mem_cons_self | (exact List.mem_cons_of_mem _ List.mem_cons_self) | (exact List.mem_cons_of_mem _ (List.mem_cons_of_mem _ List.mem_cons_self)) | k_mem, ?_⟩)))); (case T => assumption); (case hr => rfl); (case ps => kst_all); (case T1 => first | assumption | omega | (dsimp only; omega) | (with_unfolding_all assumption)); (case D => first | k_extra "rm" | omega); (case U => first | k_extra "rm" | omega); (skip)); all_goals exact fun m' news' h' tk' F9 N9 => hret m' news' h' tk' F9 N9)
end
-- part L0
section
theorem top_off_L0 : True := by
  w_top off
  exact True.intro
noncomputable def LX0 (w : World) (P : Heap → Prop) (k : Nat) (L : Addr) (ps : List (Str × Value)) (news : List (Addr × Obj)) : Prop :=
  FnAt (hd.heap_39 w.params) 188 (fun qual body scope _ => ∀ (mean : ExcName → Option Value) (mg mb : Str → Option Value) (dp un : Nat) (gd : Option (List Code)) (a : Addr) (ccd : Value) (A₀ : Around) (base : Heap) (s : Shared) (m₀ : Str → Option Value) (Q : Flow → Shared → Prop),
    P base → Below A₀ base [] base → Fr base L s.heap (kstB m₀ ps) → (hd.heap_39 w.params).In base → News base L s.heap news → Top hd.view_39 (looseW hd.view_39 [Str.ofString "EXACT_TOKEN_TYPES"]) mean mg mb base → dp + 100 < recursionLimit → un + 800 < cLine →
    (∀ m' news' h' tk', Fr base L h' m' → News base L h' news' → Q (.ret (.bool true)) { s with heap := h', toks := tk' }) →
    wpAny (model PySem.Challenge.rw_yf0019_01.row.prog w) (ktrTop dp un gd qual scope L a ccd (cells4 L) []) (execs (body.drop k) (envX qual scope L a ccd (cells4 L))) Q (fun _ _ => False) s)
theorem CSP.use {w : World} {K : Frag} {P : Heap → Prop} {f : Addr} {d : Nat} {vs : List Value} {news : List (Addr × Obj)} {post : Value → List (Addr × Obj) → Prop} {mean : ExcName → Option Value} {mg mb : Str → Option Value} {dp un : Nat} {gd : Option (List Code)} {cn : Str} {cs : Scope} {a : Addr} {ccd : Value} {cl : List (Str × Addr)} {outer : List Env} {A₀ : Around} {base h₀ : Heap} {L : Addr} {m : Str → Option Value} {s : Shared} {Q E : Value → Shared → Prop}
    (C : CSP w K P f d vs news post) (hP : P h₀) (B : Below A₀ base outer h₀) (F : Fr h₀ L s.heap m) (X : K.In h₀) (N : News h₀ L s.heap news) (T : Top hd.view_39 (looseW hd.view_39 [Str.ofString "EXACT_TOKEN_TYPES"]) mean mg mb h₀) (hk : cs.kind = .function) (hd : dp + d < recursionLimit) (hu : un + 8 * d < cLine)
    (ret : ∀ r news' h' tk', Fr h₀ L h' m → News h₀ L h' news' → post r news' → Q r { s with heap := h', toks := tk' }) :
    wpAny (model PySem.Challenge.rw_yf0019_01.row.prog w) (ktrTop dp un gd cn cs L a ccd cl outer) (call (.ref f) vs) Q E s :=
  C mean mg mb dp un gd cn cs a ccd cl outer A₀ base h₀ L m s Q E hP B F X N T hk hd hu ret
theorem toks_keep {α : Type} {M : Model} {A : Around} {m : Sem α} {n : Nat} {s : Shared} {Q : α → Shared → Prop} {E : Value → Shared → Prop} (hn : n ≤ s.toks) (h : wpAny M A m (fun x s' => n ≤ s'.toks → Q x s') E s) : wpAny M A m Q E s := fun Γ p hΓ =>
  Sem.wp_mono M Γ _ (fun _ _ _ q => q.2 q.1) (fun _ _ _ q => q.2) p s (Sem.wp_toks M Γ n _ _ _ p s hn (h Γ p hΓ))
theorem len7 {l : List Int} (h : l.length = 7) : ∃ a b c d e f g, l = [a, b, c, d, e, f, g] := by
  match l, h with
  | [a, b, c, d, e, f, g], _ => exact ⟨a, b, c, d, e, f, g, rfl⟩
theorem end_fin : ∀ j : Fin 4, pkS [Str.ofString "\" is it", Str.ofString "\"", Str.ofString "", Str.ofString "\" \"z\"\""] (j.val : Int) = endT (j.val : Int) := by decide +kernel
theorem end_is {j : Int} (h0 : 0 ≤ j) (h1 : j < 4) : pkS [Str.ofString "\" is it", Str.ofString "\"", Str.ofString "", Str.ofString "\" \"z\"\""] j = endT j :=
  fin4 (P := fun j => pkS [Str.ofString "\" is it", Str.ofString "\"", Str.ofString "", Str.ofString "\" \"z\"\""] j = endT j) end_fin h0 h1
theorem lx5s (w : World) (L : Addr) (x0 x1 x2 x3 x4 x5 x6 : Int) (te : Tok) (q : Addr) (cap : Nat) (us : List Value) (hI : IntsAre us [x0, x1, x2, x3, x4, x5, x6]) (oK oO oC oS : Obj) (vo vc vs : Option Value) (hO : oO.data = .cell vo) (hC : oC.data = .cell vc) (hS : oS.data = .cell vs) (hlt : L + 4 < q)
    (kl pl tl : Addr) (nk pn : Nat) (tp0 tp1 tp2 tp3 : Tok) (tk0 tk1 : Tok) (hK : oK.data = .cell (some (.ref kl))) (hkl : L + 4 < kl) (hpl : L + 4 < pl) (hlt5 : pl < tl ∧ kl < tl ∧ q < tl ∧ L + 1 < tl ∧ L + 2 < tl ∧ L + 3 < tl ∧ L + 4 < tl) :
    LX w 5 L [(Str.ofString "cells", .ref q), (Str.ofString "end", .str (pkS [Str.ofString "\" is it", Str.ofString "\"", Str.ofString "", Str.ofString "\" \"z\"\""] (x6.fmod 4)) te), (Str.ofString "places", .ref pl), (Str.ofString "told", .ref tl)] [(tl, listOf #[] 0), (pl, listOf [Value.int (1 + x1.fmod 4) tp0, .int (1 + x2.fmod 4) tp1, .int (1 + x3.fmod 5) tp2, .int (1 + x4.fmod 5) tp3].toArray pn), (kl, listOf [Value.int (x0.fmod 3) tk0, .int ((x0.fdiv 3).fmod 3) tk1].toArray nk), (q, listOf us.toArray cap), (L + 1, oK), (L + 2, oO), (L + 3, oC), (L + 4, oS)] := by
  rw [end_is (fm_lo x6 (by decide)) (fm_hi x6 (by decide))]
  have b1 := fm_lo x1 (m := 4) (by decide)
  have c1 := fm_hi x1 (m := 4) (by decide)
  have b2 := fm_lo x2 (m := 4) (by decide)
  have c2 := fm_hi x2 (m := 4) (by decide)
  have b3 := fm_lo x3 (m := 5) (by decide)
  have c3 := fm_hi x3 (m := 5) (by decide)
  have b4 := fm_lo x4 (m := 5) (by decide)
  have c4 := fm_hi x4 (m := 5) (by decide)
  have hp0 : 1 ≤ 1 + x1.fmod 4 ∧ 1 + x1.fmod 4 < 5 := by omega
  have hp1 : 1 ≤ 1 + x2.fmod 4 ∧ 1 + x2.fmod 4 < 5 := by omega
  have hp2 : 1 ≤ 1 + x3.fmod 5 ∧ 1 + x3.fmod 5 < 6 := by omega
  have hp3 : 1 ≤ 1 + x4.fmod 5 ∧ 1 + x4.fmod 5 < 6 := by omega
  obtain ⟨f, st', hev, hBo⟩ := plain_law (k := x5.fmod 6) (k0 := x0.fmod 3) (k1 := (x0.fdiv 3).fmod 3) (fm_lo x5 (by decide)) (fm_hi x5 (by decide)) (fm_lo x0 (by decide)) (fm_hi x0 (by decide)) (fm_lo (x0.fdiv 3) (by decide)) (fm_hi (x0.fdiv 3) (by decide)) hp0 hp1 hp2 hp3
  exact lx5 w L x0 x1 x2 x3 x4 x5 x6 (x6.fmod 4) (fm_lo x6 (by decide)) (fm_hi x6 (by decide)) te q cap us hI oK oO oC oS vo vc vs hO hC hS hlt kl pl tl nk pn 0 _ _ _ _ tp0 tp1 tp2 tp3 _ _ tk0 tk1 f [] hK (fm_lo x0 (by decide)) (fm_hi x0 (by decide)) (fm_lo (x0.fdiv 3) (by decide)) (fm_hi (x0.fdiv 3) (by decide)) hp0 hp1 hp2 hp3 hBo hkl hpl hlt5 st' hev
theorem lx4 (w : World) (L : Addr) (x0 x1 x2 x3 x4 x5 x6 : Int) (te : Tok) (q : Addr) (cap : Nat) (us : List Value) (hI : IntsAre us [x0, x1, x2, x3, x4, x5, x6]) (oK oO oC oS : Obj) (vo vc vs : Option Value) (hO : oO.data = .cell vo) (hC : oC.data = .cell vc) (hS : oS.data = .cell vs) (hlt : L + 4 < q)
    (kl pl : Addr) (nk pn : Nat) (tp0 tp1 tp2 tp3 : Tok) (tk0 tk1 : Tok) (hK : oK.data = .cell (some (.ref kl))) (hkl : L + 4 < kl) (hpl : L + 4 < pl) :
    LX w 4 L [(Str.ofString "cells", .ref q), (Str.ofString "end", .str (pkS [Str.ofString "\" is it", Str.ofString "\"", Str.ofString "", Str.ofString "\" \"z\"\""] (x6.fmod 4)) te), (Str.ofString "places", .ref pl)] [(pl, listOf [Value.int (1 + x1.fmod 4) tp0, .int (1 + x2.fmod 4) tp1, .int (1 + x3.fmod 5) tp2, .int (1 + x4.fmod 5) tp3].toArray pn), (kl, listOf [Value.int (x0.fmod 3) tk0, .int ((x0.fdiv 3).fmod 3) tk1].toArray nk), (q, listOf us.toArray cap), (L + 1, oK), (L + 2, oO), (L + 3, oC), (L + 4, oS)] := by
  have hZ := fun tl m => lx5s w L x0 x1 x2 x3 x4 x5 x6 te q cap us hI oK oO oC oS vo vc vs hO hC hS hlt kl pl tl nk pn tp0 tp1 tp2 tp3 tk0 tk1 hK hkl hpl m
  replace hkl := ltN hkl
  replace hpl := ltN hpl
  replace hlt := ltN hlt
  unfold LX
  k_fill
  refine' fnAt_of ?k6 ?_
  case k6 => k_is
  intro mean mg mb dp un gd a ccd A₀ base s m₀ Q htok B' F9 X' N' T' hd hu hret
  have hk : ScopeKind.function = ScopeKind.function := rfl
  have XB := X'
  have TB := T'
  dsimp only [List.drop]
  dsimp only [kstB] at F9
  refine seg_toks (l1 := [_]) htok ?_
  (try k_fold)
  k_with_none
  k_with "k_mem" => first | exact (by with_reducible assumption) | exact (List.mem_cons_of_mem _ (by with_reducible assumption)) | exact (List.mem_cons_of_mem _ (List.mem_cons_of_mem _ (by with_reducible assumption))) | exact (List.mem_cons_of_mem _ (List.mem_cons_of_mem _ (List.mem_cons_of_mem _ (by with_reducible assumption)))) | exact (List.mem_cons_of_mem _ (List.mem_cons_of_mem _ (List.mem_cons_of_mem _ (List.mem_cons_of_mem _ (by with_reducible assumption)))))
  k_with "pj" => first | with_reducible assumption | exact pj0 (by with_reducible assumption) | exact pj1 (by with_reducible assumption) | exact pj2 (by with_reducible assumption) | exact pj3 (by with_reducible assumption) | exact pj4 (by with_reducible assumption) | exact pj5 (by with_reducible assumption) | exact pj6 (by with_reducible assumption) | exact pj7 (by with_reducible assumption) | exact pj8 (by with_reducible assumption) | exact pj9 (by with_reducible assumption) | exact pj10 (by with_reducible assumption) | exact pj11 (by with_reducible assumption) | exact pj12 (by with_reducible assumption) | exact pj13 (by with_reducible assumption) | exact pj14 (by with_reducible assumption) | exact pj15 (by with_reducible assumption) | exact pj16 (by with_reducible assumption) | exact pj17 (by with_reducible assumption) | exact pj18 (by with_reducible assumption) | exact pj19 (by with_reducible assumption) | exact pj20 (by with_reducible assumption) | exact pj21 (by with_reducible assumption) | exact pj22 (by with_reducible assumption) | exact pj23 (by with_reducible assumption) | exact pj24 (by with_reducible assumption)
  k_with "pj2" => first | exact ltR (by k_extra "lt") | exact ltL (k := 4) (by k_extra "lt") (Nat.le_of_ble_eq_true rfl) | exact ltLR (k := 4) (by k_extra "lt") (Nat.le_of_ble_eq_true rfl) | exact ltR (by k_extra "pj") | exact ltL (k := 4) (by k_extra "pj") (Nat.le_of_ble_eq_true rfl) | exact ltLR (k := 4) (by k_extra "pj") (Nat.le_of_ble_eq_true rfl)
  k_with "lt" => first | with_reducible assumption | exact ltOf (by with_reducible assumption) (by k_mem)
  k_with "k_ne" => (refine neN ?_; (try dsimp only); first | exact neK rfl | exact neK0 rfl | exact neK1 rfl | exact Nat.ne_of_lt (by k_extra "lt") | exact Nat.ne_of_gt (by k_extra "lt") | exact Nat.ne_of_lt (by k_extra "pj") | exact Nat.ne_of_gt (by k_extra "pj") | exact Nat.ne_of_lt (by k_extra "pj2") | exact Nat.ne_of_gt (by k_extra "pj2") | k_extra "pj" | k_extra "pq" | exact Ne.symm (by k_extra "pj") | omega)
  k_with "mb" => first | with_reducible exact incM | with_reducible assumption | (with_reducible refine incMT ?_; k_extra "mb") | (with_reducible refine incML ?_; k_extra "mb") | (with_reducible refine incMR ?_; k_extra "mb")
  k_with "sbl" => first | with_reducible exact incI | (with_reducible refine incT ?_; k_extra "sbl") | (with_reducible refine incL ?_; k_extra "sbl") | (with_reducible refine incR ?_; k_extra "sbl")
  k_with "sb" => first | with_reducible exact incI | with_reducible exact incN | (with_reducible refine' incC ?m9 ?r9; (case m9 => k_extra "mb"); (case r9 => k_extra "sb")) | (k_extra "sbl") | (with_reducible refine incA ?_ ?_ <;> k_extra "sb")
  k_with "mg" => first | with_reducible exact List.mem_cons_self | (with_reducible refine List.mem_cons_of_mem _ ?_; k_extra "mg")
  k_with "ne1" => first | exact h1 | exact neP h2 (by k_extra "mg") | exact neC h3 (by k_extra "mg") | fail "ne1"
  k_with "nc" => with_reducible first | exact h3 | exact ncN | (refine' ncC ?b9 ?q9; (case b9 => k_extra "ne1"); (case q9 => k_extra "nc")) | fail "nc"
  k_with "sm" => with_reducible first | rfl | (refine' sm1 ?a9 ?r9; (case a9 => k_extra "ne1"); (case r9 => k_extra "sm")) | (refine' sm2 ?h9 ?r9; (case h9 => k_extra "nc"); (case r9 => k_extra "sm")) | (refine sm3 h2 ?_; k_extra "sm") | fail "sm"
  k_with "rm" => first | exact ltA0 (by with_reducible assumption) | exact ltA1 (by with_reducible assumption) (Nat.le_of_ble_eq_true rfl) | exact ltA2 (by with_reducible assumption) (Nat.le_of_ble_eq_true rfl) | exact ltA3 (by with_reducible assumption) (Nat.le_of_ble_eq_true rfl)
  k_with "sz" => first | with_reducible assumption | with_reducible exact Nat.le_of_ble_eq_true (Eq.refl true)
  repeat' (first | (k_unfold; (try dsimp only)) | (k_end; wrow_close) | ((with_reducible show wpAny _ _ (execs (_ :: _) _) _ _ _); dsimp only; walk1) | walk1 | (dsimp only; walk1) | (leave1; walk_say "STEP leave1"; try dsimp only) | fail "no step")
  all_goals (refine SegEnd.intro fun ht9 => ?_; (try dsimp only at ht9); k_dflt (refine' LX.use (hZ _ ?zl5) ?ho ?hr ?T1 ?B ?F ?ps ?X ?N ?T ?D ?U ?_; (skip); (case B => assumption); (case F => k_asm); (case X => assumption); (case ho => k_is); (case N => first | k_asm | (refine kst_newsOf (by k_asm) ?_; repeat (first | exact List.forall_mem_nil _ | (refine List.forall_mem_cons.mpr ⟨by first | exact List.mem_cons_self | (exact List.mem_cons_of_mem _ List.mem_cons_self) | (exact List.mem_cons_of_mem _ (List.mem_cons_of_mem _ List.mem_cons_self)) | k_mem, ?_⟩)))); (case T => assumption); (case hr => rfl); (case ps => kst_all); (case T1 => first | assumption | omega | (dsimp only; omega) | (with_unfolding_all assumption)); (case D => first | k_extra "rm" | omega); (case U => first | k_extra "rm" | omega); ((case zl5 => (refine ⟨ltN ?_, ltN ?_, ltN ?_, ltN ?_, ltN ?_, ltN ?_, ltN ?_⟩ <;> first | k_extra "lt" | k_extra "pj2" | omega)))); all_goals exact fun m' news' h' tk' F9 N9 => hret m' news' h' tk' F9 N9)
local macro_rules | `(tactic| walk_at "execs nil") => `(tactic| k_extra "my execs nil")
set_option maxHeartbeats 2000000 in
theorem lx0 (w : World) (L sl : Addr) (vs : List Value) (ns : List Int) (hI : IntsAre vs ns) (hlen : ns.length ≤ 63) (oK oO oC oS : Obj) (vk vo vc v4 : Option Value) (hK : oK.data = .cell vk) (hO : oO.data = .cell vo) (hC : oC.data = .cell vc) (hS : oS.data = .cell v4) :
    LX0 w (fun h => h.IsList sl vs.toArray) 0 L [(Str.ofString "script", .ref sl)] [(L + 4, oS), (L + 3, oC), (L + 2, oO), (L + 1, oK)] := by
  unfold LX0
  k_fill
  refine' fnAt_of ?k6 ?_
  case k6 => k_is
  intro mean mg mb dp un gd a ccd A₀ base s m₀ Q hP B' F9 X' N' T' hd hu hret
  have hk : ScopeKind.function = ScopeKind.function := rfl
  have XB := X'
  have TB := T'
  dsimp only [List.drop]
  dsimp only [kstB] at F9
  refine seg_toks (l1 := [_, _, _, _]) (Nat.zero_le _) ?_
  (try k_fold)
  k_with_none
  k_with "k_mem" => first | exact (by with_reducible assumption) | exact (List.mem_cons_of_mem _ (by with_reducible assumption)) | exact (List.mem_cons_of_mem _ (List.mem_cons_of_mem _ (by with_reducible assumption))) | exact (List.mem_cons_of_mem _ (List.mem_cons_of_mem _ (List.mem_cons_of_mem _ (by with_reducible assumption)))) | exact (List.mem_cons_of_mem _ (List.mem_cons_of_mem _ (List.mem_cons_of_mem _ (List.mem_cons_of_mem _ (by with_reducible assumption)))))
  k_with "pj" => first | with_reducible assumption | exact pj0 (by with_reducible assumption) | exact pj1 (by with_reducible assumption) | exact pj2 (by with_reducible assumption) | exact pj3 (by with_reducible assumption) | exact pj4 (by with_reducible assumption) | exact pj5 (by with_reducible assumption) | exact pj6 (by with_reducible assumption) | exact pj7 (by with_reducible assumption) | exact pj8 (by with_reducible assumption) | exact pj9 (by with_reducible assumption) | exact pj10 (by with_reducible assumption) | exact pj11 (by with_reducible assumption) | exact pj12 (by with_reducible assumption) | exact pj13 (by with_reducible assumption) | exact pj14 (by with_reducible assumption) | exact pj15 (by with_reducible assumption) | exact pj16 (by with_reducible assumption) | exact pj17 (by with_reducible assumption) | exact pj18 (by with_reducible assumption) | exact pj19 (by with_reducible assumption) | exact pj20 (by with_reducible assumption) | exact pj21 (by with_reducible assumption) | exact pj22 (by with_reducible assumption) | exact pj23 (by with_reducible assumption) | exact pj24 (by with_reducible assumption)
  k_with "pj2" => first | exact ltR (by k_extra "lt") | exact ltL (k := 4) (by k_extra "lt") (Nat.le_of_ble_eq_true rfl) | exact ltLR (k := 4) (by k_extra "lt") (Nat.le_of_ble_eq_true rfl) | exact ltR (by k_extra "pj") | exact ltL (k := 4) (by k_extra "pj") (Nat.le_of_ble_eq_true rfl) | exact ltLR (k := 4) (by k_extra "pj") (Nat.le_of_ble_eq_true rfl)
  k_with "lt" => first | with_reducible assumption | exact ltOf (by with_reducible assumption) (by k_mem)
  k_with "k_ne" => (refine neN ?_; (try dsimp only); first | exact neK rfl | exact neK0 rfl | exact neK1 rfl | exact Nat.ne_of_lt (by k_extra "lt") | exact Nat.ne_of_gt (by k_extra "lt") | exact Nat.ne_of_lt (by k_extra "pj") | exact Nat.ne_of_gt (by k_extra "pj") | exact Nat.ne_of_lt (by k_extra "pj2") | exact Nat.ne_of_gt (by k_extra "pj2") | k_extra "pj" | k_extra "pq" | exact Ne.symm (by k_extra "pj") | omega)
  k_with "mb" => first | with_reducible exact incM | with_reducible assumption | (with_reducible refine incMT ?_; k_extra "mb") | (with_reducible refine incML ?_; k_extra "mb") | (with_reducible refine incMR ?_; k_extra "mb")
  k_with "sbl" => first | with_reducible exact incI | (with_reducible refine incT ?_; k_extra "sbl") | (with_reducible refine incL ?_; k_extra "sbl") | (with_reducible refine incR ?_; k_extra "sbl")
  k_with "sb" => first | with_reducible exact incI | with_reducible exact incN | (with_reducible refine' incC ?m9 ?r9; (case m9 => k_extra "mb"); (case r9 => k_extra "sb")) | (k_extra "sbl") | (with_reducible refine incA ?_ ?_ <;> k_extra "sb")
  k_with "mg" => first | with_reducible exact List.mem_cons_self | (with_reducible refine List.mem_cons_of_mem _ ?_; k_extra "mg")
  k_with "ne1" => first | exact h1 | exact neP h2 (by k_extra "mg") | exact neC h3 (by k_extra "mg") | fail "ne1"
  k_with "nc" => with_reducible first | exact h3 | exact ncN | (refine' ncC ?b9 ?q9; (case b9 => k_extra "ne1"); (case q9 => k_extra "nc")) | fail "nc"
  k_with "sm" => with_reducible first | rfl | (refine' sm1 ?a9 ?r9; (case a9 => k_extra "ne1"); (case r9 => k_extra "sm")) | (refine' sm2 ?h9 ?r9; (case h9 => k_extra "nc"); (case r9 => k_extra "sm")) | (refine sm3 h2 ?_; k_extra "sm") | fail "sm"
  k_with "rm" => first | exact ltA0 (by with_reducible assumption) | exact ltA1 (by with_reducible assumption) (Nat.le_of_ble_eq_true rfl) | exact ltA2 (by with_reducible assumption) (Nat.le_of_ble_eq_true rfl) | exact ltA3 (by with_reducible assumption) (Nat.le_of_ble_eq_true rfl)
  k_with "sz" => first | with_reducible assumption | with_reducible exact Nat.le_of_ble_eq_true (Eq.refl true)
  k_with "my call ref" => (k_here; (k_dflt (refine' CSP.use ?C ?P ?B ?F ?X ?N ?T ?K ?D ?U ?_; (case B => k_asm); (case F => k_asm); (case X => k_asm); (case N => k_asm); (case T => k_asm); (case K => first | exact rfl | assumption); (case C => exact cells_cs w sl vs ns hI hlen _); (case P => assumption); (case D => omega); (case U => omega))); intro r9 n9 h9 tk9 F9 N9 p9; obtain ⟨q9, us9, xs9, nn9, rfl, rfl, hI9, hl9, hq9⟩ := p9; obtain ⟨x0, x1, x2, x3, x4, x5, x6, rfl⟩ := len7 hl9; obtain ⟨u0, y0⟩ := ints_get2 hI9 (i := 0) (x := x0) rfl; obtain ⟨u1, y1⟩ := ints_get2 hI9 (i := 1) (x := x1) rfl; obtain ⟨u2, y2⟩ := ints_get2 hI9 (i := 2) (x := x2) rfl; obtain ⟨u3, y3⟩ := ints_get2 hI9 (i := 3) (x := x3) rfl; obtain ⟨u4, y4⟩ := ints_get2 hI9 (i := 4) (x := x4) rfl; obtain ⟨u6, y6⟩ := ints_get2 hI9 (i := 6) (x := x6) rfl; clear hl9; have hq8 := hq9 _ List.mem_cons_self; (try k_lt hq9); (try dsimp only); (try k_fold))
  k_with "my subscriptTail" => first
    | (k_here; k_dflt (refine' pick_item (by k_asm) (by k_mem) (by decide) (by decide) y0 ?_))
    | (k_here; k_dflt (refine' pick_item (by k_asm) (by k_mem) (by decide) (by decide) y1 ?_))
    | (k_here; k_dflt (refine' pick_item (by k_asm) (by k_mem) (by decide) (by decide) y2 ?_))
    | (k_here; k_dflt (refine' pick_item (by k_asm) (by k_mem) (by decide) (by decide) y3 ?_))
    | (k_here; k_dflt (refine' pick_item (by k_asm) (by k_mem) (by decide) (by decide) y4 ?_))
    | (k_here; k_dflt (refine' pick_item (by k_asm) (by k_mem) (by decide) (by decide) y6 ?_))
    | (k_here; k_dflt (refine' pick_item (by k_asm) (by k_mem) (fm_lo _ (by decide)) (Int.lt_trans (fm_hi _ (by decide)) (by decide)) (pk4 (fm_lo _ (by decide)) (fm_hi _ (by decide))) ?_))
  k_with "my execs nil" => (k_here; refine wpAny_execs_nil ?_)
  repeat' (first | (k_unfold; (try dsimp only)) | (k_end; wrow_close) | ((with_reducible show wpAny _ _ (execs (_ :: _) _) _ _ _); dsimp only; walk1) | walk1 | (dsimp only; walk1) | (leave1; walk_say "STEP leave1"; try dsimp only) | fail "no step")
  all_goals (refine SegEnd.intro fun ht9 => ?_; (try dsimp only at ht9); k_dflt (refine' LX.use (lx4 w L x0 x1 x2 x3 x4 x5 x6 _ _ _ _ hI9 _ _ _ _ _ _ _ hO hC hS hq8 _ _ _ _ _ _ _ _ _ _ (by assumption) ?zkl ?zpl) ?ho ?hr ?T1 ?B ?F ?ps ?X ?N ?T ?D ?U ?_; (skip); (case B => assumption); (case F => k_asm); (case X => assumption); (case ho => k_is); (case N => first | k_asm | (refine kst_newsOf (by k_asm) ?_; repeat (first | exact List.forall_mem_nil _ | (refine List.forall_mem_cons.mpr ⟨by first | exact List.mem_cons_self | (exact List.mem_cons_of_mem _ List.mem_cons_self) | (exact List.mem_cons_of_mem _ (List.mem_cons_of_mem _ List.mem_cons_self)) | k_mem, ?_⟩)))); (case T => assumption); (case hr => rfl); (case ps => kst_all); (case T1 => first | assumption | omega | (dsimp only; omega) | (with_unfolding_all assumption)); (case D => first | k_extra "rm" | omega); (case U => first | k_extra "rm" | omega); ((case zkl => (first | k_extra "lt" | (refine ltN ?_; omega))); (case zpl => (first | k_extra "lt" | (refine ltN ?_; omega))))); all_goals exact fun m' news' h' tk' F9 N9 => hret m' news' h' tk' F9 N9)
end
-- part Lj
section
theorem top_off_Lj : True := by
  w_top off
  exact True.intro
theorem LX0.go {w : World} {P : Heap → Prop} {k : Nat} {L : Addr} {ps : List (Str × Value)} {news : List (Addr × Obj)} {mean : ExcName → Option Value} {mg mb : Str → Option Value} {dp un : Nat} {gd : Option (List Code)} {a : Addr} {ccd : Value} {A A₀ : Around} {env : Env} {base : Heap} {s : Shared} {m : Str → Option Value} {Q : Flow → Shared → Prop} {E : Value → Shared → Prop}
    {name qual : Str} {params : Arguments} {body : List Stmt} {scope : Scope} {dV kV doc pm cdv ct oc : Value} {an od : Option Addr} {osl : Array (Option Value)} {rest : List Stmt}
    (C : LX0 w P k L ps news) (ho : (hd.heap_39 w.params).lookup 188 = some ⟨oc, od, .func (fnOf name qual params body scope dV kV doc pm an cdv ct), osl⟩) (hr : body.drop k = rest)
    (he : env = envX qual scope L a ccd (cells4 L)) (hA : A = { handled := none, depth := dp, frames := some [env], guards := gd, units := un }) (hP : P base)
    (B : Below A₀ base [] base) (F : Fr base L s.heap m) (hps : ∀ p ∈ ps, m p.1 = some p.2) (X : (hd.heap_39 w.params).In base) (N : News base L s.heap news) (T : Top hd.view_39 (looseW hd.view_39 [Str.ofString "EXACT_TOKEN_TYPES"]) mean mg mb base) (h1 : dp + 100 < recursionLimit) (h2 : un + 800 < cLine)
    (ret : ∀ m' news' h' tk', Fr base L h' m' → News base L h' news' → Q (.ret (.bool true)) { s with heap := h', toks := tk' }) :
    wpAny (model PySem.Challenge.rw_yf0019_01.row.prog w) A (execs rest env) Q E s := by
  subst hr he hA
  rw [← kst_back hps] at F
  have h := C _ _ _ _ _ _ _ _ _ _ _ _ _ _ _ ho mean mg mb dp un gd a ccd A₀ base s m Q hP B F X N T h1 h2 ret
  exact wpAny_mono h (fun _ _ x => x) (fun _ _ x => x.elim)
noncomputable def hookL : Hook := kHook hd.heap_39 keysAt (fun _ => by kernel_rfl)
theorem lawtop : PySem.Challenge.rw_yf0019_01.Holds := by
  refine holds_law law_said fun said => ?_
  refine holds_open (q := hd.view_39) (loose := [Str.ofString "EXACT_TOKEN_TYPES"]) (Xt := fun s => xlAt hd.view_39 [] s && recOk (RowW.records PySem.Challenge.rw_yf0019_01.row.toRowW) s) (XP := XL hd.view_39 []) (Yf := Hook.obs hookL) (Ya := Hook.val hookL) (YP := Hook.says hookL) (N := 5532) left_ok (Hook.of hookL) (Hook.keeps hookL) (fun s e => xl_of s (Bool.and_eq_true_iff.mp e).1) XL.keeps (by rfl) (by rfl) (by rfl) (fun s e => recFacts_of (Bool.and_eq_true_iff.mp e).2) (by rfl) (by first | assumption | decide +kernel) head_said ⟨rfl, rfl, rfl, rfl, rfl, by decide +kernel⟩ ?hw ?hc
  case hw => w_witness2
  delta hookL
  k_fill
  intro w s₀ s₁ mg mb G Y fa o pm cd doc dV kV ho hd1 hcd hD hmg hg args vals as hpre hlay hrd hwl hlo
  have KX := kIn_of Y
  have V := (Ground.X G).2
  refine Ground.open G ?_
  intro T B D TE TW
  try (refine guard_noD D (by decide +kernel) ?_; clear D)
  clear hmg
  wrow_args hpre hlay hrd hwl hlo
  all_goals
    first | refine callC_kw (enter_call ?_) | refine enter_call ?_
    w_top on
    try refine codeAny_mono ?_ (fun _ _ g => GoodW.toG g)
    have K0 := below_caller (Top.heap T)
    w_call any ho hd1 hcd hD T F
    clear hd1
    k_drop
    try k_fold
  rename Below _ _ _ _ => K9
  rename Fr _ _ _ _ => F9
  rename News _ _ _ _ => N9
  rename Top _ _ _ _ _ _ => T9
  rename IntsAre _ _ => I9
  rename Heap.IsList _ _ _ => L9
  rename Frag.In _ _ => X9
  rename ¬ (_ < _) => C9
  refine' LX0.go (lx0 _ _ _ _ _ I9 ?hlen _ _ _ _ _ _ _ _ ?hK ?hO ?hC ?hS) ?ho ?hr ?he ?hA ?hP ?B ?F ?ps ?X ?N ?T ?D ?U ?_
  case hP => exact L9
  case B => exact K9
  case F => exact F9
  case X => exact X9
  case N => exact N9
  case T => exact T9
  case hlen => omega
  case hK => assumption
  case hO => assumption
  case hC => assumption
  case hS => assumption
  case he => exact rfl
  case hA => exact rfl
  case ho => k_is
  case hr => rfl
  case ps => kst_all
  case D => decide
  case U => decide
  intro m' news' h' tk' F9 N9
  first
    | (k_end; wrow_close)
    | wrow_close
end
end Mine
theorem PySem.Challenge.cw_yf0019_01_holds : PySem.Challenge.rw_yf0019_01.Holds :=
  Mine.lawtop
