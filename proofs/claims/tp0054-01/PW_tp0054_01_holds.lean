import PyProof.Rows.All
import Wide.All
import OpenK.AllK
import Wide.FinOn
import PySem.Challenge.RW_tp0054_01
set_option Elab.async false
set_option linter.all false
section
open PySem PySem.W PySem.Spec PySem.Calls PyProof.Rows
set_option maxRecDepth 100000
set_option maxHeartbeats 0
namespace Mine
noncomputable abbrev pR : Program := PySem.Challenge.rw_tp0054_01.row.prog
noncomputable abbrev st1 (i : Nat) : Option Stmt := pR.main.body[i]?
noncomputable abbrev st2 (i j : Nat) : Option Stmt := match pR.main.body[i]? with | some (.ClassDef _ _ _ b ..) => b[j]? | _ => none
noncomputable abbrev fo {st : Option Stmt} {nm : Str} {ps : Arguments} {b : List Stmt} {dl : List Expr} {rt : Option Expr} {tp : List TypeParam} {sc : Scope} {ts : Option Scope} {bd : Str} {pos : Pos}
    (_ : st = some (.FunctionDef nm ps b dl rt tp sc ts bd pos)) (qual : String) (md : Value) (cd : Addr) : Obj :=
  ⟨.type "function", none, .func ⟨nm, Str.ofString qual, ps, .stmts b, sc, 3, [], .none, .none, .none, md, none, .ref cd, .none, 0⟩, #[]⟩
noncomputable abbrev en (P : Params) (x : String) (t : Nat) (v : Value) : DictEntry := ⟨PyData.keyHash P (Str.ofString x), .str (Str.ofString x) t, v⟩
noncomputable def hd.heap_39 : Params → Frag := fun P =>
  (nat_lit 2, Obj.mk Value.none none (Data.dict #[]) #[]) ::
  (nat_lit 3, Obj.mk (Value.type "dict") none (Data.dict #[en P "__name__" 165 (Value.str (Str.ofString "law_tp0054_01") 533), en P "__doc__" 166 Value.none, en P "__package__" 167 Value.none, en P "__loader__" 168 (Value.builtin "__main__.__loader__#opaque"), en P "__spec__" 169 Value.none, en P "__annotations__" 170 (Value.ref 6), en P "__builtins__" 171 (Value.ref 4), en P "__file__" 173 (Value.str (Str.ofString "/claim/cut.py") 172), en P "__cached__" 174 Value.none, en P "_wall" 193 (Value.ref 21), en P "_raise_serialization_error" 202 (Value.ref 28), en P "_escape_cdata" 209 (Value.ref 35), en P "_escape_attrib" 216 (Value.ref 42), en P "_escape_attrib_html" 223 (Value.ref 49), en P "_escape_cdata_c14n" 230 (Value.ref 56), en P "_escape_attrib_c14n" 237 (Value.ref 63), en P "Whitespace" 339 (Value.ref 125), en P "LPAR" 341 (Value.int 7 340), en P "RPAR" 343 (Value.int 8 342), en P "LSQB" 345 (Value.int 9 344), en P "RSQB" 347 (Value.int 10 346), en P "COLON" 349 (Value.int 11 348), en P "COMMA" 351 (Value.int 12 350), en P "SEMI" 353 (Value.int 13 352), en P "PLUS" 355 (Value.int 14 354), en P "MINUS" 357 (Value.int 15 356), en P "STAR" 359 (Value.int 16 358), en P "SLASH" 361 (Value.int 17 360), en P "VBAR" 363 (Value.int 18 362), en P "AMPER" 365 (Value.int 19 364), en P "LESS" 367 (Value.int 20 366), en P "GREATER" 369 (Value.int 21 368), en P "EQUAL" 371 (Value.int 22 370), en P "DOT" 373 (Value.int 23 372), en P "PERCENT" 375 (Value.int 24 374), en P "LBRACE" 377 (Value.int 25 376), en P "RBRACE" 379 (Value.int 26 378), en P "EQEQUAL" 381 (Value.int 27 380), en P "NOTEQUAL" 383 (Value.int 28 382), en P "LESSEQUAL" 385 (Value.int 29 384), en P "GREATEREQUAL" 387 (Value.int 30 386), en P "TILDE" 389 (Value.int 31 388), en P "CIRCUMFLEX" 391 (Value.int 32 390), en P "LEFTSHIFT" 393 (Value.int 33 392), en P "RIGHTSHIFT" 395 (Value.int 34 394), en P "DOUBLESTAR" 397 (Value.int 35 396), en P "PLUSEQUAL" 399 (Value.int 36 398), en P "MINEQUAL" 401 (Value.int 37 400), en P "STAREQUAL" 403 (Value.int 38 402), en P "SLASHEQUAL" 405 (Value.int 39 404), en P "PERCENTEQUAL" 407 (Value.int 40 406), en P "AMPEREQUAL" 409 (Value.int 41 408), en P "VBAREQUAL" 411 (Value.int 42 410), en P "CIRCUMFLEXEQUAL" 413 (Value.int 43 412), en P "LEFTSHIFTEQUAL" 415 (Value.int 44 414), en P "RIGHTSHIFTEQUAL" 417 (Value.int 45 416), en P "DOUBLESTAREQUAL" 419 (Value.int 46 418), en P "DOUBLESLASH" 421 (Value.int 47 420), en P "DOUBLESLASHEQUAL" 423 (Value.int 48 422), en P "AT" 425 (Value.int 49 424), en P "ATEQUAL" 427 (Value.int 50 426), en P "RARROW" 429 (Value.int 51 428), en P "ELLIPSIS" 431 (Value.int 52 430), en P "COLONEQUAL" 433 (Value.int 53 432), en P "EXCLAMATION" 435 (Value.int 54 434), en P "EXACT_TOKEN_TYPES" 532 (Value.ref 130), en P "_law_sent" 542 (Value.ref 139), en P "_law_spelled" 549 (Value.ref 146), en P "_law_back" 559 (Value.ref 153), en P "_law_joined" 565 (Value.ref 158), en P "_law_text" 572 (Value.ref 165), en P "_law_shown" 580 (Value.ref 172), en P "_law_broken" 586 (Value.ref 177), en P "_law_line" 596 (Value.ref 184), en P "_law_value" 610 (Value.ref 191), en P "_law_told" 625 (Value.ref 198), en P "_law_so" 635 (Value.ref 205), en P "law" 641 (Value.ref 210)] 78) #[]) ::
  (nat_lit 34, Obj.mk (Value.type "code") none (Data.fields #[Value.str (Str.ofString "_escape_cdata") 203, Value.str (Str.ofString "_escape_cdata") 204, Value.str (Str.ofString "/claim/cut.py") 205, Value.int 7 0, Value.int 1 0, Value.int 0 0, Value.int 0 0, Value.int 3 0, Value.ref 29, Value.bool true, Value.int 181 0, Value.ref 30, Value.none, Value.ref 31, Value.ref 32, Value.ref 33, Value.int 207 0, Value.int 7 0, Value.str (Str.ofString "/claim/cut.py") 208]) #[]) ::
  (nat_lit 35, fo (st := (st1 3)) rfl "_escape_cdata" (Value.str (Str.ofString "cpy313.xml.etree.ElementTree") 194) 34) ::
  (nat_lit 41, Obj.mk (Value.type "code") none (Data.fields #[Value.str (Str.ofString "_escape_attrib") 210, Value.str (Str.ofString "_escape_attrib") 211, Value.str (Str.ofString "/claim/cut.py") 212, Value.int 18 0, Value.int 1 0, Value.int 0 0, Value.int 0 0, Value.int 3 0, Value.ref 36, Value.bool true, Value.int 181 0, Value.ref 37, Value.none, Value.ref 38, Value.ref 39, Value.ref 40, Value.int 214 0, Value.int 18 0, Value.str (Str.ofString "/claim/cut.py") 215]) #[]) ::
  (nat_lit 42, fo (st := (st1 4)) rfl "_escape_attrib" (Value.str (Str.ofString "cpy313.xml.etree.ElementTree") 194) 41) ::
  (nat_lit 48, Obj.mk (Value.type "code") none (Data.fields #[Value.str (Str.ofString "_escape_attrib_html") 217, Value.str (Str.ofString "_escape_attrib_html") 218, Value.str (Str.ofString "/claim/cut.py") 219, Value.int 37 0, Value.int 1 0, Value.int 0 0, Value.int 0 0, Value.int 3 0, Value.ref 43, Value.bool true, Value.int 181 0, Value.ref 44, Value.none, Value.ref 45, Value.ref 46, Value.ref 47, Value.int 221 0, Value.int 37 0, Value.str (Str.ofString "/claim/cut.py") 222]) #[]) ::
  (nat_lit 49, fo (st := (st1 5)) rfl "_escape_attrib_html" (Value.str (Str.ofString "cpy313.xml.etree.ElementTree") 194) 48) ::
  (nat_lit 55, Obj.mk (Value.type "code") none (Data.fields #[Value.str (Str.ofString "_escape_cdata_c14n") 224, Value.str (Str.ofString "_escape_cdata_c14n") 225, Value.str (Str.ofString "/claim/cut.py") 226, Value.int 48 0, Value.int 1 0, Value.int 0 0, Value.int 0 0, Value.int 3 0, Value.ref 50, Value.bool true, Value.int 181 0, Value.ref 51, Value.none, Value.ref 52, Value.ref 53, Value.ref 54, Value.int 228 0, Value.int 48 0, Value.str (Str.ofString "/claim/cut.py") 229]) #[]) ::
  (nat_lit 56, fo (st := (st1 6)) rfl "_escape_cdata_c14n" (Value.str (Str.ofString "cpy313.xml.etree.ElementTree") 194) 55) ::
  (nat_lit 62, Obj.mk (Value.type "code") none (Data.fields #[Value.str (Str.ofString "_escape_attrib_c14n") 231, Value.str (Str.ofString "_escape_attrib_c14n") 232, Value.str (Str.ofString "/claim/cut.py") 233, Value.int 61 0, Value.int 1 0, Value.int 0 0, Value.int 0 0, Value.int 3 0, Value.ref 57, Value.bool true, Value.int 181 0, Value.ref 58, Value.none, Value.ref 59, Value.ref 60, Value.ref 61, Value.int 235 0, Value.int 61 0, Value.str (Str.ofString "/claim/cut.py") 236]) #[]) ::
  (nat_lit 63, fo (st := (st1 7)) rfl "_escape_attrib_c14n" (Value.str (Str.ofString "cpy313.xml.etree.ElementTree") 194) 62) ::
  (nat_lit 79, Obj.mk (Value.type "code") none (Data.fields #[Value.str (Str.ofString "__init__") 257, Value.str (Str.ofString "Whitespace.__init__") 258, Value.str (Str.ofString "/claim/cut.py") 259, Value.int 82 0, Value.int 2 0, Value.int 0 0, Value.int 0 0, Value.int 3 0, Value.ref 74, Value.bool true, Value.int 181 0, Value.ref 75, Value.none, Value.ref 76, Value.ref 77, Value.ref 78, Value.int 269 0, Value.int 82 0, Value.str (Str.ofString "/claim/cut.py") 270]) #[]) ::
  (nat_lit 80, fo (st := (st2 9 1)) rfl "Whitespace.__init__" (Value.str (Str.ofString "cpy313.tabnanny") 238) 79) ::
  (nat_lit 86, Obj.mk (Value.type "code") none (Data.fields #[Value.str (Str.ofString "longest_run_of_spaces") 272, Value.str (Str.ofString "Whitespace.longest_run_of_spaces") 273, Value.str (Str.ofString "/claim/cut.py") 274, Value.int 105 0, Value.int 1 0, Value.int 0 0, Value.int 0 0, Value.int 3 0, Value.ref 81, Value.bool true, Value.int 181 0, Value.ref 82, Value.none, Value.ref 83, Value.ref 84, Value.ref 85, Value.int 278 0, Value.int 105 0, Value.str (Str.ofString "/claim/cut.py") 279]) #[]) ::
  (nat_lit 87, fo (st := (st2 9 2)) rfl "Whitespace.longest_run_of_spaces" (Value.str (Str.ofString "cpy313.tabnanny") 238) 86) ::
  (nat_lit 93, Obj.mk (Value.type "code") none (Data.fields #[Value.str (Str.ofString "indent_level") 281, Value.str (Str.ofString "Whitespace.indent_level") 282, Value.str (Str.ofString "/claim/cut.py") 283, Value.int 109 0, Value.int 2 0, Value.int 0 0, Value.int 0 0, Value.int 3 0, Value.ref 88, Value.bool true, Value.int 181 0, Value.ref 89, Value.none, Value.ref 90, Value.ref 91, Value.ref 92, Value.int 290 0, Value.int 109 0, Value.str (Str.ofString "/claim/cut.py") 291]) #[]) ::
  (nat_lit 94, fo (st := (st2 9 3)) rfl "Whitespace.indent_level" (Value.str (Str.ofString "cpy313.tabnanny") 238) 93) ::
  (nat_lit 114, Obj.mk (Value.type "code") none (Data.fields #[Value.str (Str.ofString "less") 309, Value.str (Str.ofString "Whitespace.less") 310, Value.str (Str.ofString "/claim/cut.py") 311, Value.int 122 0, Value.int 2 0, Value.int 0 0, Value.int 0 0, Value.int 3 0, Value.ref 109, Value.bool true, Value.int 181 0, Value.ref 110, Value.none, Value.ref 111, Value.ref 112, Value.ref 113, Value.int 316 0, Value.int 122 0, Value.str (Str.ofString "/claim/cut.py") 317]) #[]) ::
  (nat_lit 115, fo (st := (st2 9 6)) rfl "Whitespace.less" (Value.str (Str.ofString "cpy313.tabnanny") 238) 114) ::
  (nat_lit 124, Obj.mk (Value.type "dict") none (Data.dict #[en P "__module__" 247 (Value.str (Str.ofString "cpy313.tabnanny") 238), en P "__firstlineno__" 251 (Value.int 79 250), en P "S" 255 (Value.str (Str.ofString " ") 253), en P "T" 256 (Value.str (Str.ofString "\t") 254), en P "__init__" 271 (Value.ref 80), en P "longest_run_of_spaces" 280 (Value.ref 87), en P "indent_level" 292 (Value.ref 94), en P "equal" 300 (Value.ref 101), en P "not_equal_witness" 308 (Value.ref 108), en P "less" 318 (Value.ref 115), en P "not_less_witness" 326 (Value.ref 122), en P "__static_attributes__" 332 (Value.ref 123), en P "__dict__" 334 (Value.ref 126), en P "__weakref__" 336 (Value.ref 127), en P "__doc__" 337 Value.none] 4) #[]) ::
  (nat_lit 125, Obj.mk (Value.type "type") none (Data.cls (ClassData.mk (Str.ofString "Whitespace") [Value.type "object"] [Value.ref 125, Value.type "object"] 124 (Str.ofString "Whitespace") true [] [] false none false)) #[none, none, some (Value.str (Str.ofString "Whitespace") 240), some (Value.str (Str.ofString "Whitespace") 248), some (Value.builtin "object.__new__"), some (Value.bool true)]) ::
  (nat_lit 130, Obj.mk (Value.type "dict") none (Data.dict #[en P "!" 436 (Value.int 54 434), en P "!=" 438 (Value.int 28 382), en P "%" 440 (Value.int 24 374), en P "%=" 442 (Value.int 40 406), en P "&" 444 (Value.int 19 364), en P "&=" 446 (Value.int 41 408), en P "(" 448 (Value.int 7 340), en P ")" 450 (Value.int 8 342), en P "*" 452 (Value.int 16 358), en P "**" 454 (Value.int 35 396), en P "**=" 456 (Value.int 46 418), en P "*=" 458 (Value.int 38 402), en P "+" 460 (Value.int 14 354), en P "+=" 462 (Value.int 36 398), en P "," 464 (Value.int 12 350), en P "-" 466 (Value.int 15 356), en P "-=" 468 (Value.int 37 400), en P "->" 470 (Value.int 51 428), en P "." 472 (Value.int 23 372), en P "..." 474 (Value.int 52 430), en P "/" 476 (Value.int 17 360), en P "//" 478 (Value.int 47 420), en P "//=" 480 (Value.int 48 422), en P "/=" 482 (Value.int 39 404), en P ":" 484 (Value.int 11 348), en P ":=" 486 (Value.int 53 432), en P ";" 488 (Value.int 13 352), en P "<" 490 (Value.int 20 366), en P "<<" 492 (Value.int 33 392), en P "<<=" 494 (Value.int 44 414), en P "<=" 496 (Value.int 29 384), en P "=" 498 (Value.int 22 370), en P "==" 500 (Value.int 27 380), en P ">" 502 (Value.int 21 368), en P ">=" 504 (Value.int 30 386), en P ">>" 505 (Value.int 34 394), en P ">>=" 506 (Value.int 45 416), en P "@" 507 (Value.int 49 424), en P "@=" 508 (Value.int 50 426), en P "[" 509 (Value.int 9 344), en P "]" 510 (Value.int 10 346), en P "^" 511 (Value.int 32 390), en P "^=" 512 (Value.int 43 412), en P "{" 513 (Value.int 25 376), en P "|" 514 (Value.int 18 362), en P "|=" 515 (Value.int 42 410), en P "}" 516 (Value.int 26 378), en P "~" 517 (Value.int 31 388)] 48) #[]) ::
  (nat_lit 138, Obj.mk (Value.type "code") none (Data.fields #[Value.str (Str.ofString "_law_sent") 535, Value.str (Str.ofString "_law_sent") 536, Value.str (Str.ofString "/claim/cut.py") 537, Value.int 185 0, Value.int 2 0, Value.int 0 0, Value.int 0 0, Value.int 3 0, Value.ref 133, Value.bool true, Value.int 181 0, Value.ref 134, Value.none, Value.ref 135, Value.ref 136, Value.ref 137, Value.int 540 0, Value.int 185 0, Value.str (Str.ofString "/claim/cut.py") 541]) #[]) ::
  (nat_lit 139, fo (st := (st1 60)) rfl "_law_sent" (Value.str (Str.ofString "law_tp0054_01") 533) 138) ::
  (nat_lit 145, Obj.mk (Value.type "code") none (Data.fields #[Value.str (Str.ofString "_law_spelled") 543, Value.str (Str.ofString "_law_spelled") 544, Value.str (Str.ofString "/claim/cut.py") 545, Value.int 195 0, Value.int 1 0, Value.int 0 0, Value.int 0 0, Value.int 3 0, Value.ref 140, Value.bool true, Value.int 181 0, Value.ref 141, Value.none, Value.ref 142, Value.ref 143, Value.ref 144, Value.int 547 0, Value.int 195 0, Value.str (Str.ofString "/claim/cut.py") 548]) #[]) ::
  (nat_lit 146, fo (st := (st1 61)) rfl "_law_spelled" (Value.str (Str.ofString "law_tp0054_01") 533) 145) ::
  (nat_lit 152, Obj.mk (Value.type "code") none (Data.fields #[Value.str (Str.ofString "_law_back") 550, Value.str (Str.ofString "_law_back") 551, Value.str (Str.ofString "/claim/cut.py") 552, Value.int 197 0, Value.int 2 0, Value.int 0 0, Value.int 0 0, Value.int 3 0, Value.ref 147, Value.bool true, Value.int 181 0, Value.ref 148, Value.none, Value.ref 149, Value.ref 150, Value.ref 151, Value.int 557 0, Value.int 197 0, Value.str (Str.ofString "/claim/cut.py") 558]) #[]) ::
  (nat_lit 153, fo (st := (st1 62)) rfl "_law_back" (Value.str (Str.ofString "law_tp0054_01") 533) 152) ::
  (nat_lit 157, Obj.mk (Value.type "code") none (Data.fields #[Value.str (Str.ofString "_law_joined") 560, Value.str (Str.ofString "_law_joined") 561, Value.str (Str.ofString "/claim/cut.py") 562, Value.int 201 0, Value.int 1 0, Value.int 0 0, Value.int 0 0, Value.int 3 0, Value.ref 154, Value.bool true, Value.int 181 0, Value.ref 155, Value.none, Value.none, Value.none, Value.ref 156, Value.int 563 0, Value.int 201 0, Value.str (Str.ofString "/claim/cut.py") 564]) #[]) ::
  (nat_lit 158, fo (st := (st1 63)) rfl "_law_joined" (Value.str (Str.ofString "law_tp0054_01") 533) 157) ::
  (nat_lit 164, Obj.mk (Value.type "code") none (Data.fields #[Value.str (Str.ofString "_law_text") 566, Value.str (Str.ofString "_law_text") 567, Value.str (Str.ofString "/claim/cut.py") 568, Value.int 208 0, Value.int 1 0, Value.int 0 0, Value.int 0 0, Value.int 3 0, Value.ref 159, Value.bool true, Value.int 181 0, Value.ref 160, Value.none, Value.ref 161, Value.ref 162, Value.ref 163, Value.int 570 0, Value.int 208 0, Value.str (Str.ofString "/claim/cut.py") 571]) #[]) ::
  (nat_lit 165, fo (st := (st1 64)) rfl "_law_text" (Value.str (Str.ofString "law_tp0054_01") 533) 164) ::
  (nat_lit 171, Obj.mk (Value.type "code") none (Data.fields #[Value.str (Str.ofString "_law_shown") 573, Value.str (Str.ofString "_law_shown") 574, Value.str (Str.ofString "/claim/cut.py") 575, Value.int 212 0, Value.int 2 0, Value.int 0 0, Value.int 0 0, Value.int 3 0, Value.ref 166, Value.bool true, Value.int 181 0, Value.ref 167, Value.none, Value.ref 168, Value.ref 169, Value.ref 170, Value.int 578 0, Value.int 212 0, Value.str (Str.ofString "/claim/cut.py") 579]) #[]) ::
  (nat_lit 172, fo (st := (st1 65)) rfl "_law_shown" (Value.str (Str.ofString "law_tp0054_01") 533) 171) ::
  (nat_lit 176, Obj.mk (Value.type "code") none (Data.fields #[Value.str (Str.ofString "_law_broken") 581, Value.str (Str.ofString "_law_broken") 582, Value.str (Str.ofString "/claim/cut.py") 583, Value.int 216 0, Value.int 2 0, Value.int 0 0, Value.int 0 0, Value.int 3 0, Value.ref 173, Value.bool true, Value.int 181 0, Value.ref 174, Value.none, Value.none, Value.none, Value.ref 175, Value.int 584 0, Value.int 216 0, Value.str (Str.ofString "/claim/cut.py") 585]) #[]) ::
  (nat_lit 177, fo (st := (st1 66)) rfl "_law_broken" (Value.str (Str.ofString "law_tp0054_01") 533) 176) ::
  (nat_lit 183, Obj.mk (Value.type "code") none (Data.fields #[Value.str (Str.ofString "_law_line") 587, Value.str (Str.ofString "_law_line") 588, Value.str (Str.ofString "/claim/cut.py") 589, Value.int 230 0, Value.int 3 0, Value.int 0 0, Value.int 0 0, Value.int 3 0, Value.ref 178, Value.bool true, Value.int 181 0, Value.ref 179, Value.none, Value.ref 180, Value.ref 181, Value.ref 182, Value.int 594 0, Value.int 230 0, Value.str (Str.ofString "/claim/cut.py") 595]) #[]) ::
  (nat_lit 184, fo (st := (st1 67)) rfl "_law_line" (Value.str (Str.ofString "law_tp0054_01") 533) 183) ::
  (nat_lit 190, Obj.mk (Value.type "code") none (Data.fields #[Value.str (Str.ofString "_law_value") 597, Value.str (Str.ofString "_law_value") 598, Value.str (Str.ofString "/claim/cut.py") 599, Value.int 235 0, Value.int 1 0, Value.int 0 0, Value.int 0 0, Value.int 3 0, Value.ref 185, Value.bool true, Value.int 181 0, Value.ref 186, Value.none, Value.ref 187, Value.ref 188, Value.ref 189, Value.int 608 0, Value.int 235 0, Value.str (Str.ofString "/claim/cut.py") 609]) #[]) ::
  (nat_lit 191, fo (st := (st1 68)) rfl "_law_value" (Value.str (Str.ofString "law_tp0054_01") 533) 190) ::
  (nat_lit 197, Obj.mk (Value.type "code") none (Data.fields #[Value.str (Str.ofString "_law_told") 611, Value.str (Str.ofString "_law_told") 612, Value.str (Str.ofString "/claim/cut.py") 613, Value.int 251 0, Value.int 1 0, Value.int 0 0, Value.int 0 0, Value.int 3 0, Value.ref 192, Value.bool true, Value.int 181 0, Value.ref 193, Value.none, Value.ref 194, Value.ref 195, Value.ref 196, Value.int 623 0, Value.int 251 0, Value.str (Str.ofString "/claim/cut.py") 624]) #[]) ::
  (nat_lit 198, fo (st := (st1 69)) rfl "_law_told" (Value.str (Str.ofString "law_tp0054_01") 533) 197) ::
  (nat_lit 204, Obj.mk (Value.type "code") none (Data.fields #[Value.str (Str.ofString "_law_so") 626, Value.str (Str.ofString "_law_so") 627, Value.str (Str.ofString "/claim/cut.py") 628, Value.int 268 0, Value.int 2 0, Value.int 0 0, Value.int 0 0, Value.int 3 0, Value.ref 199, Value.bool true, Value.int 181 0, Value.ref 200, Value.none, Value.ref 201, Value.ref 202, Value.ref 203, Value.int 633 0, Value.int 268 0, Value.str (Str.ofString "/claim/cut.py") 634]) #[]) ::
  (nat_lit 205, fo (st := (st1 70)) rfl "_law_so" (Value.str (Str.ofString "law_tp0054_01") 533) 204) ::
  (nat_lit 209, Obj.mk (Value.type "code") none (Data.fields #[Value.str (Str.ofString "law") 636, Value.str (Str.ofString "law") 637, Value.str (Str.ofString "/claim/cut.py") 638, Value.int 273 0, Value.int 1 0, Value.int 0 0, Value.int 0 0, Value.int 3 0, Value.ref 206, Value.bool true, Value.int 181 0, Value.ref 207, Value.none, Value.none, Value.none, Value.ref 208, Value.int 639 0, Value.int 273 0, Value.str (Str.ofString "/claim/cut.py") 640]) #[]) ::
  (nat_lit 210, fo (st := (st1 71)) rfl "law" (Value.str (Str.ofString "law_tp0054_01") 533) 209) :: []
noncomputable def asL : List Addr := [2, 3, 34, 35, 41, 42, 48, 49, 55, 56, 62, 63, 79, 80, 86, 87, 93, 94, 114, 115, 124, 125, 130, 138, 139, 145, 146, 152, 153, 157, 158, 164, 165, 171, 172, 176, 177, 183, 184, 190, 191, 197, 198, 204, 205, 209, 210]
theorem hooked (P : Params) : asL = (hd.heap_39 P).map (·.1) := by kernel_rfl
noncomputable def hd.view_39 : Program := PySem.W.view pR [0, 2, 3, 4, 5, 6, 7, 9, 10, 11, 12, 13, 14, 15, 16, 17, 18, 19, 20, 21, 22, 23, 24, 25, 26, 27, 28, 29, 30, 31, 32, 33, 34, 35, 36, 37, 38, 39, 40, 41, 42, 43, 44, 45, 46, 47, 48, 49, 50, 51, 52, 53, 54, 55, 56, 57, 58, 60, 61, 62, 63, 64, 65, 66, 67, 68, 69, 70, 71]
noncomputable abbrev lsR : List PySem.Str := [PySem.Str.ofString "Whitespace", PySem.Str.ofString "EXACT_TOKEN_TYPES"]
noncomputable abbrev fb {st : Option Stmt} {nm : Str} {ps : Arguments} {b : List Stmt} {dl : List Expr} {rt : Option Expr} {tp : List TypeParam} {sc : Scope} {ts : Option Scope} {bd : Str} {pos : Pos}
    (_ : st = some (.FunctionDef nm ps b dl rt tp sc ts bd pos)) (qual : String) : Obj :=
  ⟨.none, none, .func ⟨nm, Str.ofString qual, ps, .stmts b, sc, 0, [], .none, .none, .none, .none, none, .none, .none, 0⟩, #[]⟩
noncomputable def objs1 (P : Params) : List Obj :=
  (Obj.mk (Value.type "dict") none (Data.dict #[en P "__name__" 1 (Value.str (Str.ofString "builtins") 160), en P "__doc__" 2 (Value.builtin "builtins.__doc__:str#opaque"), en P "__package__" 3 (Value.builtin "builtins.__package__:str#opaque"), en P "__loader__" 4 (Value.builtin "builtins.__loader__:shared#opaque"), en P "__spec__" 5 (Value.builtin "builtins.__spec__#opaque"), en P "__build_class__" 6 (Value.builtin "__build_class__"), en P "__import__" 7 (Value.builtin "__import__"), en P "abs" 8 (Value.builtin "abs"), en P "all" 9 (Value.builtin "all"), en P "any" 10 (Value.builtin "any"), en P "ascii" 11 (Value.builtin "ascii"), en P "bin" 12 (Value.builtin "bin"), en P "breakpoint" 13 (Value.builtin "breakpoint"), en P "callable" 14 (Value.builtin "callable"), en P "chr" 15 (Value.builtin "chr"), en P "compile" 16 (Value.builtin "compile"), en P "delattr" 17 (Value.builtin "delattr"), en P "dir" 18 (Value.builtin "dir"), en P "divmod" 19 (Value.builtin "divmod"), en P "eval" 20 (Value.builtin "eval"), en P "exec" 21 (Value.builtin "exec"), en P "format" 22 (Value.builtin "format"), en P "getattr" 23 (Value.builtin "getattr"), en P "globals" 24 (Value.builtin "globals"), en P "hasattr" 25 (Value.builtin "hasattr"), en P "hash" 26 (Value.builtin "hash"), en P "hex" 27 (Value.builtin "hex"), en P "id" 28 (Value.builtin "id"), en P "input" 29 (Value.builtin "input"), en P "isinstance" 30 (Value.builtin "isinstance"), en P "issubclass" 31 (Value.builtin "issubclass"), en P "iter" 32 (Value.builtin "iter"), en P "aiter" 33 (Value.builtin "aiter"), en P "len" 34 (Value.builtin "len"), en P "locals" 35 (Value.builtin "locals"), en P "max" 36 (Value.builtin "max"), en P "min" 37 (Value.builtin "min"), en P "next" 38 (Value.builtin "next"), en P "anext" 39 (Value.builtin "anext"), en P "oct" 40 (Value.builtin "oct"), en P "ord" 41 (Value.builtin "ord"), en P "pow" 42 (Value.builtin "pow"), en P "print" 43 (Value.builtin "print"), en P "repr" 44 (Value.builtin "repr"), en P "round" 45 (Value.builtin "round"), en P "setattr" 46 (Value.builtin "setattr"), en P "sorted" 47 (Value.builtin "sorted"), en P "sum" 48 (Value.builtin "sum"), en P "vars" 49 (Value.builtin "vars"), en P "None" 50 Value.none, en P "Ellipsis" 51 Value.ellipsis, en P "NotImplemented" 52 Value.notImplemented, en P "False" 53 (Value.bool false), en P "True" 54 (Value.bool true), en P "bool" 55 (Value.type "bool"), en P "memoryview" 56 (Value.type "memoryview"), en P "bytearray" 57 (Value.type "bytearray"), en P "bytes" 58 (Value.type "bytes"), en P "classmethod" 59 (Value.type "classmethod"), en P "complex" 60 (Value.type "complex"), en P "dict" 61 (Value.type "dict"), en P "enumerate" 62 (Value.type "enumerate"), en P "filter" 63 (Value.type "filter"), en P "float" 64 (Value.type "float"), en P "frozenset" 65 (Value.type "frozenset"), en P "property" 66 (Value.type "property"), en P "int" 67 (Value.type "int"), en P "list" 68 (Value.type "list"), en P "map" 69 (Value.type "map"), en P "object" 70 (Value.type "object"), en P "range" 71 (Value.type "range"), en P "reversed" 72 (Value.type "reversed"), en P "set" 73 (Value.type "set"), en P "slice" 74 (Value.type "slice"), en P "staticmethod" 75 (Value.type "staticmethod"), en P "str" 76 (Value.type "str"), en P "super" 77 (Value.type "super"), en P "tuple" 78 (Value.type "tuple"), en P "type" 79 (Value.type "type"), en P "zip" 80 (Value.type "zip"), en P "__debug__" 81 (Value.bool true), en P "BaseException" 82 (Value.type "BaseException"), en P "BaseExceptionGroup" 83 (Value.type "BaseExceptionGroup"), en P "Exception" 84 (Value.type "Exception"), en P "GeneratorExit" 85 (Value.type "GeneratorExit"), en P "KeyboardInterrupt" 86 (Value.type "KeyboardInterrupt"), en P "SystemExit" 87 (Value.type "SystemExit"), en P "ArithmeticError" 88 (Value.type "ArithmeticError"), en P "AssertionError" 89 (Value.type "AssertionError"), en P "AttributeError" 90 (Value.type "AttributeError"), en P "BufferError" 91 (Value.type "BufferError"), en P "EOFError" 92 (Value.type "EOFError"), en P "ImportError" 93 (Value.type "ImportError"), en P "LookupError" 94 (Value.type "LookupError"), en P "MemoryError" 95 (Value.type "MemoryError"), en P "NameError" 96 (Value.type "NameError"), en P "OSError" 97 (Value.type "OSError"), en P "ReferenceError" 98 (Value.type "ReferenceError"), en P "RuntimeError" 99 (Value.type "RuntimeError"), en P "StopAsyncIteration" 100 (Value.type "StopAsyncIteration"), en P "StopIteration" 101 (Value.type "StopIteration"), en P "SyntaxError" 102 (Value.type "SyntaxError"), en P "SystemError" 103 (Value.type "SystemError"), en P "TypeError" 104 (Value.type "TypeError"), en P "ValueError" 105 (Value.type "ValueError"), en P "Warning" 106 (Value.type "Warning"), en P "FloatingPointError" 107 (Value.type "FloatingPointError"), en P "OverflowError" 108 (Value.type "OverflowError"), en P "ZeroDivisionError" 109 (Value.type "ZeroDivisionError"), en P "BytesWarning" 110 (Value.type "BytesWarning"), en P "DeprecationWarning" 111 (Value.type "DeprecationWarning"), en P "EncodingWarning" 112 (Value.type "EncodingWarning"), en P "FutureWarning" 113 (Value.type "FutureWarning"), en P "ImportWarning" 114 (Value.type "ImportWarning"), en P "PendingDeprecationWarning" 115 (Value.type "PendingDeprecationWarning"), en P "ResourceWarning" 116 (Value.type "ResourceWarning"), en P "RuntimeWarning" 117 (Value.type "RuntimeWarning"), en P "SyntaxWarning" 118 (Value.type "SyntaxWarning"), en P "UnicodeWarning" 119 (Value.type "UnicodeWarning"), en P "UserWarning" 120 (Value.type "UserWarning"), en P "BlockingIOError" 121 (Value.type "BlockingIOError"), en P "ChildProcessError" 122 (Value.type "ChildProcessError"), en P "ConnectionError" 123 (Value.type "ConnectionError"), en P "FileExistsError" 124 (Value.type "FileExistsError"), en P "FileNotFoundError" 125 (Value.type "FileNotFoundError"), en P "InterruptedError" 126 (Value.type "InterruptedError"), en P "IsADirectoryError" 127 (Value.type "IsADirectoryError"), en P "NotADirectoryError" 128 (Value.type "NotADirectoryError"), en P "PermissionError" 129 (Value.type "PermissionError"), en P "ProcessLookupError" 130 (Value.type "ProcessLookupError"), en P "TimeoutError" 131 (Value.type "TimeoutError"), en P "IndentationError" 132 (Value.type "IndentationError"), en P "_IncompleteInputError" 133 (Value.type "_IncompleteInputError"), en P "IndexError" 134 (Value.type "IndexError"), en P "KeyError" 135 (Value.type "KeyError"), en P "ModuleNotFoundError" 136 (Value.type "ModuleNotFoundError"), en P "NotImplementedError" 137 (Value.type "NotImplementedError"), en P "PythonFinalizationError" 138 (Value.type "PythonFinalizationError"), en P "RecursionError" 139 (Value.type "RecursionError"), en P "UnboundLocalError" 140 (Value.type "UnboundLocalError"), en P "UnicodeError" 141 (Value.type "UnicodeError"), en P "BrokenPipeError" 142 (Value.type "BrokenPipeError"), en P "ConnectionAbortedError" 143 (Value.type "ConnectionAbortedError"), en P "ConnectionRefusedError" 144 (Value.type "ConnectionRefusedError"), en P "ConnectionResetError" 145 (Value.type "ConnectionResetError"), en P "TabError" 146 (Value.type "TabError"), en P "UnicodeDecodeError" 147 (Value.type "UnicodeDecodeError"), en P "UnicodeEncodeError" 148 (Value.type "UnicodeEncodeError"), en P "UnicodeTranslateError" 149 (Value.type "UnicodeTranslateError"), en P "ExceptionGroup" 150 (Value.type "ExceptionGroup"), en P "EnvironmentError" 151 (Value.type "OSError"), en P "IOError" 152 (Value.type "OSError"), en P "open" 153 (Value.builtin "open"), en P "quit" 154 (Value.builtin "builtins.quit#opaque"), en P "exit" 155 (Value.builtin "builtins.exit#opaque"), en P "copyright" 156 (Value.builtin "builtins.copyright#opaque"), en P "credits" 157 (Value.builtin "builtins.credits#opaque"), en P "license" 158 (Value.builtin "builtins.license#opaque"), en P "help" 159 (Value.builtin "builtins.help#opaque")] 159) #[]) ::
  (Obj.mk (Value.type "dict") none (Data.dict #[en P "builtins" 162 (Value.ref 4), en P "__main__" 163 (Value.ref 5)] 2) #[]) ::
  (Obj.mk Value.none none (Data.dict #[]) #[]) ::
  (Obj.mk (Value.type "dict") none (Data.dict #[en P "__name__" 165 (Value.str (Str.ofString "law_tp0054_01") 533), en P "__doc__" 166 Value.none, en P "__package__" 167 Value.none, en P "__loader__" 168 (Value.builtin "__main__.__loader__#opaque"), en P "__spec__" 169 Value.none, en P "__annotations__" 170 (Value.ref 6), en P "__builtins__" 171 (Value.ref 4), en P "__file__" 173 (Value.str (Str.ofString "/claim/cut.py") 172), en P "__cached__" 174 Value.none, en P "_wall" 193 (Value.ref 21), en P "_raise_serialization_error" 202 (Value.ref 28), en P "_escape_cdata" 209 (Value.ref 35), en P "_escape_attrib" 216 (Value.ref 42), en P "_escape_attrib_html" 223 (Value.ref 49), en P "_escape_cdata_c14n" 230 (Value.ref 56), en P "_escape_attrib_c14n" 237 (Value.ref 63), en P "Whitespace" 339 (Value.ref 125), en P "LPAR" 341 (Value.int 7 340), en P "RPAR" 343 (Value.int 8 342), en P "LSQB" 345 (Value.int 9 344), en P "RSQB" 347 (Value.int 10 346), en P "COLON" 349 (Value.int 11 348), en P "COMMA" 351 (Value.int 12 350), en P "SEMI" 353 (Value.int 13 352), en P "PLUS" 355 (Value.int 14 354), en P "MINUS" 357 (Value.int 15 356), en P "STAR" 359 (Value.int 16 358), en P "SLASH" 361 (Value.int 17 360), en P "VBAR" 363 (Value.int 18 362), en P "AMPER" 365 (Value.int 19 364), en P "LESS" 367 (Value.int 20 366), en P "GREATER" 369 (Value.int 21 368), en P "EQUAL" 371 (Value.int 22 370), en P "DOT" 373 (Value.int 23 372), en P "PERCENT" 375 (Value.int 24 374), en P "LBRACE" 377 (Value.int 25 376), en P "RBRACE" 379 (Value.int 26 378), en P "EQEQUAL" 381 (Value.int 27 380), en P "NOTEQUAL" 383 (Value.int 28 382), en P "LESSEQUAL" 385 (Value.int 29 384), en P "GREATEREQUAL" 387 (Value.int 30 386), en P "TILDE" 389 (Value.int 31 388), en P "CIRCUMFLEX" 391 (Value.int 32 390), en P "LEFTSHIFT" 393 (Value.int 33 392), en P "RIGHTSHIFT" 395 (Value.int 34 394), en P "DOUBLESTAR" 397 (Value.int 35 396), en P "PLUSEQUAL" 399 (Value.int 36 398), en P "MINEQUAL" 401 (Value.int 37 400), en P "STAREQUAL" 403 (Value.int 38 402), en P "SLASHEQUAL" 405 (Value.int 39 404), en P "PERCENTEQUAL" 407 (Value.int 40 406), en P "AMPEREQUAL" 409 (Value.int 41 408), en P "VBAREQUAL" 411 (Value.int 42 410), en P "CIRCUMFLEXEQUAL" 413 (Value.int 43 412), en P "LEFTSHIFTEQUAL" 415 (Value.int 44 414), en P "RIGHTSHIFTEQUAL" 417 (Value.int 45 416), en P "DOUBLESTAREQUAL" 419 (Value.int 46 418), en P "DOUBLESLASH" 421 (Value.int 47 420), en P "DOUBLESLASHEQUAL" 423 (Value.int 48 422), en P "AT" 425 (Value.int 49 424), en P "ATEQUAL" 427 (Value.int 50 426), en P "RARROW" 429 (Value.int 51 428), en P "ELLIPSIS" 431 (Value.int 52 430), en P "COLONEQUAL" 433 (Value.int 53 432), en P "EXCLAMATION" 435 (Value.int 54 434), en P "EXACT_TOKEN_TYPES" 532 (Value.ref 130), en P "_law_sent" 542 (Value.ref 139), en P "_law_spelled" 549 (Value.ref 146), en P "_law_back" 559 (Value.ref 153), en P "_law_joined" 565 (Value.ref 158), en P "_law_text" 572 (Value.ref 165), en P "_law_shown" 580 (Value.ref 172), en P "_law_broken" 586 (Value.ref 177), en P "_law_line" 596 (Value.ref 184), en P "_law_value" 610 (Value.ref 191), en P "_law_told" 625 (Value.ref 198), en P "_law_so" 635 (Value.ref 205), en P "law" 641 (Value.ref 210)] 78) #[]) ::
  (Obj.mk (Value.type "module") (some 0) Data.plain #[]) ::
  (Obj.mk (Value.type "module") (some 3) Data.plain #[]) ::
  (Obj.mk (Value.type "dict") none (Data.dict #[]) #[]) ::
  (Obj.mk (Value.type "tuple") none (Data.seq #[]) #[]) ::
  (Obj.mk Value.none none (Data.fields #[]) #[]) ::
  (Obj.mk (Value.type "code") none (Data.fields #[Value.str (Str.ofString "<module>") 176, Value.str (Str.ofString "<module>") 177, Value.str (Str.ofString "/claim/cut.py") 178, Value.int 1 0, Value.int 0 0, Value.int 0 0, Value.int 0 0, Value.int 0 0, Value.ref 7, Value.bool false, Value.int 175 0, Value.ref 8, Value.none, Value.none, Value.none, Value.none, Value.int 179 0, Value.int 1 0, Value.str (Str.ofString "/claim/cut.py") 180]) #[]) ::
  (Obj.mk (Value.type "frame") none Data.plain #[some (Value.ref 9), some (Value.ref 3), some (Value.ref 3), none, some (Value.str (Str.ofString "__main__") 164), none, some (Value.ref 0)]) ::
  (Obj.mk (Value.type "tuple") none (Data.seq #[]) #[]) ::
  (Obj.mk Value.none none (Data.fields #[Value.int 1 0, Value.int 0 0, Value.ref 20, Value.int 5 0, Value.int 0 0, Value.ref 27, Value.int 7 0, Value.int 0 0, Value.ref 34, Value.int 18 0, Value.int 0 0, Value.ref 41, Value.int 37 0, Value.int 0 0, Value.ref 48, Value.int 48 0, Value.int 0 0, Value.ref 55, Value.int 61 0, Value.int 0 0, Value.ref 62, Value.int 79 0, Value.int 0 0, Value.ref 69, Value.int 185 0, Value.int 0 0, Value.ref 138, Value.int 195 0, Value.int 0 0, Value.ref 145, Value.int 197 0, Value.int 0 0, Value.ref 152, Value.int 201 0, Value.int 0 0, Value.ref 157, Value.int 208 0, Value.int 0 0, Value.ref 164, Value.int 212 0, Value.int 0 0, Value.ref 171, Value.int 216 0, Value.int 0 0, Value.ref 176, Value.int 230 0, Value.int 0 0, Value.ref 183, Value.int 235 0, Value.int 0 0, Value.ref 190, Value.int 251 0, Value.int 0 0, Value.ref 197, Value.int 268 0, Value.int 0 0, Value.ref 204, Value.int 273 0, Value.int 0 0, Value.ref 209]) #[]) ::
  (Obj.mk (Value.type "code") none (Data.fields #[Value.str (Str.ofString "<module>") 182, Value.str (Str.ofString "<module>") 183, Value.str (Str.ofString "/claim/cut.py") 184, Value.int 1 0, Value.int 0 0, Value.int 0 0, Value.int 0 0, Value.int 0 0, Value.ref 11, Value.bool false, Value.int 181 0, Value.ref 12, Value.none, Value.none, Value.none, Value.none, Value.int 185 0, Value.int 1 0, Value.str (Str.ofString "/claim/cut.py") 186]) #[]) ::
  (Obj.mk (Value.type "frame") none Data.plain #[some (Value.ref 13), some (Value.ref 3), some (Value.ref 3), none, some (Value.str (Str.ofString "__main__") 164), none, some (Value.ref 0)]) ::
  (Obj.mk (Value.type "tuple") none (Data.seq #[]) #[]) ::
  (Obj.mk Value.none none (Data.fields #[]) #[]) ::
  (Obj.mk (Value.type "tuple") none (Data.seq #[Value.str (Str.ofString "k") 190]) #[]) ::
  (Obj.mk (Value.type "tuple") none (Data.seq #[]) #[]) ::
  (fb (st := (st1 0)) rfl "_wall") ::
  (Obj.mk (Value.type "code") none (Data.fields #[Value.str (Str.ofString "_wall") 187, Value.str (Str.ofString "_wall") 188, Value.str (Str.ofString "/claim/cut.py") 189, Value.int 1 0, Value.int 1 0, Value.int 0 0, Value.int 0 0, Value.int 3 0, Value.ref 15, Value.bool true, Value.int 181 0, Value.ref 16, Value.none, Value.ref 17, Value.ref 18, Value.ref 19, Value.int 191 0, Value.int 1 0, Value.str (Str.ofString "/claim/cut.py") 192]) #[]) ::
  (fo (st := (st1 0)) rfl "_wall" (Value.str (Str.ofString "__main__") 164) 20) ::
  (Obj.mk (Value.type "tuple") none (Data.seq #[]) #[]) ::
  (Obj.mk Value.none none (Data.fields #[]) #[]) ::
  (Obj.mk (Value.type "tuple") none (Data.seq #[Value.str (Str.ofString "text") 199]) #[]) ::
  (Obj.mk (Value.type "tuple") none (Data.seq #[]) #[]) ::
  (fb (st := (st1 2)) rfl "_raise_serialization_error") ::
  (Obj.mk (Value.type "code") none (Data.fields #[Value.str (Str.ofString "_raise_serialization_error") 196, Value.str (Str.ofString "_raise_serialization_error") 197, Value.str (Str.ofString "/claim/cut.py") 198, Value.int 5 0, Value.int 1 0, Value.int 0 0, Value.int 0 0, Value.int 3 0, Value.ref 22, Value.bool true, Value.int 181 0, Value.ref 23, Value.none, Value.ref 24, Value.ref 25, Value.ref 26, Value.int 200 0, Value.int 5 0, Value.str (Str.ofString "/claim/cut.py") 201]) #[]) ::
  (fo (st := (st1 2)) rfl "_raise_serialization_error" (Value.str (Str.ofString "cpy313.xml.etree.ElementTree") 194) 27) ::
  (Obj.mk (Value.type "tuple") none (Data.seq #[]) #[]) ::
  (Obj.mk Value.none none (Data.fields #[]) #[]) ::
  (Obj.mk (Value.type "tuple") none (Data.seq #[Value.str (Str.ofString "text") 206]) #[]) ::
  (Obj.mk (Value.type "tuple") none (Data.seq #[]) #[]) ::
  (fb (st := (st1 3)) rfl "_escape_cdata") ::
  (Obj.mk (Value.type "code") none (Data.fields #[Value.str (Str.ofString "_escape_cdata") 203, Value.str (Str.ofString "_escape_cdata") 204, Value.str (Str.ofString "/claim/cut.py") 205, Value.int 7 0, Value.int 1 0, Value.int 0 0, Value.int 0 0, Value.int 3 0, Value.ref 29, Value.bool true, Value.int 181 0, Value.ref 30, Value.none, Value.ref 31, Value.ref 32, Value.ref 33, Value.int 207 0, Value.int 7 0, Value.str (Str.ofString "/claim/cut.py") 208]) #[]) ::
  (fo (st := (st1 3)) rfl "_escape_cdata" (Value.str (Str.ofString "cpy313.xml.etree.ElementTree") 194) 34) ::
  (Obj.mk (Value.type "tuple") none (Data.seq #[]) #[]) ::
  (Obj.mk Value.none none (Data.fields #[]) #[]) ::
  (Obj.mk (Value.type "tuple") none (Data.seq #[Value.str (Str.ofString "text") 213]) #[]) ::
  (Obj.mk (Value.type "tuple") none (Data.seq #[]) #[]) ::
  (fb (st := (st1 4)) rfl "_escape_attrib") ::
  (Obj.mk (Value.type "code") none (Data.fields #[Value.str (Str.ofString "_escape_attrib") 210, Value.str (Str.ofString "_escape_attrib") 211, Value.str (Str.ofString "/claim/cut.py") 212, Value.int 18 0, Value.int 1 0, Value.int 0 0, Value.int 0 0, Value.int 3 0, Value.ref 36, Value.bool true, Value.int 181 0, Value.ref 37, Value.none, Value.ref 38, Value.ref 39, Value.ref 40, Value.int 214 0, Value.int 18 0, Value.str (Str.ofString "/claim/cut.py") 215]) #[]) ::
  (fo (st := (st1 4)) rfl "_escape_attrib" (Value.str (Str.ofString "cpy313.xml.etree.ElementTree") 194) 41) ::
  (Obj.mk (Value.type "tuple") none (Data.seq #[]) #[]) ::
  (Obj.mk Value.none none (Data.fields #[]) #[]) ::
  (Obj.mk (Value.type "tuple") none (Data.seq #[Value.str (Str.ofString "text") 220]) #[]) ::
  (Obj.mk (Value.type "tuple") none (Data.seq #[]) #[]) ::
  (fb (st := (st1 5)) rfl "_escape_attrib_html") ::
  (Obj.mk (Value.type "code") none (Data.fields #[Value.str (Str.ofString "_escape_attrib_html") 217, Value.str (Str.ofString "_escape_attrib_html") 218, Value.str (Str.ofString "/claim/cut.py") 219, Value.int 37 0, Value.int 1 0, Value.int 0 0, Value.int 0 0, Value.int 3 0, Value.ref 43, Value.bool true, Value.int 181 0, Value.ref 44, Value.none, Value.ref 45, Value.ref 46, Value.ref 47, Value.int 221 0, Value.int 37 0, Value.str (Str.ofString "/claim/cut.py") 222]) #[]) ::
  (fo (st := (st1 5)) rfl "_escape_attrib_html" (Value.str (Str.ofString "cpy313.xml.etree.ElementTree") 194) 48) ::
  (Obj.mk (Value.type "tuple") none (Data.seq #[]) #[]) ::
  (Obj.mk Value.none none (Data.fields #[]) #[]) ::
  (Obj.mk (Value.type "tuple") none (Data.seq #[Value.str (Str.ofString "text") 227]) #[]) ::
  (Obj.mk (Value.type "tuple") none (Data.seq #[]) #[]) ::
  (fb (st := (st1 6)) rfl "_escape_cdata_c14n") ::
  (Obj.mk (Value.type "code") none (Data.fields #[Value.str (Str.ofString "_escape_cdata_c14n") 224, Value.str (Str.ofString "_escape_cdata_c14n") 225, Value.str (Str.ofString "/claim/cut.py") 226, Value.int 48 0, Value.int 1 0, Value.int 0 0, Value.int 0 0, Value.int 3 0, Value.ref 50, Value.bool true, Value.int 181 0, Value.ref 51, Value.none, Value.ref 52, Value.ref 53, Value.ref 54, Value.int 228 0, Value.int 48 0, Value.str (Str.ofString "/claim/cut.py") 229]) #[]) ::
  (fo (st := (st1 6)) rfl "_escape_cdata_c14n" (Value.str (Str.ofString "cpy313.xml.etree.ElementTree") 194) 55) ::
  (Obj.mk (Value.type "tuple") none (Data.seq #[]) #[]) ::
  (Obj.mk Value.none none (Data.fields #[]) #[]) ::
  (Obj.mk (Value.type "tuple") none (Data.seq #[Value.str (Str.ofString "text") 234]) #[]) ::
  (Obj.mk (Value.type "tuple") none (Data.seq #[]) #[]) ::
  (fb (st := (st1 7)) rfl "_escape_attrib_c14n") ::
  (Obj.mk (Value.type "code") none (Data.fields #[Value.str (Str.ofString "_escape_attrib_c14n") 231, Value.str (Str.ofString "_escape_attrib_c14n") 232, Value.str (Str.ofString "/claim/cut.py") 233, Value.int 61 0, Value.int 1 0, Value.int 0 0, Value.int 0 0, Value.int 3 0, Value.ref 57, Value.bool true, Value.int 181 0, Value.ref 58, Value.none, Value.ref 59, Value.ref 60, Value.ref 61, Value.int 235 0, Value.int 61 0, Value.str (Str.ofString "/claim/cut.py") 236]) #[]) ::
  (fo (st := (st1 7)) rfl "_escape_attrib_c14n" (Value.str (Str.ofString "cpy313.xml.etree.ElementTree") 194) 62) ::
  (Obj.mk (Value.type "tuple") none (Data.seq #[]) #[]) ::
  (Obj.mk (Value.type "builtin_function_or_method") none (Data.fields #[Value.builtin "type.__prepare__", Value.type "type"]) #[]) ::
  (Obj.mk (Value.type "dict") none (Data.dict #[en P "__module__" 247 (Value.str (Str.ofString "cpy313.tabnanny") 238), en P "__qualname__" 249 (Value.str (Str.ofString "Whitespace") 248), en P "__firstlineno__" 251 (Value.int 79 250), en P "S" 255 (Value.str (Str.ofString " ") 253), en P "T" 256 (Value.str (Str.ofString "\t") 254), en P "__init__" 271 (Value.ref 80), en P "longest_run_of_spaces" 280 (Value.ref 87), en P "indent_level" 292 (Value.ref 94), en P "equal" 300 (Value.ref 101), en P "not_equal_witness" 308 (Value.ref 108), en P "less" 318 (Value.ref 115), en P "not_less_witness" 326 (Value.ref 122), en P "__static_attributes__" 332 (Value.ref 123)] 13) #[]) ::
  (Obj.mk (Value.type "tuple") none (Data.seq #[]) #[]) ::
  (Obj.mk Value.none none (Data.fields #[Value.int 82 0, Value.int 4 0, Value.ref 79, Value.int 105 0, Value.int 4 0, Value.ref 86, Value.int 109 0, Value.int 4 0, Value.ref 93, Value.int 116 0, Value.int 4 0, Value.ref 100, Value.int 119 0, Value.int 4 0, Value.ref 107, Value.int 122 0, Value.int 4 0, Value.ref 114, Value.int 133 0, Value.int 4 0, Value.ref 121]) #[]) ::
  (Obj.mk (Value.type "code") none (Data.fields #[Value.str (Str.ofString "Whitespace") 242, Value.str (Str.ofString "Whitespace") 243, Value.str (Str.ofString "/claim/cut.py") 244, Value.int 79 0, Value.int 0 0, Value.int 0 0, Value.int 0 0, Value.int 0 0, Value.ref 67, Value.bool false, Value.int 181 0, Value.ref 68, Value.none, Value.none, Value.none, Value.none, Value.int 245 0, Value.int 79 0, Value.str (Str.ofString "/claim/cut.py") 246]) #[]) ::
  (Obj.mk (Value.type "frame") none Data.plain #[some (Value.ref 69), some (Value.ref 3), some (Value.ref 66), none, some (Value.str (Str.ofString "cpy313.tabnanny") 238), none, some (Value.ref 0)]) ::
  (Obj.mk (Value.type "str_ascii_iterator") none (Data.fields #[Value.none, Value.int 2 0]) #[]) ::
  (Obj.mk (Value.type "tuple") none (Data.seq #[]) #[]) ::
  (Obj.mk (Value.type "StopIteration") none (Data.fields #[Value.ref 72, Value.none, Value.none, Value.none, Value.bool false, Value.none]) #[]) ::
  (Obj.mk (Value.type "tuple") none (Data.seq #[]) #[]) ::
  (Obj.mk Value.none none (Data.fields #[]) #[]) ::
  (Obj.mk (Value.type "tuple") none (Data.seq #[Value.str (Str.ofString "self") 260, Value.str (Str.ofString "ws") 261, Value.str (Str.ofString "S") 262, Value.str (Str.ofString "T") 263, Value.str (Str.ofString "count") 264, Value.str (Str.ofString "b") 265, Value.str (Str.ofString "n") 266, Value.str (Str.ofString "nt") 267, Value.str (Str.ofString "ch") 268]) #[]) ::
  (Obj.mk (Value.type "tuple") none (Data.seq #[]) #[]) ::
  (fb (st := (st2 9 1)) rfl "Whitespace.__init__") ::
  (Obj.mk (Value.type "code") none (Data.fields #[Value.str (Str.ofString "__init__") 257, Value.str (Str.ofString "Whitespace.__init__") 258, Value.str (Str.ofString "/claim/cut.py") 259, Value.int 82 0, Value.int 2 0, Value.int 0 0, Value.int 0 0, Value.int 3 0, Value.ref 74, Value.bool true, Value.int 181 0, Value.ref 75, Value.none, Value.ref 76, Value.ref 77, Value.ref 78, Value.int 269 0, Value.int 82 0, Value.str (Str.ofString "/claim/cut.py") 270]) #[]) ::
  (fo (st := (st2 9 1)) rfl "Whitespace.__init__" (Value.str (Str.ofString "cpy313.tabnanny") 238) 79) ::
  (Obj.mk (Value.type "tuple") none (Data.seq #[]) #[]) ::
  (Obj.mk Value.none none (Data.fields #[]) #[]) ::
  (Obj.mk (Value.type "tuple") none (Data.seq #[Value.str (Str.ofString "self") 275, Value.str (Str.ofString "count") 276, Value.str (Str.ofString "trailing") 277]) #[]) ::
  (Obj.mk (Value.type "tuple") none (Data.seq #[]) #[]) ::
  (fb (st := (st2 9 2)) rfl "Whitespace.longest_run_of_spaces") ::
  (Obj.mk (Value.type "code") none (Data.fields #[Value.str (Str.ofString "longest_run_of_spaces") 272, Value.str (Str.ofString "Whitespace.longest_run_of_spaces") 273, Value.str (Str.ofString "/claim/cut.py") 274, Value.int 105 0, Value.int 1 0, Value.int 0 0, Value.int 0 0, Value.int 3 0, Value.ref 81, Value.bool true, Value.int 181 0, Value.ref 82, Value.none, Value.ref 83, Value.ref 84, Value.ref 85, Value.int 278 0, Value.int 105 0, Value.str (Str.ofString "/claim/cut.py") 279]) #[]) ::
  (fo (st := (st2 9 2)) rfl "Whitespace.longest_run_of_spaces" (Value.str (Str.ofString "cpy313.tabnanny") 238) 86) ::
  (Obj.mk (Value.type "tuple") none (Data.seq #[]) #[]) ::
  (Obj.mk Value.none none (Data.fields #[]) #[]) ::
  (Obj.mk (Value.type "tuple") none (Data.seq #[Value.str (Str.ofString "self") 284, Value.str (Str.ofString "tabsize") 285, Value.str (Str.ofString "count") 286, Value.str (Str.ofString "trailing") 287, Value.str (Str.ofString "il") 288, Value.str (Str.ofString "i") 289]) #[]) ::
  (Obj.mk (Value.type "tuple") none (Data.seq #[]) #[]) ::
  (fb (st := (st2 9 3)) rfl "Whitespace.indent_level") ::
  (Obj.mk (Value.type "code") none (Data.fields #[Value.str (Str.ofString "indent_level") 281, Value.str (Str.ofString "Whitespace.indent_level") 282, Value.str (Str.ofString "/claim/cut.py") 283, Value.int 109 0, Value.int 2 0, Value.int 0 0, Value.int 0 0, Value.int 3 0, Value.ref 88, Value.bool true, Value.int 181 0, Value.ref 89, Value.none, Value.ref 90, Value.ref 91, Value.ref 92, Value.int 290 0, Value.int 109 0, Value.str (Str.ofString "/claim/cut.py") 291]) #[]) ::
  (fo (st := (st2 9 3)) rfl "Whitespace.indent_level" (Value.str (Str.ofString "cpy313.tabnanny") 238) 93) ::
  (Obj.mk (Value.type "tuple") none (Data.seq #[]) #[]) ::
  (Obj.mk Value.none none (Data.fields #[]) #[]) ::
  (Obj.mk (Value.type "tuple") none (Data.seq #[Value.str (Str.ofString "self") 296, Value.str (Str.ofString "other") 297]) #[]) ::
  (Obj.mk (Value.type "tuple") none (Data.seq #[]) #[]) ::
  (fb (st := (st2 9 4)) rfl "Whitespace.equal") ::
  (Obj.mk (Value.type "code") none (Data.fields #[Value.str (Str.ofString "equal") 293, Value.str (Str.ofString "Whitespace.equal") 294, Value.str (Str.ofString "/claim/cut.py") 295, Value.int 116 0, Value.int 2 0, Value.int 0 0, Value.int 0 0, Value.int 3 0, Value.ref 95, Value.bool true, Value.int 181 0, Value.ref 96, Value.none, Value.ref 97, Value.ref 98, Value.ref 99, Value.int 298 0, Value.int 116 0, Value.str (Str.ofString "/claim/cut.py") 299]) #[]) ::
  (fo (st := (st2 9 4)) rfl "Whitespace.equal" (Value.str (Str.ofString "cpy313.tabnanny") 238) 100) ::
  (Obj.mk (Value.type "tuple") none (Data.seq #[]) #[]) ::
  (Obj.mk Value.none none (Data.fields #[]) #[]) ::
  (Obj.mk (Value.type "tuple") none (Data.seq #[Value.str (Str.ofString "self") 304, Value.str (Str.ofString "other") 305]) #[]) ::
  (Obj.mk (Value.type "tuple") none (Data.seq #[]) #[]) ::
  (fb (st := (st2 9 5)) rfl "Whitespace.not_equal_witness") ::
  (Obj.mk (Value.type "code") none (Data.fields #[Value.str (Str.ofString "not_equal_witness") 301, Value.str (Str.ofString "Whitespace.not_equal_witness") 302, Value.str (Str.ofString "/claim/cut.py") 303, Value.int 119 0, Value.int 2 0, Value.int 0 0, Value.int 0 0, Value.int 3 0, Value.ref 102, Value.bool true, Value.int 181 0, Value.ref 103, Value.none, Value.ref 104, Value.ref 105, Value.ref 106, Value.int 306 0, Value.int 119 0, Value.str (Str.ofString "/claim/cut.py") 307]) #[]) ::
  (fo (st := (st2 9 5)) rfl "Whitespace.not_equal_witness" (Value.str (Str.ofString "cpy313.tabnanny") 238) 107) ::
  (Obj.mk (Value.type "tuple") none (Data.seq #[]) #[]) ::
  (Obj.mk Value.none none (Data.fields #[]) #[]) ::
  (Obj.mk (Value.type "tuple") none (Data.seq #[Value.str (Str.ofString "self") 312, Value.str (Str.ofString "other") 313, Value.str (Str.ofString "n") 314, Value.str (Str.ofString "ts") 315]) #[]) ::
  (Obj.mk (Value.type "tuple") none (Data.seq #[]) #[]) ::
  (fb (st := (st2 9 6)) rfl "Whitespace.less") ::
  (Obj.mk (Value.type "code") none (Data.fields #[Value.str (Str.ofString "less") 309, Value.str (Str.ofString "Whitespace.less") 310, Value.str (Str.ofString "/claim/cut.py") 311, Value.int 122 0, Value.int 2 0, Value.int 0 0, Value.int 0 0, Value.int 3 0, Value.ref 109, Value.bool true, Value.int 181 0, Value.ref 110, Value.none, Value.ref 111, Value.ref 112, Value.ref 113, Value.int 316 0, Value.int 122 0, Value.str (Str.ofString "/claim/cut.py") 317]) #[]) ::
  (fo (st := (st2 9 6)) rfl "Whitespace.less" (Value.str (Str.ofString "cpy313.tabnanny") 238) 114) ::
  (Obj.mk (Value.type "tuple") none (Data.seq #[]) #[]) ::
  (Obj.mk Value.none none (Data.fields #[]) #[]) ::
  (Obj.mk (Value.type "tuple") none (Data.seq #[Value.str (Str.ofString "self") 322, Value.str (Str.ofString "other") 323]) #[]) ::
  (Obj.mk (Value.type "tuple") none (Data.seq #[]) #[]) ::
  (fb (st := (st2 9 7)) rfl "Whitespace.not_less_witness") ::
  (Obj.mk (Value.type "code") none (Data.fields #[Value.str (Str.ofString "not_less_witness") 319, Value.str (Str.ofString "Whitespace.not_less_witness") 320, Value.str (Str.ofString "/claim/cut.py") 321, Value.int 133 0, Value.int 2 0, Value.int 0 0, Value.int 0 0, Value.int 3 0, Value.ref 116, Value.bool true, Value.int 181 0, Value.ref 117, Value.none, Value.ref 118, Value.ref 119, Value.ref 120, Value.int 324 0, Value.int 133 0, Value.str (Str.ofString "/claim/cut.py") 325]) #[]) ::
  (fo (st := (st2 9 7)) rfl "Whitespace.not_less_witness" (Value.str (Str.ofString "cpy313.tabnanny") 238) 121) ::
  (Obj.mk (Value.type "tuple") none (Data.seq #[Value.str (Str.ofString "is_simple") 327, Value.str (Str.ofString "n") 328, Value.str (Str.ofString "norm") 329, Value.str (Str.ofString "nt") 330, Value.str (Str.ofString "raw") 331]) #[]) ::
  (Obj.mk (Value.type "dict") none (Data.dict #[en P "__module__" 247 (Value.str (Str.ofString "cpy313.tabnanny") 238), en P "__firstlineno__" 251 (Value.int 79 250), en P "S" 255 (Value.str (Str.ofString " ") 253), en P "T" 256 (Value.str (Str.ofString "\t") 254), en P "__init__" 271 (Value.ref 80), en P "longest_run_of_spaces" 280 (Value.ref 87), en P "indent_level" 292 (Value.ref 94), en P "equal" 300 (Value.ref 101), en P "not_equal_witness" 308 (Value.ref 108), en P "less" 318 (Value.ref 115), en P "not_less_witness" 326 (Value.ref 122), en P "__static_attributes__" 332 (Value.ref 123), en P "__dict__" 334 (Value.ref 126), en P "__weakref__" 336 (Value.ref 127), en P "__doc__" 337 Value.none] 4) #[]) ::
  (Obj.mk (Value.type "type") none (Data.cls (ClassData.mk (Str.ofString "Whitespace") [Value.type "object"] [Value.ref 125, Value.type "object"] 124 (Str.ofString "Whitespace") true [] [] false none false)) #[none, none, some (Value.str (Str.ofString "Whitespace") 240), some (Value.str (Str.ofString "Whitespace") 248), some (Value.builtin "object.__new__"), some (Value.bool true)]) ::
  (Obj.mk (Value.type "getset_descriptor") none (Data.fields #[Value.str (Str.ofString "__dict__") 333, Value.ref 125, Value.builtin "function.__dict__", Value.builtin "function.__dict__#set"]) #[]) ::
  (Obj.mk (Value.type "getset_descriptor") none (Data.fields #[Value.str (Str.ofString "__weakref__") 335, Value.ref 125, Value.builtin "ExceptionGroup.__weakref__", Value.none]) #[]) ::
  (Obj.mk (Value.type "super") none (Data.fields #[Value.ref 125, Value.ref 125, Value.ref 125]) #[]) ::
  (Obj.mk (Value.type "builtin_function_or_method") none (Data.fields #[Value.builtin "object.__init_subclass__", Value.ref 125]) #[]) ::
  (Obj.mk (Value.type "dict") none (Data.dict #[en P "!" 436 (Value.int 54 434), en P "!=" 438 (Value.int 28 382), en P "%" 440 (Value.int 24 374), en P "%=" 442 (Value.int 40 406), en P "&" 444 (Value.int 19 364), en P "&=" 446 (Value.int 41 408), en P "(" 448 (Value.int 7 340), en P ")" 450 (Value.int 8 342), en P "*" 452 (Value.int 16 358), en P "**" 454 (Value.int 35 396), en P "**=" 456 (Value.int 46 418), en P "*=" 458 (Value.int 38 402), en P "+" 460 (Value.int 14 354), en P "+=" 462 (Value.int 36 398), en P "," 464 (Value.int 12 350), en P "-" 466 (Value.int 15 356), en P "-=" 468 (Value.int 37 400), en P "->" 470 (Value.int 51 428), en P "." 472 (Value.int 23 372), en P "..." 474 (Value.int 52 430), en P "/" 476 (Value.int 17 360), en P "//" 478 (Value.int 47 420), en P "//=" 480 (Value.int 48 422), en P "/=" 482 (Value.int 39 404), en P ":" 484 (Value.int 11 348), en P ":=" 486 (Value.int 53 432), en P ";" 488 (Value.int 13 352), en P "<" 490 (Value.int 20 366), en P "<<" 492 (Value.int 33 392), en P "<<=" 494 (Value.int 44 414), en P "<=" 496 (Value.int 29 384), en P "=" 498 (Value.int 22 370), en P "==" 500 (Value.int 27 380), en P ">" 502 (Value.int 21 368), en P ">=" 504 (Value.int 30 386), en P ">>" 505 (Value.int 34 394), en P ">>=" 506 (Value.int 45 416), en P "@" 507 (Value.int 49 424), en P "@=" 508 (Value.int 50 426), en P "[" 509 (Value.int 9 344), en P "]" 510 (Value.int 10 346), en P "^" 511 (Value.int 32 390), en P "^=" 512 (Value.int 43 412), en P "{" 513 (Value.int 25 376), en P "|" 514 (Value.int 18 362), en P "|=" 515 (Value.int 42 410), en P "}" 516 (Value.int 26 378), en P "~" 517 (Value.int 31 388)] 48) #[]) ::
  (Obj.mk (Value.type "dict") none (Data.dict #[en P "->" 470 (Value.int 51 428), en P "." 472 (Value.int 23 372), en P "..." 474 (Value.int 52 430), en P "/" 476 (Value.int 17 360), en P "//" 478 (Value.int 47 420), en P "//=" 480 (Value.int 48 422), en P "/=" 482 (Value.int 39 404), en P ":" 484 (Value.int 11 348), en P ":=" 486 (Value.int 53 432), en P ";" 488 (Value.int 13 352), en P "<" 490 (Value.int 20 366), en P "<<" 492 (Value.int 33 392), en P "<<=" 494 (Value.int 44 414), en P "<=" 496 (Value.int 29 384), en P "=" 498 (Value.int 22 370), en P "==" 500 (Value.int 27 380), en P ">" 502 (Value.int 21 368)] 17) #[]) ::
  (Obj.mk (Value.type "dict") none (Data.dict #[en P ">=" 504 (Value.int 30 386), en P ">>" 505 (Value.int 34 394), en P ">>=" 506 (Value.int 45 416), en P "@" 507 (Value.int 49 424), en P "@=" 508 (Value.int 50 426), en P "[" 509 (Value.int 9 344), en P "]" 510 (Value.int 10 346), en P "^" 511 (Value.int 32 390), en P "^=" 512 (Value.int 43 412), en P "{" 513 (Value.int 25 376), en P "|" 514 (Value.int 18 362), en P "|=" 515 (Value.int 42 410), en P "}" 516 (Value.int 26 378), en P "~" 517 (Value.int 31 388)] 14) #[]) ::
  (Obj.mk (Value.type "tuple") none (Data.seq #[]) #[]) ::
  (Obj.mk Value.none none (Data.fields #[]) #[]) ::
  (Obj.mk (Value.type "tuple") none (Data.seq #[Value.str (Str.ofString "page") 538, Value.str (Str.ofString "hand") 539]) #[]) ::
  (Obj.mk (Value.type "tuple") none (Data.seq #[]) #[]) ::
  (fb (st := (st1 60)) rfl "_law_sent") ::
  (Obj.mk (Value.type "code") none (Data.fields #[Value.str (Str.ofString "_law_sent") 535, Value.str (Str.ofString "_law_sent") 536, Value.str (Str.ofString "/claim/cut.py") 537, Value.int 185 0, Value.int 2 0, Value.int 0 0, Value.int 0 0, Value.int 3 0, Value.ref 133, Value.bool true, Value.int 181 0, Value.ref 134, Value.none, Value.ref 135, Value.ref 136, Value.ref 137, Value.int 540 0, Value.int 185 0, Value.str (Str.ofString "/claim/cut.py") 541]) #[]) ::
  (fo (st := (st1 60)) rfl "_law_sent" (Value.str (Str.ofString "law_tp0054_01") 533) 138) ::
  (Obj.mk (Value.type "tuple") none (Data.seq #[]) #[]) ::
  (Obj.mk Value.none none (Data.fields #[]) #[]) ::
  (Obj.mk (Value.type "tuple") none (Data.seq #[Value.str (Str.ofString "hand") 546]) #[]) ::
  (Obj.mk (Value.type "tuple") none (Data.seq #[]) #[]) ::
  (fb (st := (st1 61)) rfl "_law_spelled") ::
  (Obj.mk (Value.type "code") none (Data.fields #[Value.str (Str.ofString "_law_spelled") 543, Value.str (Str.ofString "_law_spelled") 544, Value.str (Str.ofString "/claim/cut.py") 545, Value.int 195 0, Value.int 1 0, Value.int 0 0, Value.int 0 0, Value.int 3 0, Value.ref 140, Value.bool true, Value.int 181 0, Value.ref 141, Value.none, Value.ref 142, Value.ref 143, Value.ref 144, Value.int 547 0, Value.int 195 0, Value.str (Str.ofString "/claim/cut.py") 548]) #[]) ::
  (fo (st := (st1 61)) rfl "_law_spelled" (Value.str (Str.ofString "law_tp0054_01") 533) 145) ::
  (Obj.mk (Value.type "tuple") none (Data.seq #[]) #[]) ::
  (Obj.mk Value.none none (Data.fields #[]) #[]) ::
  (Obj.mk (Value.type "tuple") none (Data.seq #[Value.str (Str.ofString "text") 553, Value.str (Str.ofString "spelled") 554, Value.str (Str.ofString "sign") 555, Value.str (Str.ofString "spelling") 556]) #[]) ::
  (Obj.mk (Value.type "tuple") none (Data.seq #[]) #[]) ::
  (fb (st := (st1 62)) rfl "_law_back") ::
  (Obj.mk (Value.type "code") none (Data.fields #[Value.str (Str.ofString "_law_back") 550, Value.str (Str.ofString "_law_back") 551, Value.str (Str.ofString "/claim/cut.py") 552, Value.int 197 0, Value.int 2 0, Value.int 0 0, Value.int 0 0, Value.int 3 0, Value.ref 147, Value.bool true, Value.int 181 0, Value.ref 148, Value.none, Value.ref 149, Value.ref 150, Value.ref 151, Value.int 557 0, Value.int 197 0, Value.str (Str.ofString "/claim/cut.py") 558]) #[]) ::
  (fo (st := (st1 62)) rfl "_law_back" (Value.str (Str.ofString "law_tp0054_01") 533) 152) ::
  (Obj.mk (Value.type "tuple") none (Data.seq #[]) #[]) ::
  (Obj.mk Value.none none (Data.fields #[]) #[]) ::
  (fb (st := (st1 63)) rfl "_law_joined") ::
  (Obj.mk (Value.type "code") none (Data.fields #[Value.str (Str.ofString "_law_joined") 560, Value.str (Str.ofString "_law_joined") 561, Value.str (Str.ofString "/claim/cut.py") 562, Value.int 201 0, Value.int 1 0, Value.int 0 0, Value.int 0 0, Value.int 3 0, Value.ref 154, Value.bool true, Value.int 181 0, Value.ref 155, Value.none, Value.none, Value.none, Value.ref 156, Value.int 563 0, Value.int 201 0, Value.str (Str.ofString "/claim/cut.py") 564]) #[]) ::
  (fo (st := (st1 63)) rfl "_law_joined" (Value.str (Str.ofString "law_tp0054_01") 533) 157) ::
  (Obj.mk (Value.type "tuple") none (Data.seq #[]) #[]) ::
  (Obj.mk Value.none none (Data.fields #[]) #[]) ::
  (Obj.mk (Value.type "tuple") none (Data.seq #[Value.str (Str.ofString "claim") 569]) #[]) ::
  (Obj.mk (Value.type "tuple") none (Data.seq #[]) #[]) ::
  (fb (st := (st1 64)) rfl "_law_text") ::
  (Obj.mk (Value.type "code") none (Data.fields #[Value.str (Str.ofString "_law_text") 566, Value.str (Str.ofString "_law_text") 567, Value.str (Str.ofString "/claim/cut.py") 568, Value.int 208 0, Value.int 1 0, Value.int 0 0, Value.int 0 0, Value.int 3 0, Value.ref 159, Value.bool true, Value.int 181 0, Value.ref 160, Value.none, Value.ref 161, Value.ref 162, Value.ref 163, Value.int 570 0, Value.int 208 0, Value.str (Str.ofString "/claim/cut.py") 571]) #[]) ::
  (fo (st := (st1 64)) rfl "_law_text" (Value.str (Str.ofString "law_tp0054_01") 533) 164) ::
  (Obj.mk (Value.type "tuple") none (Data.seq #[]) #[]) ::
  (Obj.mk Value.none none (Data.fields #[]) #[]) ::
  (Obj.mk (Value.type "tuple") none (Data.seq #[Value.str (Str.ofString "so") 576, Value.str (Str.ofString "claim") 577]) #[]) ::
  (Obj.mk (Value.type "tuple") none (Data.seq #[]) #[]) ::
  (fb (st := (st1 65)) rfl "_law_shown") ::
  (Obj.mk (Value.type "code") none (Data.fields #[Value.str (Str.ofString "_law_shown") 573, Value.str (Str.ofString "_law_shown") 574, Value.str (Str.ofString "/claim/cut.py") 575, Value.int 212 0, Value.int 2 0, Value.int 0 0, Value.int 0 0, Value.int 3 0, Value.ref 166, Value.bool true, Value.int 181 0, Value.ref 167, Value.none, Value.ref 168, Value.ref 169, Value.ref 170, Value.int 578 0, Value.int 212 0, Value.str (Str.ofString "/claim/cut.py") 579]) #[]) ::
  (fo (st := (st1 65)) rfl "_law_shown" (Value.str (Str.ofString "law_tp0054_01") 533) 171) ::
  (Obj.mk (Value.type "tuple") none (Data.seq #[]) #[]) ::
  (Obj.mk Value.none none (Data.fields #[]) #[]) ::
  (fb (st := (st1 66)) rfl "_law_broken") ::
  (Obj.mk (Value.type "code") none (Data.fields #[Value.str (Str.ofString "_law_broken") 581, Value.str (Str.ofString "_law_broken") 582, Value.str (Str.ofString "/claim/cut.py") 583, Value.int 216 0, Value.int 2 0, Value.int 0 0, Value.int 0 0, Value.int 3 0, Value.ref 173, Value.bool true, Value.int 181 0, Value.ref 174, Value.none, Value.none, Value.none, Value.ref 175, Value.int 584 0, Value.int 216 0, Value.str (Str.ofString "/claim/cut.py") 585]) #[]) ::
  (fo (st := (st1 66)) rfl "_law_broken" (Value.str (Str.ofString "law_tp0054_01") 533) 176) ::
  (Obj.mk (Value.type "tuple") none (Data.seq #[]) #[]) ::
  (Obj.mk Value.none none (Data.fields #[]) #[]) ::
  (Obj.mk (Value.type "tuple") none (Data.seq #[Value.str (Str.ofString "units") 590, Value.str (Str.ofString "place") 591, Value.str (Str.ofString "row") 592, Value.str (Str.ofString "runs") 593]) #[]) ::
  (Obj.mk (Value.type "tuple") none (Data.seq #[]) #[]) ::
  (fb (st := (st1 67)) rfl "_law_line") ::
  (Obj.mk (Value.type "code") none (Data.fields #[Value.str (Str.ofString "_law_line") 587, Value.str (Str.ofString "_law_line") 588, Value.str (Str.ofString "/claim/cut.py") 589, Value.int 230 0, Value.int 3 0, Value.int 0 0, Value.int 0 0, Value.int 3 0, Value.ref 178, Value.bool true, Value.int 181 0, Value.ref 179, Value.none, Value.ref 180, Value.ref 181, Value.ref 182, Value.int 594 0, Value.int 230 0, Value.str (Str.ofString "/claim/cut.py") 595]) #[]) ::
  (fo (st := (st1 67)) rfl "_law_line" (Value.str (Str.ofString "law_tp0054_01") 533) 183) ::
  (Obj.mk (Value.type "tuple") none (Data.seq #[]) #[]) ::
  (Obj.mk Value.none none (Data.fields #[]) #[]) ::
  (Obj.mk (Value.type "tuple") none (Data.seq #[Value.str (Str.ofString "text") 600, Value.str (Str.ofString "pile") 601, Value.str (Str.ofString "place") 602, Value.str (Str.ofString "size") 603, Value.str (Str.ofString "kind") 604, Value.str (Str.ofString "right") 605, Value.str (Str.ofString "sign") 606, Value.str (Str.ofString "left") 607]) #[]) ::
  (Obj.mk (Value.type "tuple") none (Data.seq #[]) #[]) ::
  (fb (st := (st1 68)) rfl "_law_value") ::
  (Obj.mk (Value.type "code") none (Data.fields #[Value.str (Str.ofString "_law_value") 597, Value.str (Str.ofString "_law_value") 598, Value.str (Str.ofString "/claim/cut.py") 599, Value.int 235 0, Value.int 1 0, Value.int 0 0, Value.int 0 0, Value.int 3 0, Value.ref 185, Value.bool true, Value.int 181 0, Value.ref 186, Value.none, Value.ref 187, Value.ref 188, Value.ref 189, Value.int 608 0, Value.int 235 0, Value.str (Str.ofString "/claim/cut.py") 609]) #[]) ::
  (fo (st := (st1 68)) rfl "_law_value" (Value.str (Str.ofString "law_tp0054_01") 533) 190) ::
  (Obj.mk (Value.type "tuple") none (Data.seq #[]) #[]) ::
  (Obj.mk Value.none none (Data.fields #[]) #[]) ::
  (Obj.mk (Value.type "tuple") none (Data.seq #[Value.str (Str.ofString "lines") 614, Value.str (Str.ofString "pile") 615, Value.str (Str.ofString "told") 616, Value.str (Str.ofString "line") 617, Value.str (Str.ofString "white") 618, Value.str (Str.ofString "text") 619, Value.str (Str.ofString "value") 620, Value.str (Str.ofString "above") 621, Value.str (Str.ofString "alone") 622]) #[]) ::
  (Obj.mk (Value.type "tuple") none (Data.seq #[]) #[]) ::
  (fb (st := (st1 69)) rfl "_law_told") ::
  (Obj.mk (Value.type "code") none (Data.fields #[Value.str (Str.ofString "_law_told") 611, Value.str (Str.ofString "_law_told") 612, Value.str (Str.ofString "/claim/cut.py") 613, Value.int 251 0, Value.int 1 0, Value.int 0 0, Value.int 0 0, Value.int 3 0, Value.ref 192, Value.bool true, Value.int 181 0, Value.ref 193, Value.none, Value.ref 194, Value.ref 195, Value.ref 196, Value.int 623 0, Value.int 251 0, Value.str (Str.ofString "/claim/cut.py") 624]) #[]) ::
  (fo (st := (st1 69)) rfl "_law_told" (Value.str (Str.ofString "law_tp0054_01") 533) 197) ::
  (Obj.mk (Value.type "tuple") none (Data.seq #[]) #[]) ::
  (Obj.mk Value.none none (Data.fields #[]) #[]) ::
  (Obj.mk (Value.type "tuple") none (Data.seq #[Value.str (Str.ofString "claim") 629, Value.str (Str.ofString "row") 630, Value.str (Str.ofString "left") 631, Value.str (Str.ofString "right") 632]) #[]) ::
  (Obj.mk (Value.type "tuple") none (Data.seq #[]) #[]) ::
  (fb (st := (st1 70)) rfl "_law_so") ::
  (Obj.mk (Value.type "code") none (Data.fields #[Value.str (Str.ofString "_law_so") 626, Value.str (Str.ofString "_law_so") 627, Value.str (Str.ofString "/claim/cut.py") 628, Value.int 268 0, Value.int 2 0, Value.int 0 0, Value.int 0 0, Value.int 3 0, Value.ref 199, Value.bool true, Value.int 181 0, Value.ref 200, Value.none, Value.ref 201, Value.ref 202, Value.ref 203, Value.int 633 0, Value.int 268 0, Value.str (Str.ofString "/claim/cut.py") 634]) #[]) ::
  (fo (st := (st1 70)) rfl "_law_so" (Value.str (Str.ofString "law_tp0054_01") 533) 204) ::
  (Obj.mk (Value.type "tuple") none (Data.seq #[]) #[]) ::
  (Obj.mk Value.none none (Data.fields #[]) #[]) ::
  (fb (st := (st1 71)) rfl "law") ::
  (Obj.mk (Value.type "code") none (Data.fields #[Value.str (Str.ofString "law") 636, Value.str (Str.ofString "law") 637, Value.str (Str.ofString "/claim/cut.py") 638, Value.int 273 0, Value.int 1 0, Value.int 0 0, Value.int 0 0, Value.int 3 0, Value.ref 206, Value.bool true, Value.int 181 0, Value.ref 207, Value.none, Value.none, Value.none, Value.ref 208, Value.int 639 0, Value.int 273 0, Value.str (Str.ofString "/claim/cut.py") 640]) #[]) ::
  (fo (st := (st1 71)) rfl "law" (Value.str (Str.ofString "law_tp0054_01") 533) 209) :: []
noncomputable def S1 (P : Params) : Shared := ⟨⟨⟨objs1 P⟩, Life.mk [] [] [] 0 [] [] false #[] [] 0 false false false 0 [2000, 10, 10] false 0 true [] [] 0 false⟩, #[], Drawn.mk 0 0 0 0, 642, (PySem.start (opening pR)).1.os⟩
/-! a run over a tree for the heap (cheap in the kernel) tells the run over the list -/
noncomputable def runG (thr ok : Thread → Bool) (stp : SharedT → Thread → Option (SharedT × Thread)) : Nat → SharedT → Thread → Option SharedT
  | 0, _, _ => none
  | n + 1, s, t => match thr t with
    | true => some s
    | false => match ok t with
      | false => none
      | true => match stp s t with
        | some (s', t') => runG thr ok stp n s' t'
        | none => none
theorem runG_spec {tb : String → Option Builtin} {p : Program} {w : World} {n₀ : Nat} {ann : Option Value} : ∀ {n : Nat} {s s' : SharedT} {t : Thread},
    runG through (stepOk n₀ ann) (stepT (denote tb) p w) n s t = some s' → topRun tb p w n₀ ann n s.abs t = some s'.abs
  | 0, _, _, _, h => by cases h
  | n + 1, s, s', t, h => by
    unfold runG at h
    unfold topRun
    cases ht : through t with
    | true => rw [ht] at h; cases h; rfl
    | false =>
      rw [ht] at h
      cases hk : stepOk n₀ ann t with
      | false => rw [hk] at h; cases h
      | true =>
        rw [hk] at h
        cases hs : stepT (denote tb) p w s t with
        | none => rw [hs] at h; cases h
        | some r => obtain ⟨s₂, t₂⟩ := r; rw [hs] at h; rw [stepT_spec hs]; exact runG_spec h
noncomputable def FullT (t : BT) (n : Nat) : Prop := ∀ i, (t.get i).isSome = decide (i < n)
theorem FullT.ins (o : Obj) : ∀ {t : BT} {n : Nat}, FullT t n → ((t.ins n o).get n).isSome = true
  | .nil, n, h => by
    have h0 : n = 0 := by
      have := h 0
      have e : (BT.nil.get 0).isSome = false := rfl
      rw [e] at this
      have := of_decide_eq_false this.symm
      omega
    subst h0
    rfl
  | .node v l r, n, h => by
    have h0 : 0 < n := by
      have := h 0
      rw [BT.get_node, if_pos rfl] at this
      exact of_decide_eq_true this.symm
    rw [BT.ins_node, if_neg (by omega)]
    by_cases q : n % 2 = 1
    · rw [if_pos q, BT.get_node, if_neg (by omega), if_pos q]
      refine FullT.ins o fun i => ?_
      have := h (2 * i + 1)
      rw [BT.get_node, if_neg (by omega), if_pos (by omega), show (2 * i + 1) / 2 = i by omega] at this
      rw [this]
      exact decide_eq_decide.mpr (by omega)
    · rw [if_neg q, BT.get_node, if_neg (by omega), if_neg q]
      refine FullT.ins o fun i => ?_
      have := h (2 * i + 2)
      rw [BT.get_node, if_neg (by omega), if_neg (by omega), show (2 * i + 2) / 2 - 1 = i by omega] at this
      rw [this]
      exact decide_eq_decide.mpr (by omega)
noncomputable def ofL : List Obj → Nat → BT → BT
  | [], _, t => t
  | o :: r, n, t => ofL r (n + 1) (t.ins n o)
theorem ofL_abs (life : Life) : ∀ (r : List Obj) (n : Nat) (t : BT), FullT t n → (absHeap (ofL r n t) (n + r.length) life).objs.toList = (absHeap t n life).objs.toList ++ r
  | [], n, t, _ => by simp [ofL]
  | o :: r, n, t, h => by
    have hi := FullT.ins o h
    have hF : FullT (t.ins n o) (n + 1) := fun i => by
      rw [BT.get_ins o t n hi]
      by_cases e : i = n
      · rw [if_pos e]; exact (decide_eq_true (by omega)).symm
      · rw [if_neg e, h i]; exact decide_eq_decide.mpr (by omega)
    have ih := ofL_abs life r (n + 1) (t.ins n o) hF
    rw [List.length_cons, show n + (r.length + 1) = n + 1 + r.length by omega]
    show (absHeap (ofL r (n + 1) (t.ins n o)) (n + 1 + r.length) life).objs.toList = _
    rw [ih, absHeap_ins hi]
    show ((absHeap t n life).objs.push o).toList ++ r = _
    rw [Array.toList_push, List.append_assoc]
    rfl
noncomputable def toT (s : Shared) : SharedT := ⟨ofL s.heap.objs.toList 0 .nil, s.heap.objs.size, s.heap.life, s.gens, s.drawn, s.toks, s.os⟩
theorem toT_abs (s : Shared) : (toT s).abs = s := by
  have h := ofL_abs s.heap.life s.heap.objs.toList 0 .nil fun i => (decide_eq_false (Nat.not_lt_zero i)).symm
  rw [Nat.zero_add, Array.length_toList] at h
  have e : absHeap (ofL s.heap.objs.toList 0 .nil) s.heap.objs.size s.heap.life = s.heap := by
    have h' : (absHeap (ofL s.heap.objs.toList 0 .nil) s.heap.objs.size s.heap.life).objs = s.heap.objs := Array.ext' (by rw [h]; rfl)
    show Heap.mk _ _ = Heap.mk _ _
    exact congrArg (Heap.mk · s.heap.life) h'
  unfold toT SharedT.abs
  simp only [e]
noncomputable def topT (tb : String → Option Builtin) (p : Program) (w : World) (N : Nat) (s₀ : Shared) : Option Shared :=
  match s₀.heap.isNs mainGlobals && s₀.gens.size == 0 with
  | true => (runG through (stepOk s₀.heap.objs.size (s₀.heap.nsMap mainGlobals "__annotations__")) (stepT (denote tb) p w) N (toT s₀) (topStub p)).bind fun s₁ => match staticsOk (importedModules p.main.body) s₀.heap s₁.abs.heap && namesBound p s₁.abs.heap && gensDone s₁.abs && laidKept s₀.heap s₁.abs.heap with
      | true => some s₁.abs
      | false => none
  | false => none
theorem topT_spec {tb : String → Option Builtin} {p : Program} {w : World} {N : Nat} {s₀ s₁ : Shared} (h : topT tb p w N s₀ = some s₁) : topFrom tb p w N s₀ = some s₁ := by
  unfold topT at h
  unfold topFrom
  cases h1 : s₀.heap.isNs mainGlobals && s₀.gens.size == 0 with
  | false => rw [h1] at h; cases h
  | true =>
    rw [h1] at h
    obtain ⟨sT, h2, h3⟩ := Option.bind_eq_some_iff.mp h
    have h4 := runG_spec h2
    rw [toT_abs] at h4
    show (topRun _ _ _ _ _ _ _ _).bind _ = _
    rw [h4]
    exact h3
theorem seenT {α : Type} {tb : String → Option Builtin} {p : Program} {w : World} {N : Nat} {F : Shared → α} {v : α} (h : ((fencedOpening tb p w N).bind (topT tb p w N)).map F = some v) :
    (openEnds tb p w N).map F = some v := by
  obtain ⟨s₁, h1, h2⟩ := Option.map_eq_some_iff.mp h
  obtain ⟨s₀, h3, h4⟩ := Option.bind_eq_some_iff.mp h1
  unfold openEnds
  rw [h3]
  show (topFrom _ _ _ _ _).map _ = _
  rw [topT_spec h4]
  exact congrArg some h2
theorem endsT {tb : String → Option Builtin} {p : Program} {w : World} {N : Nat} {v : Shared} (h : (fencedOpening tb p w N).bind (topT tb p w N) = some v) : openEnds tb p w N = some v := by
  have := seenT (F := fun s => s) (v := v) (by rw [h]; rfl)
  rwa [Option.map_id'] at this
noncomputable abbrev Seen2 (w : World) : Prop := (openEnds treeTable pR w 5120).map (fun s => (openSeen hd.view_39 lsR (importedModules pR.main.body) (fun s => xlAt hd.view_39 [] s && recOk (RowW.records PySem.Challenge.rw_tp0054_01.row.toRowW) s) true s, Hook.obs (kHook hd.heap_39 asL hooked) s)) = some (openGood hd.view_39 lsR, Hook.val (kHook hd.heap_39 asL hooked) w)
theorem ends_f (w : World) : openEnds treeTable pR (w.withFollow "special-get-raises" false) 5120 = some (S1 (w.withFollow "special-get-raises" false).params) := by
  refine endsT ?_
  unfold fencedOpening topT
  rw [PySem.W.Fast.te10274390034422433532, PySem.W.Fast.te1435165496053646825, PySem.W.Fast.te14289696077712309145, PySem.W.Fast.te5923862056798008813, PySem.W.Fast.te8920871248978507458, PySem.W.Fast.te10156331382660048174, PySem.W.Fast.te6613529449190102663, PySem.W.Fast.te11892475500146522536, PySem.W.Fast.te14364793385576792824]
  kernel_rfl
theorem ends_t (w : World) : openEnds treeTable pR (w.withFollow "special-get-raises" true) 5120 = some (S1 (w.withFollow "special-get-raises" true).params) := by
  refine endsT ?_
  unfold fencedOpening topT
  rw [PySem.W.Fast.te10274390034422433532, PySem.W.Fast.te1435165496053646825, PySem.W.Fast.te14289696077712309145, PySem.W.Fast.te5923862056798008813, PySem.W.Fast.te8920871248978507458, PySem.W.Fast.te10156331382660048174, PySem.W.Fast.te6613529449190102663, PySem.W.Fast.te11892475500146522536, PySem.W.Fast.te14364793385576792824]
  kernel_rfl
theorem s1_seen (P : Params) : (seen ((recsOf hd.view_39).map (·.name)) (ownsOf hd.view_39) [] { S1 P with gens := #[] }) = (expectedOf hd.view_39) := by
  rw [PySem.W.Fast.te5160383126252970620, PySem.W.Fast.te3399658132070893891, PySem.W.Fast.te5991557255702980513]
  kernel_rfl
theorem s1_blt (P : Params) : ((S1 P).heap.bltView) = (bltViewBooted) := by
  kernel_rfl
theorem s1_keys (P : Params) : ((S1 P).heap.keysOk (looseW hd.view_39 lsR) ((recsOf hd.view_39).map (·.name)) ((litsOf hd.view_39).map (·.1)) ((clssOf hd.view_39 (looseW hd.view_39 lsR)).map (·.name))) = (true) := by
  rw [PySem.W.Fast.te10880121769531294198, PySem.W.Fast.te3399658132070893891, PySem.W.Fast.te7409074990110511671, PySem.W.Fast.te13664370479719496447, PySem.W.Fast.te821141287760084731]
  kernel_rfl
theorem s1_acc (P : Params) : ((S1 P).heap.accountedOkI (importedModules pR.main.body)) = (true) := by
  rw [PySem.W.Fast.te14722251495701143533, PySem.W.Fast.te5923862056798008813]
  kernel_rfl
theorem s1_nsm (P : Params) : ((S1 P).heap.isNs mainGlobals) = (true) := by
  kernel_rfl
theorem s1_nsb (P : Params) : ((S1 P).heap.isNs builtinsNs) = (true) := by
  kernel_rfl
theorem s1_tables (P : Params) : (tablesOk hd.view_39 (S1 P).heap) = (true) := by
  rw [PySem.W.Fast.te10994771534591457954]
  kernel_rfl
theorem s1_xl (P : Params) : ((xlAt hd.view_39 [] (S1 P) && recOk (RowW.records PySem.Challenge.rw_tp0054_01.row.toRowW) (S1 P))) = (true) := by
  kernel_rfl
theorem s1_gens (P : Params) : ((if true then (S1 P).gens.size == 0 else !leftWithCleanup (S1 P).gens)) = (true) := by
  kernel_rfl
theorem s1_tabs (P : Params) : (tabsOk hd.view_39 (S1 P)) = (true) := by
  rw [PySem.W.Fast.te479339242167458305]
  kernel_rfl
theorem s1_pin (P : Params) : (pinSeenD hd.view_39 (drecsOf hd.view_39) (S1 P)) = (pinGoodD (drecsOf hd.view_39)) := by
  rw [PySem.W.Fast.te16090120013241838585, PySem.W.Fast.te3247288618530077131]
  kernel_rfl
theorem s1_plE (P : Params) : (plainSeenE hd.view_39 (looseW hd.view_39 lsR) (S1 P)) = (plainGoodE hd.view_39 (looseW hd.view_39 lsR)) := by
  rw [PySem.W.Fast.te2386780881361962483, PySem.W.Fast.te821141287760084731]
  kernel_rfl
theorem s1_plD (P : Params) : (plainSeenD hd.view_39 lsR (S1 P)) = (plainGoodD hd.view_39 lsR) := by
  rw [PySem.W.Fast.te11698064438423848299]
  kernel_rfl
theorem s1_wide (P : Params) : (wideSeen hd.view_39 (S1 P)) = (wideGood hd.view_39) := by
  rw [PySem.W.Fast.te7317090234206586261]
  kernel_rfl
theorem s1_cls (P : Params) : (clsSeenW hd.view_39 lsR (S1 P)) = (clsGoodW hd.view_39 lsR) := by
  rw [PySem.W.Fast.te7369524293546568484]
  kernel_rfl
theorem s1_obs (w : World) : Hook.obs (kHook hd.heap_39 asL hooked) (S1 w.params) = Hook.val (kHook hd.heap_39 asL hooked) w := by kernel_rfl
theorem and2 {a b : Bool} (h : a = true) (k : b = true) : (a && b) = true := Bool.and_eq_true_iff.mpr ⟨h, k⟩
theorem pr2 {α β : Type} {a c : α} {b d : β} (h : a = c) (k : b = d) : (a, b) = (c, d) := congr (congrArg Prod.mk h) k
theorem s1_all (P : Params) : openSeen hd.view_39 lsR (importedModules pR.main.body) (fun s => xlAt hd.view_39 [] s && recOk (RowW.records PySem.Challenge.rw_tp0054_01.row.toRowW) s) true (S1 P) = openGood hd.view_39 lsR := by
  unfold openSeen openGood
  exact pr2 (s1_seen P) (pr2 (s1_blt P) (pr2 (and2 (and2 (and2 (and2 (and2 (and2 (s1_keys P) (s1_acc P)) (s1_nsm P)) (s1_nsb P)) (s1_tables P)) (s1_xl P)) (s1_gens P)) (pr2 (s1_tabs P) (pr2 (s1_pin P) (pr2 (s1_plE P) (pr2 (s1_plD P) (pr2 (s1_wide P) (s1_cls P))))))))
theorem left_f (w : World) : Seen2 (w.withFollow "special-get-raises" false) := by
  unfold Seen2
  rw [ends_f]
  exact congrArg some (pr2 (s1_all _) (s1_obs _))
theorem left_t (w : World) : Seen2 (w.withFollow "special-get-raises" true) := by
  unfold Seen2
  rw [ends_t]
  exact congrArg some (pr2 (s1_all _) (s1_obs _))
theorem look2 : OpenLaw.wellSaid PySem.Challenge.rw_tp0054_01 = true := by
  rw [PySem.W.Fast.te9446332074065402090]
  kernel_rfl
theorem hd {d : DefRec} {kwd : List (Str × PySem.Expr)} (hdef : defOf hd.view_39 PySem.Challenge.rw_tp0054_01.row.toRowW.name = some (d, kwd))
    (hp : pR.theDef PySem.Challenge.rw_tp0054_01.row.toRowW.name = some (d.params, d.body, d.scope)) (hk : kwWritten? d.params.kwonlyargs d.params.kw_defaults = some kwd)
    (walk : WalkO hd.view_39 lsR (XL hd.view_39 []) (Hook.says (kHook hd.heap_39 asL hooked)) PySem.Challenge.rw_tp0054_01.row.toRowW d kwd fun f vs => PySem.call f vs) : PySem.Challenge.rw_tp0054_01.Holds := by
  w_on
  refine holds_law look2 fun said => ?_
  refine holds_open (q := hd.view_39) (loose := lsR) (Xt := fun s => xlAt hd.view_39 [] s && recOk (RowW.records PySem.Challenge.rw_tp0054_01.row.toRowW) s) (XP := XL hd.view_39 []) (Yf := Hook.obs (kHook hd.heap_39 asL hooked)) (Ya := Hook.val (kHook hd.heap_39 asL hooked)) (YP := Hook.says (kHook hd.heap_39 asL hooked)) (N := 5120) ?hl (Hook.of (kHook hd.heap_39 asL hooked)) (Hook.keeps (kHook hd.heap_39 asL hooked)) (fun s e => xl_of s (Bool.and_eq_true_iff.mp e).1) XL.keeps hdef hp hk (fun s e => recFacts_of (Bool.and_eq_true_iff.mp e).2) (by rfl) (by first | assumption | decide +kernel) (by decide +kernel) ⟨rfl, rfl, rfl, rfl, rfl, by decide +kernel⟩ ?hw walk
  case hl => exact byRow2 "special-get-raises" (P := Seen2) left_f left_t
  case hw => w_witness2
end Mine
end
local macro_rules | `(tactic| walk_at $s:str) => `(tactic| k_extra $s)
local macro_rules | `(tactic| k_unfold) => `(tactic| k_extra "k_unfold")
local macro_rules | `(tactic| tb_start) => `(tactic| k_extra "tb_start")
local macro_rules | `(tactic| k_all) => `(tactic| k_extra "k_all")
local macro_rules | `(tactic| ktr_unf) => `(tactic| k_extra "ktr_unf")
local macro_rules | `(tactic| ktr_rel) => `(tactic| k_extra "ktr_rel")
local macro_rules | `(tactic| k_qdec) => `(tactic| (first | rw [PySem.W.Fast.te17448422675489707002, PySem.W.Fast.te821141287760084731] | rw [PySem.W.Fast.te2458874890965802552]); kernel_rfl)
local macro_rules | `(tactic| omega) => `(tactic| lia)
section
open PySem PySem.W PySem.Spec PySem.Calls PyProof.Rows
set_option maxRecDepth 100000
namespace Mine
noncomputable def Con (w : World) (f : Addr) (vs : List Value) (news : List (Addr × Obj)) (nd nu : Nat) (Out : List (Addr × Obj) → Value → Prop) : Prop :=
  ∀ (mean : ExcName → Option Value) (mg mb : Str → Option Value) (dp un : Nat) (gd : Option (List Code)) (cn : Str) (cs : Scope) (a : Addr) (ccd : Value) (cl : List (Str × Addr)) (outer : List Env) (A₀ : Around) (base h₀ : Heap) (L : Addr) (m : Str → Option Value) (s : Shared) (Q E : Value → Shared → Prop),
    Below A₀ base outer h₀ → Fr h₀ L s.heap m → (hd.heap_39 w.params).In h₀ → News h₀ L s.heap news → Top hd.view_39 (looseW hd.view_39 [Str.ofString "Whitespace", Str.ofString "EXACT_TOKEN_TYPES"]) mean mg mb h₀ → cs.kind = .function → dp + nd < recursionLimit → un + nu < cLine →
    (∀ r tl h' tk', Fr h₀ L h' m → News h₀ L h' (tl ++ news) → (∀ q ∈ news, ∀ p ∈ tl, q.1 < p.1) → Out tl r → Q r { s with heap := h', toks := tk' }) →
    wpAny (model PySem.Challenge.rw_tp0054_01.row.prog w) (ktrTop dp un gd cn cs L a ccd cl outer) (call (.ref f) vs) Q E s
theorem Con.use {w : World} {f : Addr} {vs : List Value} {news : List (Addr × Obj)} {nd nu : Nat} {Out : List (Addr × Obj) → Value → Prop} (C : Con w f vs news nd nu Out)
    {mean : ExcName → Option Value} {mg mb : Str → Option Value} {dp un : Nat} {gd : Option (List Code)} {cn : Str} {cs : Scope} {a : Addr} {ccd : Value} {cl : List (Str × Addr)} {outer : List Env} {A₀ : Around} {base h₀ : Heap} {L : Addr} {m : Str → Option Value} {s : Shared} {Q E : Value → Shared → Prop}
    (B : Below A₀ base outer h₀) (F : Fr h₀ L s.heap m) (X : (hd.heap_39 w.params).In h₀) (N : News h₀ L s.heap news) (T : Top hd.view_39 (looseW hd.view_39 [Str.ofString "Whitespace", Str.ofString "EXACT_TOKEN_TYPES"]) mean mg mb h₀) (hk : cs.kind = .function) (hd' : dp + nd < recursionLimit) (hu : un + nu < cLine)
    (ret : ∀ r tl h' tk', Fr h₀ L h' m → News h₀ L h' (tl ++ news) → (∀ q ∈ news, ∀ p ∈ tl, q.1 < p.1) → Out tl r → Q r { s with heap := h', toks := tk' }) :
    wpAny (model PySem.Challenge.rw_tp0054_01.row.prog w) (ktrTop dp un gd cn cs L a ccd cl outer) (call (.ref f) vs) Q E s := C _ _ _ _ _ _ _ _ _ _ _ _ _ _ _ _ _ _ _ _ B F X N T hk hd' hu ret
theorem exq {prog : Program} {w : World} {A : Around} {E : Value → Shared → Prop} {s : Shared} {env : Env} {st : Stmt} {rest : List Stmt} {Q : Flow → Shared → Prop}
    (h : ∀ Q' : Flow → Shared → Prop, (∀ f s', (match f with | .next => wpAny (model prog w) A (execs rest env) Q E s' | f => Q f s') → Q' f s') → wpAny (model prog w) A (exec st env) Q' E s) :
    wpAny (model prog w) A (execs (st :: rest) env) Q E s := wpAny_execs_cons (h _ fun _ _ x => x)
theorem qab {α : Type} {M : Model} {A : Around} {t : Sem α} {E : Value → Shared → Prop} {s : Shared} {Q : α → Shared → Prop} (h : ∀ Q' : α → Shared → Prop, (∀ v s', Q v s' → Q' v s') → wpAny M A t Q' E s) : wpAny M A t Q E s := h Q fun _ _ x => x
/-- what stands when a statement has ended without a leap -/
noncomputable def Aft (h₀ : Heap) (L : Addr) (s : Shared) (P : (Str → Option Value) → List (Addr × Obj) → Prop) (f : Flow) (s' : Shared) : Prop :=
  f = .next ∧ ∃ (h' : Heap) (tk : Nat) (m' : Str → Option Value) (nw : List (Addr × Obj)), s' = { s with heap := h', toks := tk } ∧ Fr h₀ L h' m' ∧ News h₀ L h' nw ∧ P m' nw
theorem aft_rule {M : Model} {A : Around} {c : Sem Flow} {E : Value → Shared → Prop} {s : Shared} {h₀ : Heap} {L : Addr} {m : Str → Option Value} {Q : Flow → Shared → Prop} (P : (Str → Option Value) → List (Addr × Obj) → Prop) (_F : Fr h₀ L s.heap m)
    (h : wpAny M A c (Aft h₀ L s P) E s) (k : ∀ f s', Aft h₀ L s P f s' → Q f s') : wpAny M A c Q E s := wpAny_mono h k fun _ _ e => e
theorem Aft.intro {h₀ h' : Heap} {L : Addr} {s : Shared} {P : (Str → Option Value) → List (Addr × Obj) → Prop} {tk : Nat} {m' : Str → Option Value} {nw : List (Addr × Obj)} (F : Fr h₀ L h' m') (N : News h₀ L h' nw) (h : P m' nw) : Aft h₀ L s P .next { s with heap := h', toks := tk } := ⟨rfl, h', tk, m', nw, rfl, F, N, h⟩
theorem ex3 {α0 α1 α2 : Type} {C : Prop} {p : α0 → α1 → α2 → Prop} (h : ∃ x0 x1 x2, p x0 x1 x2) (k : ∀ x0 x1 x2, p x0 x1 x2 → C) : C := by
  obtain ⟨x0, x1, x2, h⟩ := h; exact k x0 x1 x2 h
theorem ex4 {α0 α1 α2 α3 : Type} {C : Prop} {p : α0 → α1 → α2 → α3 → Prop} (h : ∃ x0 x1 x2 x3, p x0 x1 x2 x3) (k : ∀ x0 x1 x2 x3, p x0 x1 x2 x3 → C) : C := by
  obtain ⟨x0, x1, x2, x3, h⟩ := h; exact k x0 x1 x2 x3 h
theorem ex5 {α0 α1 α2 α3 α4 : Type} {C : Prop} {p : α0 → α1 → α2 → α3 → α4 → Prop} (h : ∃ x0 x1 x2 x3 x4, p x0 x1 x2 x3 x4) (k : ∀ x0 x1 x2 x3 x4, p x0 x1 x2 x3 x4 → C) : C := by
  obtain ⟨x0, x1, x2, x3, x4, h⟩ := h; exact k x0 x1 x2 x3 x4 h
theorem ex6 {α0 α1 α2 α3 α4 α5 : Type} {C : Prop} {p : α0 → α1 → α2 → α3 → α4 → α5 → Prop} (h : ∃ x0 x1 x2 x3 x4 x5, p x0 x1 x2 x3 x4 x5) (k : ∀ x0 x1 x2 x3 x4 x5, p x0 x1 x2 x3 x4 x5 → C) : C := by
  obtain ⟨x0, x1, x2, x3, x4, x5, h⟩ := h; exact k x0 x1 x2 x3 x4 x5 h
theorem ex7 {α0 α1 α2 α3 α4 α5 α6 : Type} {C : Prop} {p : α0 → α1 → α2 → α3 → α4 → α5 → α6 → Prop} (h : ∃ x0 x1 x2 x3 x4 x5 x6, p x0 x1 x2 x3 x4 x5 x6) (k : ∀ x0 x1 x2 x3 x4 x5 x6, p x0 x1 x2 x3 x4 x5 x6 → C) : C := by
  obtain ⟨x0, x1, x2, x3, x4, x5, x6, h⟩ := h; exact k x0 x1 x2 x3 x4 x5 x6 h
theorem ex8 {α0 α1 α2 α3 α4 α5 α6 α7 : Type} {C : Prop} {p : α0 → α1 → α2 → α3 → α4 → α5 → α6 → α7 → Prop} (h : ∃ x0 x1 x2 x3 x4 x5 x6 x7, p x0 x1 x2 x3 x4 x5 x6 x7) (k : ∀ x0 x1 x2 x3 x4 x5 x6 x7, p x0 x1 x2 x3 x4 x5 x6 x7 → C) : C :=
  ex4 h fun x0 x1 x2 x3 h => ex4 h fun x4 x5 x6 x7 h => k x0 x1 x2 x3 x4 x5 x6 x7 h
theorem ex9 {α0 α1 α2 α3 α4 α5 α6 α7 α8 : Type} {C : Prop} {p : α0 → α1 → α2 → α3 → α4 → α5 → α6 → α7 → α8 → Prop} (h : ∃ x0 x1 x2 x3 x4 x5 x6 x7 x8, p x0 x1 x2 x3 x4 x5 x6 x7 x8) (k : ∀ x0 x1 x2 x3 x4 x5 x6 x7 x8, p x0 x1 x2 x3 x4 x5 x6 x7 x8 → C) : C :=
  ex5 h fun x0 x1 x2 x3 x4 h => ex4 h fun x5 x6 x7 x8 h => k x0 x1 x2 x3 x4 x5 x6 x7 x8 h
theorem ex10 {α0 α1 α2 α3 α4 α5 α6 α7 α8 α9 : Type} {C : Prop} {p : α0 → α1 → α2 → α3 → α4 → α5 → α6 → α7 → α8 → α9 → Prop} (h : ∃ x0 x1 x2 x3 x4 x5 x6 x7 x8 x9, p x0 x1 x2 x3 x4 x5 x6 x7 x8 x9) (k : ∀ x0 x1 x2 x3 x4 x5 x6 x7 x8 x9, p x0 x1 x2 x3 x4 x5 x6 x7 x8 x9 → C) : C :=
  ex5 h fun x0 x1 x2 x3 x4 h => ex5 h fun x5 x6 x7 x8 x9 h => k x0 x1 x2 x3 x4 x5 x6 x7 x8 x9 h
theorem ex11 {α0 α1 α2 α3 α4 α5 α6 α7 α8 α9 α10 : Type} {C : Prop} {p : α0 → α1 → α2 → α3 → α4 → α5 → α6 → α7 → α8 → α9 → α10 → Prop} (h : ∃ x0 x1 x2 x3 x4 x5 x6 x7 x8 x9 x10, p x0 x1 x2 x3 x4 x5 x6 x7 x8 x9 x10) (k : ∀ x0 x1 x2 x3 x4 x5 x6 x7 x8 x9 x10, p x0 x1 x2 x3 x4 x5 x6 x7 x8 x9 x10 → C) : C :=
  ex6 h fun x0 x1 x2 x3 x4 x5 h => ex5 h fun x6 x7 x8 x9 x10 h => k x0 x1 x2 x3 x4 x5 x6 x7 x8 x9 x10 h
theorem ex14 {α0 α1 α2 α3 α4 α5 α6 α7 α8 α9 α10 α11 α12 α13 : Type} {C : Prop} {p : α0 → α1 → α2 → α3 → α4 → α5 → α6 → α7 → α8 → α9 → α10 → α11 → α12 → α13 → Prop} (h : ∃ x0 x1 x2 x3 x4 x5 x6 x7 x8 x9 x10 x11 x12 x13, p x0 x1 x2 x3 x4 x5 x6 x7 x8 x9 x10 x11 x12 x13) (k : ∀ x0 x1 x2 x3 x4 x5 x6 x7 x8 x9 x10 x11 x12 x13, p x0 x1 x2 x3 x4 x5 x6 x7 x8 x9 x10 x11 x12 x13 → C) : C :=
  ex7 h fun x0 x1 x2 x3 x4 x5 x6 h => ex7 h fun x7 x8 x9 x10 x11 x12 x13 h => k x0 x1 x2 x3 x4 x5 x6 x7 x8 x9 x10 x11 x12 x13 h
theorem exI3 {α0 α1 α2 : Type} {p : α0 → α1 → α2 → Prop} (x0 : α0) (x1 : α1) (x2 : α2) (h : p x0 x1 x2) : ∃ x0 x1 x2, p x0 x1 x2 := ⟨x0, x1, x2, h⟩
theorem exI4 {α0 α1 α2 α3 : Type} {p : α0 → α1 → α2 → α3 → Prop} (x0 : α0) (x1 : α1) (x2 : α2) (x3 : α3) (h : p x0 x1 x2 x3) : ∃ x0 x1 x2 x3, p x0 x1 x2 x3 := ⟨x0, x1, x2, x3, h⟩
theorem exI5 {α0 α1 α2 α3 α4 : Type} {p : α0 → α1 → α2 → α3 → α4 → Prop} (x0 : α0) (x1 : α1) (x2 : α2) (x3 : α3) (x4 : α4) (h : p x0 x1 x2 x3 x4) : ∃ x0 x1 x2 x3 x4, p x0 x1 x2 x3 x4 := ⟨x0, x1, x2, x3, x4, h⟩
theorem exI6 {α0 α1 α2 α3 α4 α5 : Type} {p : α0 → α1 → α2 → α3 → α4 → α5 → Prop} (x0 : α0) (x1 : α1) (x2 : α2) (x3 : α3) (x4 : α4) (x5 : α5) (h : p x0 x1 x2 x3 x4 x5) : ∃ x0 x1 x2 x3 x4 x5, p x0 x1 x2 x3 x4 x5 :=
  exI3 x0 x1 x2 (exI3 x3 x4 x5 h)
theorem exI7 {α0 α1 α2 α3 α4 α5 α6 : Type} {p : α0 → α1 → α2 → α3 → α4 → α5 → α6 → Prop} (x0 : α0) (x1 : α1) (x2 : α2) (x3 : α3) (x4 : α4) (x5 : α5) (x6 : α6) (h : p x0 x1 x2 x3 x4 x5 x6) : ∃ x0 x1 x2 x3 x4 x5 x6, p x0 x1 x2 x3 x4 x5 x6 :=
  exI3 x0 x1 x2 (exI4 x3 x4 x5 x6 h)
theorem exI8 {α0 α1 α2 α3 α4 α5 α6 α7 : Type} {p : α0 → α1 → α2 → α3 → α4 → α5 → α6 → α7 → Prop} (x0 : α0) (x1 : α1) (x2 : α2) (x3 : α3) (x4 : α4) (x5 : α5) (x6 : α6) (x7 : α7) (h : p x0 x1 x2 x3 x4 x5 x6 x7) : ∃ x0 x1 x2 x3 x4 x5 x6 x7, p x0 x1 x2 x3 x4 x5 x6 x7 :=
  exI4 x0 x1 x2 x3 (exI4 x4 x5 x6 x7 h)
theorem exI9 {α0 α1 α2 α3 α4 α5 α6 α7 α8 : Type} {p : α0 → α1 → α2 → α3 → α4 → α5 → α6 → α7 → α8 → Prop} (x0 : α0) (x1 : α1) (x2 : α2) (x3 : α3) (x4 : α4) (x5 : α5) (x6 : α6) (x7 : α7) (x8 : α8) (h : p x0 x1 x2 x3 x4 x5 x6 x7 x8) : ∃ x0 x1 x2 x3 x4 x5 x6 x7 x8, p x0 x1 x2 x3 x4 x5 x6 x7 x8 :=
  exI4 x0 x1 x2 x3 (exI5 x4 x5 x6 x7 x8 h)
theorem exI10 {α0 α1 α2 α3 α4 α5 α6 α7 α8 α9 : Type} {p : α0 → α1 → α2 → α3 → α4 → α5 → α6 → α7 → α8 → α9 → Prop} (x0 : α0) (x1 : α1) (x2 : α2) (x3 : α3) (x4 : α4) (x5 : α5) (x6 : α6) (x7 : α7) (x8 : α8) (x9 : α9) (h : p x0 x1 x2 x3 x4 x5 x6 x7 x8 x9) : ∃ x0 x1 x2 x3 x4 x5 x6 x7 x8 x9, p x0 x1 x2 x3 x4 x5 x6 x7 x8 x9 :=
  exI5 x0 x1 x2 x3 x4 (exI5 x5 x6 x7 x8 x9 h)
theorem exI11 {α0 α1 α2 α3 α4 α5 α6 α7 α8 α9 α10 : Type} {p : α0 → α1 → α2 → α3 → α4 → α5 → α6 → α7 → α8 → α9 → α10 → Prop} (x0 : α0) (x1 : α1) (x2 : α2) (x3 : α3) (x4 : α4) (x5 : α5) (x6 : α6) (x7 : α7) (x8 : α8) (x9 : α9) (x10 : α10) (h : p x0 x1 x2 x3 x4 x5 x6 x7 x8 x9 x10) : ∃ x0 x1 x2 x3 x4 x5 x6 x7 x8 x9 x10, p x0 x1 x2 x3 x4 x5 x6 x7 x8 x9 x10 :=
  exI5 x0 x1 x2 x3 x4 (exI6 x5 x6 x7 x8 x9 x10 h)
theorem exI14 {α0 α1 α2 α3 α4 α5 α6 α7 α8 α9 α10 α11 α12 α13 : Type} {p : α0 → α1 → α2 → α3 → α4 → α5 → α6 → α7 → α8 → α9 → α10 → α11 → α12 → α13 → Prop} (x0 : α0) (x1 : α1) (x2 : α2) (x3 : α3) (x4 : α4) (x5 : α5) (x6 : α6) (x7 : α7) (x8 : α8) (x9 : α9) (x10 : α10) (x11 : α11) (x12 : α12) (x13 : α13) (h : p x0 x1 x2 x3 x4 x5 x6 x7 x8 x9 x10 x11 x12 x13) : ∃ x0 x1 x2 x3 x4 x5 x6 x7 x8 x9 x10 x11 x12 x13, p x0 x1 x2 x3 x4 x5 x6 x7 x8 x9 x10 x11 x12 x13 :=
  exI7 x0 x1 x2 x3 x4 x5 x6 (exI7 x7 x8 x9 x10 x11 x12 x13 h)
theorem an5 {p0 p1 p2 p3 p4 C : Prop} (h : p0 ∧ p1 ∧ p2 ∧ p3 ∧ p4) (k : p0 → p1 → p2 → p3 → p4 → C) : C := k h.1 h.2.1 h.2.2.1 h.2.2.2.1 h.2.2.2.2
theorem an6 {p0 p1 p2 p3 p4 p5 C : Prop} (h : p0 ∧ p1 ∧ p2 ∧ p3 ∧ p4 ∧ p5) (k : p0 → p1 → p2 → p3 → p4 → p5 → C) : C := k h.1 h.2.1 h.2.2.1 h.2.2.2.1 h.2.2.2.2.1 h.2.2.2.2.2
theorem an7 {p0 p1 p2 p3 p4 p5 p6 C : Prop} (h : p0 ∧ p1 ∧ p2 ∧ p3 ∧ p4 ∧ p5 ∧ p6) (k : p0 → p1 → p2 → p3 → p4 → p5 → p6 → C) : C := k h.1 h.2.1 h.2.2.1 h.2.2.2.1 h.2.2.2.2.1 h.2.2.2.2.2.1 h.2.2.2.2.2.2
theorem an8 {p0 p1 p2 p3 p4 p5 p6 p7 C : Prop} (h : p0 ∧ p1 ∧ p2 ∧ p3 ∧ p4 ∧ p5 ∧ p6 ∧ p7) (k : p0 → p1 → p2 → p3 → p4 → p5 → p6 → p7 → C) : C := k h.1 h.2.1 h.2.2.1 h.2.2.2.1 h.2.2.2.2.1 h.2.2.2.2.2.1 h.2.2.2.2.2.2.1 h.2.2.2.2.2.2.2
theorem an9 {p0 p1 p2 p3 p4 p5 p6 p7 p8 C : Prop} (h : p0 ∧ p1 ∧ p2 ∧ p3 ∧ p4 ∧ p5 ∧ p6 ∧ p7 ∧ p8) (k : p0 → p1 → p2 → p3 → p4 → p5 → p6 → p7 → p8 → C) : C := k h.1 h.2.1 h.2.2.1 h.2.2.2.1 h.2.2.2.2.1 h.2.2.2.2.2.1 h.2.2.2.2.2.2.1 h.2.2.2.2.2.2.2.1 h.2.2.2.2.2.2.2.2
theorem an10 {p0 p1 p2 p3 p4 p5 p6 p7 p8 p9 C : Prop} (h : p0 ∧ p1 ∧ p2 ∧ p3 ∧ p4 ∧ p5 ∧ p6 ∧ p7 ∧ p8 ∧ p9) (k : p0 → p1 → p2 → p3 → p4 → p5 → p6 → p7 → p8 → p9 → C) : C := k h.1 h.2.1 h.2.2.1 h.2.2.2.1 h.2.2.2.2.1 h.2.2.2.2.2.1 h.2.2.2.2.2.2.1 h.2.2.2.2.2.2.2.1 h.2.2.2.2.2.2.2.2.1 h.2.2.2.2.2.2.2.2.2
theorem an12 {p0 p1 p2 p3 p4 p5 p6 p7 p8 p9 p10 p11 C : Prop} (h : p0 ∧ p1 ∧ p2 ∧ p3 ∧ p4 ∧ p5 ∧ p6 ∧ p7 ∧ p8 ∧ p9 ∧ p10 ∧ p11) (k : p0 → p1 → p2 → p3 → p4 → p5 → p6 → p7 → p8 → p9 → p10 → p11 → C) : C := k h.1 h.2.1 h.2.2.1 h.2.2.2.1 h.2.2.2.2.1 h.2.2.2.2.2.1 h.2.2.2.2.2.2.1 h.2.2.2.2.2.2.2.1 h.2.2.2.2.2.2.2.2.1 h.2.2.2.2.2.2.2.2.2.1 h.2.2.2.2.2.2.2.2.2.2.1 h.2.2.2.2.2.2.2.2.2.2.2
theorem an14 {p0 p1 p2 p3 p4 p5 p6 p7 p8 p9 p10 p11 p12 p13 C : Prop} (h : p0 ∧ p1 ∧ p2 ∧ p3 ∧ p4 ∧ p5 ∧ p6 ∧ p7 ∧ p8 ∧ p9 ∧ p10 ∧ p11 ∧ p12 ∧ p13) (k : p0 → p1 → p2 → p3 → p4 → p5 → p6 → p7 → p8 → p9 → p10 → p11 → p12 → p13 → C) : C := k h.1 h.2.1 h.2.2.1 h.2.2.2.1 h.2.2.2.2.1 h.2.2.2.2.2.1 h.2.2.2.2.2.2.1 h.2.2.2.2.2.2.2.1 h.2.2.2.2.2.2.2.2.1 h.2.2.2.2.2.2.2.2.2.1 h.2.2.2.2.2.2.2.2.2.2.1 h.2.2.2.2.2.2.2.2.2.2.2.1 h.2.2.2.2.2.2.2.2.2.2.2.2.1 h.2.2.2.2.2.2.2.2.2.2.2.2.2
theorem an15 {p0 p1 p2 p3 p4 p5 p6 p7 p8 p9 p10 p11 p12 p13 p14 C : Prop} (h : p0 ∧ p1 ∧ p2 ∧ p3 ∧ p4 ∧ p5 ∧ p6 ∧ p7 ∧ p8 ∧ p9 ∧ p10 ∧ p11 ∧ p12 ∧ p13 ∧ p14) (k : p0 → p1 → p2 → p3 → p4 → p5 → p6 → p7 → p8 → p9 → p10 → p11 → p12 → p13 → p14 → C) : C := k h.1 h.2.1 h.2.2.1 h.2.2.2.1 h.2.2.2.2.1 h.2.2.2.2.2.1 h.2.2.2.2.2.2.1 h.2.2.2.2.2.2.2.1 h.2.2.2.2.2.2.2.2.1 h.2.2.2.2.2.2.2.2.2.1 h.2.2.2.2.2.2.2.2.2.2.1 h.2.2.2.2.2.2.2.2.2.2.2.1 h.2.2.2.2.2.2.2.2.2.2.2.2.1 h.2.2.2.2.2.2.2.2.2.2.2.2.2.1 h.2.2.2.2.2.2.2.2.2.2.2.2.2.2
theorem an17 {p0 p1 p2 p3 p4 p5 p6 p7 p8 p9 p10 p11 p12 p13 p14 p15 p16 C : Prop} (h : p0 ∧ p1 ∧ p2 ∧ p3 ∧ p4 ∧ p5 ∧ p6 ∧ p7 ∧ p8 ∧ p9 ∧ p10 ∧ p11 ∧ p12 ∧ p13 ∧ p14 ∧ p15 ∧ p16) (k : p0 → p1 → p2 → p3 → p4 → p5 → p6 → p7 → p8 → p9 → p10 → p11 → p12 → p13 → p14 → p15 → p16 → C) : C := k h.1 h.2.1 h.2.2.1 h.2.2.2.1 h.2.2.2.2.1 h.2.2.2.2.2.1 h.2.2.2.2.2.2.1 h.2.2.2.2.2.2.2.1 h.2.2.2.2.2.2.2.2.1 h.2.2.2.2.2.2.2.2.2.1 h.2.2.2.2.2.2.2.2.2.2.1 h.2.2.2.2.2.2.2.2.2.2.2.1 h.2.2.2.2.2.2.2.2.2.2.2.2.1 h.2.2.2.2.2.2.2.2.2.2.2.2.2.1 h.2.2.2.2.2.2.2.2.2.2.2.2.2.2.1 h.2.2.2.2.2.2.2.2.2.2.2.2.2.2.2.1 h.2.2.2.2.2.2.2.2.2.2.2.2.2.2.2.2
theorem Con.use0 {w : World} {g : Addr} {vs : List Value} {news : List (Addr × Obj)} {nd nu : Nat} {f : Tok → Value} (C : Con w g vs news nd nu (fun tl r => tl = [] ∧ ∃ t', r = f t'))
    {mean : ExcName → Option Value} {mg mb : Str → Option Value} {dp un : Nat} {gd : Option (List Code)} {cn : Str} {cs : Scope} {a : Addr} {ccd : Value} {cl : List (Str × Addr)} {outer : List Env} {A₀ : Around} {base h₀ : Heap} {L : Addr} {m : Str → Option Value} {s : Shared} {Q E : Value → Shared → Prop}
    (B : Below A₀ base outer h₀) (F : Fr h₀ L s.heap m) (X : (hd.heap_39 w.params).In h₀) (N : News h₀ L s.heap news) (T : Top hd.view_39 (looseW hd.view_39 [Str.ofString "Whitespace", Str.ofString "EXACT_TOKEN_TYPES"]) mean mg mb h₀) (hk : cs.kind = .function) (hd' : dp + nd < recursionLimit) (hu : un + nu < cLine)
    (ret : ∀ t' h' tk', Fr h₀ L h' m → News h₀ L h' news → Q (f t') { s with heap := h', toks := tk' }) :
    wpAny (model PySem.Challenge.rw_tp0054_01.row.prog w) (ktrTop dp un gd cn cs L a ccd cl outer) (call (.ref g) vs) Q E s := C.use B F X N T hk hd' hu fun r tl h' tk' F' N' _ ho => by
  obtain ⟨rfl, t', rfl⟩ := ho; exact ret t' h' tk' F' N'
theorem Con.use1 {w : World} {g : Addr} {vs : List Value} {news : List (Addr × Obj)} {nd nu : Nat} {P : Value → Prop} (C : Con w g vs news nd nu (fun tl r => tl = [] ∧ P r))
    {mean : ExcName → Option Value} {mg mb : Str → Option Value} {dp un : Nat} {gd : Option (List Code)} {cn : Str} {cs : Scope} {a : Addr} {ccd : Value} {cl : List (Str × Addr)} {outer : List Env} {A₀ : Around} {base h₀ : Heap} {L : Addr} {m : Str → Option Value} {s : Shared} {Q E : Value → Shared → Prop}
    (B : Below A₀ base outer h₀) (F : Fr h₀ L s.heap m) (X : (hd.heap_39 w.params).In h₀) (N : News h₀ L s.heap news) (T : Top hd.view_39 (looseW hd.view_39 [Str.ofString "Whitespace", Str.ofString "EXACT_TOKEN_TYPES"]) mean mg mb h₀) (hk : cs.kind = .function) (hd' : dp + nd < recursionLimit) (hu : un + nu < cLine)
    (ret : ∀ r h' tk', P r → Fr h₀ L h' m → News h₀ L h' news → Q r { s with heap := h', toks := tk' }) :
    wpAny (model PySem.Challenge.rw_tp0054_01.row.prog w) (ktrTop dp un gd cn cs L a ccd cl outer) (call (.ref g) vs) Q E s := C.use B F X N T hk hd' hu fun r tl h' tk' F' N' _ ho => by
  obtain ⟨rfl, hP⟩ := ho; exact ret r h' tk' hP F' N'
theorem aft_then {M : Model} {A : Around} {c : Sem Flow} {E : Value → Shared → Prop} {s : Shared} {h₀ : Heap} {L : Addr} {m : Str → Option Value} {Q : Flow → Shared → Prop} (P : (Str → Option Value) → List (Addr × Obj) → Prop) (_F : Fr h₀ L s.heap m)
    (h : wpAny M A c (Aft h₀ L s P) E s) (k : ∀ h' tk' m' nw, Fr h₀ L h' m' → News h₀ L h' nw → P m' nw → Q .next { s with heap := h', toks := tk' }) : wpAny M A c Q E s := aft_rule P _F h fun f s' h' => by
  obtain ⟨rfl, h₁, t₁, m₁, n₁, rfl, F, N, p⟩ := h'; exact k h₁ t₁ m₁ n₁ F N p
theorem cu {m m1 : Str → Option Value} {a : Str} {va : Option Value} (e : m1 = m) (h : m a = va) : (fun y => if y = a then va else m1 y) = m := by
  subst e; funext y; split
  · rename_i h2; rw [h2, h]
  · rfl
theorem canon1G {C : Prop} {m : Str → Option Value} {a : Str} {va : Option Value} (ha : m a = va) {P : (Str → Option Value) → Prop} (F : P m)
    (k : ∀ rest : Str → Option Value, P (fun y => if y = a then va else rest y) → C) : C := k m (Eq.mpr (congrArg P (cu rfl ha)) F)
theorem canon2G {C : Prop} {m : Str → Option Value} {a b : Str} {va vb : Option Value} (ha : m a = va) (hb : m b = vb) {P : (Str → Option Value) → Prop} (F : P m)
    (k : ∀ rest : Str → Option Value, P (fun y => if y = a then va else if y = b then vb else rest y) → C) : C := k m (Eq.mpr (congrArg P (cu (cu rfl hb) ha)) F)
theorem canon3G {C : Prop} {m : Str → Option Value} {a b c : Str} {va vb vc : Option Value} (ha : m a = va) (hb : m b = vb) (hc : m c = vc) {P : (Str → Option Value) → Prop} (F : P m)
    (k : ∀ rest : Str → Option Value, P (fun y => if y = a then va else if y = b then vb else if y = c then vc else rest y) → C) : C := k m (Eq.mpr (congrArg P (cu (cu (cu rfl hc) hb) ha)) F)
theorem canon4G {C : Prop} {m : Str → Option Value} {a b c d : Str} {va vb vc vd : Option Value} (ha : m a = va) (hb : m b = vb) (hc : m c = vc) (hd : m d = vd) {P : (Str → Option Value) → Prop} (F : P m)
    (k : ∀ rest : Str → Option Value, P (fun y => if y = a then va else if y = b then vb else if y = c then vc else if y = d then vd else rest y) → C) : C := k m (Eq.mpr (congrArg P (cu (cu (cu (cu rfl hd) hc) hb) ha)) F)
theorem canon5G {C : Prop} {m : Str → Option Value} {a b c d e : Str} {va vb vc vd ve : Option Value} (ha : m a = va) (hb : m b = vb) (hc : m c = vc) (hd : m d = vd) (he : m e = ve) {P : (Str → Option Value) → Prop} (F : P m)
    (k : ∀ rest : Str → Option Value, P (fun y => if y = a then va else if y = b then vb else if y = c then vc else if y = d then vd else if y = e then ve else rest y) → C) : C := k m (Eq.mpr (congrArg P (cu (cu (cu (cu (cu rfl he) hd) hc) hb) ha)) F)
theorem canon7G {C : Prop} {m : Str → Option Value} {a b c d e f g : Str} {va vb vc vd ve vf vg : Option Value} (ha : m a = va) (hb : m b = vb) (hc : m c = vc) (hd : m d = vd) (he : m e = ve) (hf : m f = vf) (hg : m g = vg) {P : (Str → Option Value) → Prop} (F : P m)
    (k : ∀ rest : Str → Option Value, P (fun y => if y = a then va else if y = b then vb else if y = c then vc else if y = d then vd else if y = e then ve else if y = f then vf else if y = g then vg else rest y) → C) : C := k m (Eq.mpr (congrArg P (cu (cu (cu (cu (cu (cu (cu rfl hg) hf) he) hd) hc) hb) ha)) F)
theorem canon1H {C : Prop} {m : Str → Option Value} {a : Str} {va : Option Value} (ha : m a = va) {h₀ h : Heap} {L : Addr} {k : Str} {v : Option Value} (F : Fr h₀ L h (fun z => if z = k then v else m z))
    (K : ∀ rest : Str → Option Value, Fr h₀ L h (fun y => if y = k then v else if y = a then va else rest y) → C) : C := canon1G (P := fun q => Fr h₀ L h (fun z => if z = k then v else q z)) ha F K
theorem canon2H {C : Prop} {m : Str → Option Value} {a b : Str} {va vb : Option Value} (ha : m a = va) (hb : m b = vb) {h₀ h : Heap} {L : Addr} {k : Str} {v : Option Value} (F : Fr h₀ L h (fun z => if z = k then v else m z))
    (K : ∀ rest : Str → Option Value, Fr h₀ L h (fun y => if y = k then v else if y = a then va else if y = b then vb else rest y) → C) : C := canon2G (P := fun q => Fr h₀ L h (fun z => if z = k then v else q z)) ha hb F K
theorem canon3H {C : Prop} {m : Str → Option Value} {a b c : Str} {va vb vc : Option Value} (ha : m a = va) (hb : m b = vb) (hc : m c = vc) {h₀ h : Heap} {L : Addr} {k : Str} {v : Option Value} (F : Fr h₀ L h (fun z => if z = k then v else m z))
    (K : ∀ rest : Str → Option Value, Fr h₀ L h (fun y => if y = k then v else if y = a then va else if y = b then vb else if y = c then vc else rest y) → C) : C := canon3G (P := fun q => Fr h₀ L h (fun z => if z = k then v else q z)) ha hb hc F K
theorem canon4H {C : Prop} {m : Str → Option Value} {a b c d : Str} {va vb vc vd : Option Value} (ha : m a = va) (hb : m b = vb) (hc : m c = vc) (hd : m d = vd) {h₀ h : Heap} {L : Addr} {k : Str} {v : Option Value} (F : Fr h₀ L h (fun z => if z = k then v else m z))
    (K : ∀ rest : Str → Option Value, Fr h₀ L h (fun y => if y = k then v else if y = a then va else if y = b then vb else if y = c then vc else if y = d then vd else rest y) → C) : C := canon4G (P := fun q => Fr h₀ L h (fun z => if z = k then v else q z)) ha hb hc hd F K
theorem canon5H {C : Prop} {m : Str → Option Value} {a b c d e : Str} {va vb vc vd ve : Option Value} (ha : m a = va) (hb : m b = vb) (hc : m c = vc) (hd : m d = vd) (he : m e = ve) {h₀ h : Heap} {L : Addr} {k : Str} {v : Option Value} (F : Fr h₀ L h (fun z => if z = k then v else m z))
    (K : ∀ rest : Str → Option Value, Fr h₀ L h (fun y => if y = k then v else if y = a then va else if y = b then vb else if y = c then vc else if y = d then vd else if y = e then ve else rest y) → C) : C := canon5G (P := fun q => Fr h₀ L h (fun z => if z = k then v else q z)) ha hb hc hd he F K
theorem canon7H {C : Prop} {m : Str → Option Value} {a b c d e f g : Str} {va vb vc vd ve vf vg : Option Value} (ha : m a = va) (hb : m b = vb) (hc : m c = vc) (hd : m d = vd) (he : m e = ve) (hf : m f = vf) (hg : m g = vg) {h₀ h : Heap} {L : Addr} {k : Str} {v : Option Value} (F : Fr h₀ L h (fun z => if z = k then v else m z))
    (K : ∀ rest : Str → Option Value, Fr h₀ L h (fun y => if y = k then v else if y = a then va else if y = b then vb else if y = c then vc else if y = d then vd else if y = e then ve else if y = f then vf else if y = g then vg else rest y) → C) : C := canon7G (P := fun q => Fr h₀ L h (fun z => if z = k then v else q z)) ha hb hc hd he hf hg F K
theorem canon1I {C : Prop} {m : Str → Option Value} {a : Str} {va : Option Value} (ha : m a = va) {h₀ h : Heap} {L : Addr} {k k' : Str} {v v' : Option Value} (F : Fr h₀ L h (fun z => if z = k then v else if z = k' then v' else m z))
    (K : ∀ rest : Str → Option Value, Fr h₀ L h (fun y => if y = k then v else if y = k' then v' else if y = a then va else rest y) → C) : C := canon1G (P := fun q => Fr h₀ L h (fun z => if z = k then v else if z = k' then v' else q z)) ha F K
theorem canon1 {m : Str → Option Value} {a : Str} {va : Option Value} (ha : m a = va) : ∃ rest : Str → Option Value, m = fun y => if y = a then va else rest y := ⟨m, Eq.symm (cu rfl ha)⟩
theorem canon2 {m : Str → Option Value} {a b : Str} {va vb : Option Value} (ha : m a = va) (hb : m b = vb) : ∃ rest : Str → Option Value, m = fun y => if y = a then va else if y = b then vb else rest y := ⟨m, Eq.symm (cu (cu rfl hb) ha)⟩
theorem canon3 {m : Str → Option Value} {a b c : Str} {va vb vc : Option Value} (ha : m a = va) (hb : m b = vb) (hc : m c = vc) : ∃ rest : Str → Option Value, m = fun y => if y = a then va else if y = b then vb else if y = c then vc else rest y := ⟨m, Eq.symm (cu (cu (cu rfl hc) hb) ha)⟩
theorem canon4 {m : Str → Option Value} {a b c d : Str} {va vb vc vd : Option Value} (ha : m a = va) (hb : m b = vb) (hc : m c = vc) (hd : m d = vd) : ∃ rest : Str → Option Value, m = fun y => if y = a then va else if y = b then vb else if y = c then vc else if y = d then vd else rest y := ⟨m, Eq.symm (cu (cu (cu (cu rfl hd) hc) hb) ha)⟩
theorem News.of {h₀ h : Heap} {L : Addr} {n1 n2 : List (Addr × Obj)} (N : News h₀ L h n1) (e : n1 = n2) : News h₀ L h n2 := e ▸ N
end Mine
end
section
open PySem PySem.W PySem.Spec PySem.Calls PyProof.Rows
set_option maxRecDepth 100000
set_option maxHeartbeats 1000000
namespace Mine
/-- the entries that a display of texts' keys lays down, tokens and all -/
noncomputable def entsOf (prog : Program) (w : World) (vs : List (Value × Value)) : List DictEntry :=
  vs.map fun p => ⟨match p.1 with | .str x _ => (PySem.strKind prog w).hash x | _ => 0, p.1, p.2⟩
/-- a plain dict whose entries are told -/
noncomputable def HasE (o : Obj) (es : List DictEntry) : Prop := o.ExactDict ∧ ∃ ep, o.data = .dict es.toArray ep
section
variable {prog : Program} {w : World} {A : Around} {E : Value → Shared → Prop} {s : Shared}
theorem setE {d : Addr} {o : Obj} {es : List DictEntry} {x : Str} {t : Tok} {v : Value} {Q : Unit → Shared → Prop} (ho : s.heap.get? d = some o) (hE : HasE o es) (hk : KeysOf (PySem.strKind prog w) es.toArray)
    (hf : (es.toArray.findIdx? fun e => (PySem.strKind prog w).is x e.key) = none) (hz : es.length ≤ sizeLine)
    (hQ : ∀ h' o', h'.get? d = some o' → HasE o' (es ++ [⟨(PySem.strKind prog w).hash x, .str x t, v⟩]) → Heap.SameBut d s.heap h' → Q () { s with heap := h', toks := s.toks + 1 }) :
    wpAny (model prog w) A (dictSet d (.str x t) v) Q E s := by
  obtain ⟨hc, ep, hd⟩ := hE
  have hkey := strKind_is prog w x t
  unfold dictSet
  try with_reducible refine wpAny_holding ?_
  refine wpAny_bind ((PySem.strKind prog w).pyHash hkey ?_)
  unfold dictSetHashed
  try with_reducible refine wpAny_holding ?_
  refine wpAny_bind (wpAny_dictFind_of (s := { s with toks := s.toks + 1 }) hkey ho hd hk ?_)
  rw [hf]
  have hz' : es.toArray.size ≤ sizeLine := by simpa using hz
  refine wpAny_bind (wpAny_rule (wpAny_updateDictKeys (hz := hz') (s := { s with toks := s.toks + 1 }) ho hd (hQ _ _ (Heap.get?_update_self _ ho (Obj.isFreed_of_dict (Obj.data_mapDictKeys hd _))) ⟨hc.mapDictKeys _, ep + 1, ?_⟩ (Heap.SameBut.update ..))))
  rw [Obj.data_mapDictKeys hd]
  simp
theorem ents_keys : ∀ (vs : List (Value × Value)), allStrKeys vs = true → KeysOf (PySem.strKind prog w) (entsOf prog w vs).toArray := by
  intro vs hvs e he
  induction vs with
  | nil => simp [entsOf] at he
  | cons p r ih =>
    obtain ⟨k, v⟩ := p
    cases k <;> simp [allStrKeys] at hvs
    rename_i x t
    simp only [entsOf, List.map_cons, List.mem_toArray, List.mem_cons] at he
    rcases he with rfl | he
    · exact ⟨x, strKind_is prog w x t, rfl⟩
    · exact ih hvs (by simpa [entsOf] using he)
theorem ents_find (x : Str) : ∀ (vs : List (Value × Value)), allStrKeys vs = true → x ∉ (strPairs vs).map (·.1) → ((entsOf prog w vs).toArray.findIdx? fun e => (PySem.strKind prog w).is x e.key) = none := by
  intro vs hvs hx
  refine Array.findIdx?_eq_none_iff.mpr fun e he => ?_
  induction vs with
  | nil => simp [entsOf] at he
  | cons p r ih =>
    obtain ⟨k, v⟩ := p
    cases k <;> simp [allStrKeys] at hvs
    rename_i y t
    simp only [entsOf, List.map_cons, List.mem_toArray, List.mem_cons] at he
    simp only [strPairs, List.map_cons, List.mem_cons, not_or] at hx
    rcases he with rfl | he
    · rw [KeyKind.is_eq_decide (strKind_is prog w y t) x]
      exact decide_eq_false hx.1
    · exact ih hvs hx.2 (by simpa [entsOf] using he)
theorem strPairs_app : ∀ (a b : List (Value × Value)), allStrKeys a = true → strPairs (a ++ b) = strPairs a ++ strPairs b
  | [], _, _ => rfl
  | (.str x t, v) :: a, b, h => by
    have h' : allStrKeys a = true := h
    simp only [List.cons_append, strPairs, strPairs_app a b h']
  | (.none, _) :: _, _, h | (.ellipsis, _) :: _, _, h | (.notImplemented, _) :: _, _, h | (.bool _, _) :: _, _, h | (.int _ _, _) :: _, _, h | (.float _ _, _) :: _, _, h | (.bytes _ _, _) :: _, _, h | (.type _, _) :: _, _, h
  | (.builtin _, _) :: _, _, h | (.ref _, _) :: _, _, h => by simp [allStrKeys] at h
theorem allStr_app : ∀ (a b : List (Value × Value)), allStrKeys a = true → allStrKeys b = true → allStrKeys (a ++ b) = true
  | [], _, _, h => h
  | (.str x t, v) :: a, b, h, h2 => by
    have h' : allStrKeys a = true := h
    exact allStr_app a b h' h2
  | (.none, _) :: _, _, h, _ | (.ellipsis, _) :: _, _, h, _ | (.notImplemented, _) :: _, _, h, _ | (.bool _, _) :: _, _, h, _ | (.int _ _, _) :: _, _, h, _ | (.float _ _, _) :: _, _, h, _ | (.bytes _ _, _) :: _, _, h, _ | (.type _, _) :: _, _, h, _
  | (.builtin _, _) :: _, _, h, _ | (.ref _, _) :: _, _, h, _ => by simp [allStrKeys] at h
theorem ents_dict {o : Obj} {vs : List (Value × Value)} (h : HasE o (entsOf prog w vs)) (hvs : allStrKeys vs = true) (hn : ((strPairs vs).map (·.1)).Nodup) : o.IsDictOf (PySem.strKind prog w) (strPairs vs) := by
  obtain ⟨hc, ep, hd⟩ := h
  refine ⟨_, ep, hc, hd, ents_keys vs hvs, ?_, hn⟩
  clear hn hd
  show Pairs _ (entsOf prog w vs) _
  induction vs with
  | nil => exact .nil
  | cons p r ih =>
    obtain ⟨k, v⟩ := p
    cases k <;> simp [allStrKeys] at hvs
    exact .cons (strKind_is prog w _ _) rfl (ih hvs)
theorem storeE {d : Addr} : ∀ (vs acc : List (Value × Value)) (s : Shared) (o : Obj) (Q : PUnit → Shared → Prop), s.heap.get? d = some o → HasE o (entsOf prog w acc) → allStrKeys acc = true → allStrKeys vs = true → ((strPairs (acc ++ vs)).map (·.1)).Nodup → acc.length + vs.length ≤ 1000 →
    (∀ h' o', h'.get? d = some o' → HasE o' (entsOf prog w (acc ++ vs)) → Heap.SameBut d s.heap h' → Q PUnit.unit { s with heap := h', toks := s.toks + vs.length }) →
    wpAny (model prog w) A (forIn vs PUnit.unit fun (x : Value × Value) (_ : PUnit) => (do dictSet d x.1 x.2; pure (ForInStep.yield PUnit.unit) : Sem (ForInStep PUnit))) Q E s
  | [], acc, s, o, Q, ho, hE, _, _, _, _, hQ => by
    rw [List.forIn_nil]
    exact wpAny_pure (by simpa using hQ s.heap o ho (by simpa using hE) (Heap.SameBut.refl _ _))
  | (.str x t, v) :: vs, acc, s, o, Q, ho, hE, ha, hv, hn, hz, hQ => by
    have hv' : allStrKeys vs = true := hv
    simp only [List.length_cons] at hz
    rw [List.forIn_cons]
    have hfr : x ∉ (strPairs acc).map (·.1) := by
      rw [strPairs_app _ _ ha, List.map_append, List.nodup_append] at hn
      intro hx
      exact hn.2.2 x hx x (.head _) rfl
    refine wpAny_bind (wpAny_bind (setE ho hE (ents_keys acc ha) (ents_find x acc ha hfr) (by rw [sizeLine_eq]; simp [entsOf]; omega) fun h₁ o₁ ho₁ hE₁ hs₁ => wpAny_pure ?_))
    refine storeE vs (acc ++ [(.str x t, v)]) _ o₁ Q ho₁ (by simpa [entsOf] using hE₁) (allStr_app _ _ ha rfl) hv' (by simpa using hn) (by simp; omega) fun h' o' ho' hE' hs' => ?_
    have := hQ h' o' ho' (by simpa using hE') (hs₁.trans hs')
    simpa [Nat.add_assoc, Nat.add_comm 1] using this
  | (.none, _) :: _, _, _, _, _, _, _, _, h, _, _, _ | (.ellipsis, _) :: _, _, _, _, _, _, _, _, h, _, _, _ | (.notImplemented, _) :: _, _, _, _, _, _, _, _, h, _, _, _ | (.bool _, _) :: _, _, _, _, _, _, _, _, h, _, _, _ | (.int _ _, _) :: _, _, _, _, _, _, _, _, h, _, _, _
  | (.float _ _, _) :: _, _, _, _, _, _, _, _, h, _, _, _ | (.bytes _ _, _) :: _, _, _, _, _, _, _, _, h, _, _, _ | (.type _, _) :: _, _, _, _, _, _, _, _, h, _, _, _ | (.builtin _, _) :: _, _, _, _, _, _, _, _, h, _, _, _ | (.ref _, _) :: _, _, _, _, _, _, _, _, h, _, _, _ => by simp [allStrKeys] at h
/-- a display of texts' keys: what is to be known when all parts are made -/
noncomputable def MadeE (prog : Program) (w : World) (d : Addr) (Q : Value → Shared → Prop) (vs : List (Value × Value)) (s₁ : Shared) : Prop :=
  ∃ o, s₁.heap.get? d = some o ∧ HasE o [] ∧ allStrKeys vs = true ∧ ((strPairs vs).map (·.1)).Nodup ∧
    ∀ h' o', h'.get? d = some o' → HasE o' (entsOf prog w vs) → Heap.SameBut d s₁.heap h' → Q (.ref d) { s₁ with heap := h', toks := s₁.toks + vs.length }
theorem displayE {env : Env} {h₀ : Heap} {L : Addr} {m : Str → Option Value} {news : List (Addr × Obj)} {keys : List (Option PySem.Expr)} {values : List PySem.Expr} {pos : Pos} {Q : Value → Shared → Prop} (F : Fr h₀ L s.heap m) (N : News h₀ L s.heap news) (hbig : h₀.NoLimit)
    (hall : keys.all (·.isSome) = true) (hl : keys.length = values.length) (h0 : keys ≠ []) (hlen : keys.length ≤ 15)
    (h : ∀ (d : Addr) h' o, Fr h₀ L h' m → News h₀ L h' ((d, o) :: news) → (∀ p ∈ news, p.1 < d) → (d == sysModules) = false → HasE o [] →
      wpAny (model prog w) A (evalPairs (pairTrees keys values env pos)) (fun vs s₁ => MadeE prog w d Q vs s₁) E { s with heap := h' }) :
    wpAny (model prog w) A (eval (.Dict keys values pos) env) Q E s := by
  have hn := pairTrees_length keys values env pos hall hl
  have hne : pairTrees keys values env pos ≠ [] := fun he => by
    rw [he] at hn
    exact h0 (List.length_eq_zero_iff.mp hn.symm)
  rw [arm_eval_Dict, zip_pairTrees keys values env pos hall hl, dictDisplay_pairs _ hne (by rw [hn]; omega)]
  refine wpAny_bind (wpAny_standAt (wpAny_bind ?_))
  unfold subDict
  refine wpAny_bind (wpAny_alloc ?_)
  refine wpAny_bind (wpAny_holding ?_)
  rw [if_pos (by rw [hn]; exact hlen)]
  have H := h s.heap.objs.size (s.heap.push { cls := .type "dict", data := .dict #[] }) _ (F.push _) (news_pushed F N (fun b x e => Heap.get?_push_of_some _ e) (Heap.get?_push_size _ rfl) rfl) (fun p hp => Heap.lt_size (N p hp).1) (F.notModules (modules_low hbig)) ⟨⟨rfl, rfl, rfl⟩, 0, rfl⟩
  refine wpAny_bind (wpAny_mono (wpAny_evalPairs_len H) (fun vs s₁ h₁ => ?_) fun _ _ e => e)
  obtain ⟨hvl, o, ho, hE, hk, hnd, hQ⟩ := h₁
  refine wpAny_holding ?_
  refine wpAny_bind (storeE vs [] s₁ o _ ho (by simpa [entsOf] using hE) rfl hk (by simpa using hnd) (by simp; omega) fun h' o' ho' hE' hs' => ?_)
  exact wpAny_pure (wpAny_pure (wpAny_pure (hQ h' o' ho' (by simpa using hE') hs')))
theorem madeE {h₀ : Heap} {L d : Addr} {m : Str → Option Value} {news : List (Addr × Obj)} {g : Obj → List (Addr × Obj)} {o : Obj} {Q : Value → Shared → Prop} {vs : List (Value × Value)} (F : Fr h₀ L s.heap m) (N : News h₀ L s.heap news) (U : UpdF d o news g) (hd : HasE o []) (hk : allStrKeys vs = true) (hn : ((strPairs vs).map (·.1)).Nodup)
    (h : ∀ h' o', Fr h₀ L h' m → News h₀ L h' (g o') → HasE o' (entsOf prog w vs) → Q (.ref d) { s with heap := h', toks := s.toks + vs.length }) : MadeE prog w d Q vs s := by
  obtain ⟨pre, post, rfl, hg, a, b⟩ := U.split
  have hm := N (d, o) (List.mem_append_right _ (.head _))
  exact ⟨o, hm.1, hd, hk, hn, fun h' o' ho' hE' hs => h h' o' (F.change hs hm.2.1 hm.2.2) (hg o' ▸ N.setIn a b hs ho') hE'⟩
end
end Mine
end
section
open PySem PySem.W PySem.Spec PySem.Calls PyProof.Rows
set_option maxRecDepth 100000
set_option maxHeartbeats 1000000
namespace Mine
section
variable {prog : Program} {w : World} {A : Around} {E : Value → Shared → Prop} {s : Shared}
/-- the next item of a dict whose entries are told -/
theorem nextE {it d : Addr} {i ep n : Nat} {od : Obj} {es : List DictEntry} {e : DictEntry} {ok ov : Value} {Q : Option Value → Shared → Prop} (hn : n = es.length) (hit : IsItemIter s.heap it d i n ep ok ov)
    (hod : s.heap.get? d = some od) (hdd : od.data = .dict es.toArray ep) (hx : es[i]? = some e)
    (hQ : ∀ h', IsItemIterOut h' it d (i + 1) n ep e.key e.val s.heap.objs.size → h'.get? s.heap.objs.size = some { cls := .type "tuple", data := .seq #[e.key, e.val] } →
      (∀ b o, b ≠ it → s.heap.get? b = some o → h'.get? b = some o) → Q (some (.ref s.heap.objs.size)) { s with heap := h' }) :
    wpAny (model prog w) A (pyNext (.ref it)) Q E s := by
  obtain ⟨H, g, dr, tk, os⟩ := s
  have hT : Shared.TypeIs ⟨H, g, dr, tk, os⟩ (.ref it) "dict_itemiterator" := ⟨_, hit, rfl⟩
  have hsz : es.toArray.size = n := by simp [hn]
  have hget : es.toArray[i]? = some e := by simpa using hx
  have hil : it < H.objs.size := Heap.lt_size hit
  unfold pyNext
  refine wpAny_bind (wpAny_attempt (wpAny_callSpecial?_slot (name := Str.ofString "__next__") hT F.slot_dict_itemiterator_next
    (wpAny_call_entry F.slot_dict_itemiterator_next hT F.entry_dict_itemiterator_next ?_ (F.args_dict_itemiterator_next_1 _))))
  refine wpAny_bind (wpAny_pure ?_)
  refine wpAny_bind (wpAny_bind ?_)
  refine wpAny_bind (wpAny_typeNameOfWhole_itemiter hT (wpAny_pure ?_))
  refine wpAny_bind (wpAny_fieldsOf hit rfl ?_)
  simp only [show Builtin.Dict_items.ownsTuple "dict_itemiterator" = true by decide, if_true]
  show wpAny _ _ (if (Value.ref d == Value.none) = true then _ else _) _ _ _
  rw [if_neg (show ¬ ((Value.ref d == Value.none) = true) from Bool.false_ne_true)]
  refine wpAny_bind (wpAny_pure (wpAny_bind (wpAny_dictEntries hod hdd ?_)))
  rw [if_neg (by rw [hsz]; simp)]
  refine wpAny_bind (wpAny_pure (wpAny_bind (wpAny_dictEpoch hod hdd ?_)))
  rw [if_neg (by simp)]
  refine wpAny_pure ?_
  simp only [show ¬ ((i : Int) < 0) from by omega, if_false, Int.toNat_natCast, hget]
  refine wpAny_bind (wpAny_bind (wpAny_typeNameOfWhole_itemiter hT (wpAny_pure ?_)))
  refine wpAny_bind (wpAny_isOneOf_itemiter hT ?_)
  show wpAny _ _ (setField (.ref it) 3 (rawInt ((i : Int) + 1)) >>= _) _ _ ⟨H, g, dr, tk, os⟩
  refine wpAny_bind (wpAny_setField_rec hit (by simp) fun h₁ e₁ s₁ => ?_)
  have g₁ : IsItemIter h₁ it d (i + 1) n ep ok ov := by
    have e : ((i + 1 : Nat) : Int) = (i : Int) + 1 := by omega
    unfold IsItemIter; rw [e]; simpa [rawInt] using e₁
  have s₁' : Heap.SameBut it H h₁ := s₁
  have hT₁ : Shared.TypeIs ⟨h₁, g, dr, tk, os⟩ (.ref it) "dict_itemiterator" := ⟨_, g₁, rfl⟩
  refine wpAny_bind (wpAny_holding (wpAny_bind (wpAny_isOneOf_itemiter hT₁ (wpAny_bind (wpAny_isOneOf_itemiter hT₁ ?_)))))
  show wpAny _ _ (Builtin.Dict_items.pairFromOwner (.ref it) 6 e.key e.val) _ _ ⟨h₁, g, dr, tk, os⟩
  unfold Builtin.Dict_items.pairFromOwner
  refine wpAny_bind (wpAny_newTuple ?_)
  have g₂ : IsItemIter (h₁.push { cls := .type "tuple", data := .seq #[e.key, e.val] }) it d (i + 1) n ep ok ov := Heap.get?_push_of_some _ g₁
  have t₂ : (h₁.push { cls := .type "tuple", data := .seq #[e.key, e.val] }).get? H.objs.size = some { cls := .type "tuple", data := .seq #[e.key, e.val] } := by rw [← s₁'.1]; exact Heap.get?_push_size _ rfl
  have k₂ : ∀ b o, b ≠ it → H.get? b = some o → (h₁.push { cls := .type "tuple", data := .seq #[e.key, e.val] }).get? b = some o := fun b o hb x => Heap.get?_push_of_some _ (s₁'.extBut b o hb x)
  have z₁ : h₁.objs.size = H.objs.size := s₁'.1
  rw [z₁]
  generalize h₁.push { cls := .type "tuple", data := .seq #[e.key, e.val] } = h₂ at g₂ t₂ k₂
  show wpAny _ _ (Builtin.Dict_items.ownedTupleIsFree (.ref it) >>= _) _ _ ⟨h₂, g, dr, tk, os⟩
  refine wpAny_bind ?_
  unfold Builtin.Dict_items.ownedTupleIsFree
  refine wpAny_bind (wpAny_field g₂ rfl (x := .none) rfl (wpAny_pure ?_))
  simp only [if_true]
  refine wpAny_bind (wpAny_field g₂ rfl (x := ok) rfl (wpAny_bind (wpAny_field g₂ rfl (x := ov) rfl ?_)))
  refine wpAny_bind (wpAny_setField_rec g₂ (by simp) fun h₃ e₃ s₃ => ?_)
  have g₃ : IsItemIter h₃ it d (i + 1) n ep e.key ov := e₃
  have s₃' : Heap.SameBut it h₂ h₃ := s₃
  refine wpAny_bind (wpAny_setField_rec g₃ (by simp) fun h₄ e₄ s₄ => ?_)
  have g₄ : IsItemIter h₄ it d (i + 1) n ep e.key e.val := e₄
  have s₄' : Heap.SameBut it h₃ h₄ := s₄
  refine wpAny_bind (wpAny_setField_rec g₄ (by simp) fun h₅ e₅ s₅ => ?_)
  have g₅ : IsItemIterOut h₅ it d (i + 1) n ep e.key e.val H.objs.size := e₅
  have s₅' : Heap.SameBut it h₄ h₅ := s₅
  refine wpAny_bind (wpAny_setField_rec g₅ (by simp) fun h₆ e₆ s₆ => ?_)
  have g₆ : IsItemIterOut h₆ it d (i + 1) n ep e.key e.val H.objs.size := e₆
  have s₆' : Heap.SameBut it h₅ h₆ := s₆
  have up : ∀ b o, b ≠ it → h₂.get? b = some o → h₆.get? b = some o := fun b o hb x => s₆'.extBut b o hb (s₅'.extBut b o hb (s₄'.extBut b o hb (s₃'.extBut b o hb x)))
  exact wpAny_bind (wpAny_letGo (wpAny_pure (wpAny_pure ⟨_, rfl, wpAny_pure (hQ h₆ g₆ (up _ _ (Nat.ne_of_gt hil) t₂) fun b o hb x => up b o hb (k₂ b o hb x))⟩)))
/-- a dict in the heap, its entries those of the pairs -/
noncomputable def DictX (prog : Program) (w : World) (h : Heap) (d : Addr) (vs : List (Value × Value)) (ep : Nat) : Prop := ∃ o, h.get? d = some o ∧ o.ExactDict ∧ o.data = .dict (entsOf prog w vs).toArray ep
theorem strPairs_len : ∀ vs : List (Value × Value), allStrKeys vs = true → (strPairs vs).length = vs.length
  | [], _ => rfl
  | (.str x t, v) :: a, h => by
    have h' : allStrKeys a = true := h
    simp only [strPairs, List.length_cons, strPairs_len a h']
  | (.none, _) :: _, h | (.ellipsis, _) :: _, h | (.notImplemented, _) :: _, h | (.bool _, _) :: _, h | (.int _ _, _) :: _, h | (.float _ _, _) :: _, h | (.bytes _ _, _) :: _, h | (.type _, _) :: _, h
  | (.builtin _, _) :: _, h | (.ref _, _) :: _, h => by simp [allStrKeys] at h
theorem DictX.at {h : Heap} {d : Addr} {vs : List (Value × Value)} {ep : Nat} (x : DictX prog w h d vs ep) (hk : allStrKeys vs = true) (hn : ((strPairs vs).map (·.1)).Nodup) : h.DictAt (PySem.strKind prog w) d (strPairs vs) ep := by
  obtain ⟨o, ho, hc, hd⟩ := x
  obtain ⟨es, ep', h1, h2, h3, h4, h5⟩ := ents_dict (prog := prog) (w := w) ⟨hc, ep, hd⟩ hk hn
  rw [hd] at h2
  cases h2
  exact ⟨o, _, ho, hc, hd, h3, h4, h5⟩
theorem DictX.keep {h h' : Heap} {d : Addr} {vs : List (Value × Value)} {ep : Nat} (x : DictX prog w h d vs ep) (k : ∀ o, h.get? d = some o → h'.get? d = some o) : DictX prog w h' d vs ep :=
  let ⟨o, ho, r⟩ := x; ⟨o, k o ho, r⟩
theorem itemsE {elts : List Expr} {kk : Nat} {pos : Pos} (hh : A.handled = none) (I d : Addr) (hne : d ≠ I) (vs : List (Value × Value)) (ep : Nat) (hk : allStrKeys vs = true) (hn : ((strPairs vs).map (·.1)).Nodup) :
    KTurns prog w A (.Tuple elts kk pos) I [I, d] [I] vs.length
      (fun i v h => ∃ T p, v = .ref T ∧ vs[i]? = some p ∧ h.IsTuple T #[p.1, p.2])
      (fun i v h => ∃ T p ok ov, v = .ref T ∧ vs[i]? = some p ∧ h.IsTuple T #[p.1, p.2] ∧ IsItemIterOut h I d (i + 1) vs.length ep ok ov T ∧ DictX prog w h d vs ep ∧ T ≠ I)
      (fun i h => (∃ ok ov, IsItemIter h I d i vs.length ep ok ov) ∧ DictX prog w h d vs ep) where
  sub := fun b hb => by simp at hb; simp [hb]
  frame := fun i h h' st k => by
    obtain ⟨⟨ok, ov, he⟩, hm⟩ := st
    exact ⟨⟨ok, ov, k I (by simp) _ he⟩, hm.keep fun o e => k d (by simp) o e⟩
  item := fun i s Q E hi st hQ => by
    obtain ⟨⟨ok, ov, he⟩, hm⟩ := st
    obtain ⟨o, ho, hc, hd⟩ := hm
    have hp : vs[i]? = some vs[i] := by simp [hi]
    generalize vs[i] = p at hp
    have hx : (entsOf prog w vs)[i]? = some ⟨match p.1 with | .str x _ => (PySem.strKind prog w).hash x | _ => 0, p.1, p.2⟩ := by
      unfold entsOf
      rw [List.getElem?_map, hp]; rfl
    refine nextE (by simp [entsOf]) he ho hd hx fun h' hout hT k => ?_
    exact hQ (.ref s.heap.objs.size) h' s.toks ⟨s.heap.objs.size, p, _, _, rfl, hp, ⟨_, hT, rfl, _, rfl⟩, hout, ⟨o, k d o hne ho, hc, hd⟩, Nat.ne_of_gt (Heap.lt_size he)⟩ fun b o hb e => k b o (fun h => hb (by simp [h])) e
  go := fun i v s Q E hm hQ => by
    obtain ⟨T, p, ok, ov, rfl, hx, hT, ho, hd, hTI⟩ := hm
    refine wpAny_letOwnedTupleGo_items ho fun h' he hs => ?_
    exact hQ h' ⟨T, p, rfl, hx, hT.at fun o e => hs.extBut T o hTI e⟩ ⟨⟨ok, ov, he⟩, hd.keep fun o e => hs.extBut d o hne e⟩ fun b o hb e => hs.extBut b o (fun h => hb (by simp [h])) e
  done := fun s Q E st hQ => by
    obtain ⟨⟨ok, ov, he⟩, hm⟩ := st
    have hl := strPairs_len vs hk
    rw [← hl] at he
    exact wpAny_pyNext_items_end hh he (hm.at hk hn) (by simp [hl]) fun h' hx => hQ h' s.toks fun b o hb e => hx b o (fun h => hb (by simp [h])) e
end
end Mine
end
section
open PySem PySem.W PySem.Spec PySem.Calls PyProof.Rows
set_option maxRecDepth 100000
set_option maxHeartbeats 4000000
namespace Mine
theorem laW01 : True := by
  k_with_none
  k_with "execs cons" => (k_here; first | k_gentoks | (with_reducible refine exq ?_; intro Q9 hQ9))
  k_with "k_unfold" => (with_reducible refine hQ9 _ _ ?_; clear hQ9)
  trivial
theorem replaceT {prog : Program} {w : World} {A : Around} {E : Value → Shared → Prop} {s : Shared} {x y z : Str} {t u v : Tok} {Q : Value → Shared → Prop}
    (hu : u ≠ 0) (hv : v ≠ 0) (huv : u ≠ v) (hyz : (y == z) = false) (hb : x.length + (x.length + 1) * z.length ≤ 16777216)
    (hq : ∀ t' k, s.toks ≤ k → Q (.str (Txt.replace x y z) t') { s with toks := k }) : wpAny (model prog w) A (call (.builtin "str.replace") [.str x t, .str y u, .str z v]) Q E s := by
  have e : (2 : Nat) ^ 24 = 16777216 := by decide
  have hl : Builtin.Str.tooLong (x.length + (Builtin.Str.occurrences x y 0 x.length (x.length + 1)).length * z.length) = false := by
    have h1 := StrLaws.occ_length_le x y 0 x.length (x.length + 1)
    have h2 : (Builtin.Str.occurrences x y 0 x.length (x.length + 1)).length * z.length ≤ (x.length + 1) * z.length := Nat.mul_le_mul_right _ h1
    unfold Builtin.Str.tooLong sizeLine
    exact decide_eq_false (by omega)
  refine call_gives F.slot_str_replace (typeIs_str _ _ _) F.entry_str_replace (F.args_str_replace_3 _ _ _)
    (gives_str_replace x y z t u v fun _ => ⟨by simp [hu, hv], by simp [huv], hyz, hl⟩) ?_
  have hq' := hq
  unfold Txt.replace at hq'
  cases hc : ((Builtin.Str.occurrences x y 0 x.length (x.length + 1)).isEmpty || (y.length == 0 && z.length == 0))
  · rw [hc] at hq'
    simp only [Bool.false_eq_true, if_false] at hq' ⊢
    exact ⟨fits_replaced y hb, hq' _ _ (Nat.le_succ _)⟩
  · rw [hc] at hq'
    simp only [if_true] at hq' ⊢
    exact hq' t s.toks (Nat.le_refl _)

theorem flat_id (c : Nat) (z : List Nat) : ∀ l : List Nat, c ∉ l → l.flatMap (fun k => if k = c then z else [k]) = l
  | [], _ => rfl
  | k :: r, h => by
    have h1 : ¬ k = c := fun e => h (e ▸ List.mem_cons_self ..)
    have h2 : c ∉ r := fun m => h (List.mem_cons_of_mem _ m)
    rw [List.flatMap_cons, if_neg h1, flat_id c z r h2]; rfl
theorem flat_join (c : Nat) (z : Str) : ∀ parts : List Str, (∀ p ∈ parts, c ∉ p.cps.toList) → (Str.join ⟨#[c]⟩ parts).cps.toList.flatMap (fun k => if k = c then z.cps.toList else [k]) = (Str.join z parts).cps.toList
  | [], _ => rfl
  | [p], h => flat_id c _ _ (h p (List.mem_singleton.mpr rfl))
  | p :: q :: r, h => by
    have ih := flat_join c z (q :: r) fun a ha => h a (List.mem_cons_of_mem _ ha)
    show (p ++ ⟨#[c]⟩ ++ Str.join ⟨#[c]⟩ (q :: r)).cps.toList.flatMap _ = (p ++ z ++ Str.join z (q :: r)).cps.toList
    simp only [Str.cps_append, Array.toList_append, List.flatMap_append]
    rw [ih, flat_id c _ _ (h p (List.mem_cons_self ..))]
    simp
/-- one sign put for another text -/
noncomputable def put1 (c : Nat) (z : List Nat) (l : List Nat) : List Nat := l.flatMap (fun k => if k = c then z else [k])
theorem replace_put1 (x z : Str) (c : Nat) : (Txt.replace x ⟨#[c]⟩ z).cps.toList = put1 c z.cps.toList x.cps.toList := by
  rw [StrLaws.replace_one, ← flat_join c z _ (StrLaws.split_free x c), StrLaws.join_split]
  rfl
theorem str_of {x : Str} {l : List Nat} (h : x.cps.toList = l) : x = ⟨l.toArray⟩ := by
  cases x; simp only at h; subst h; rfl
theorem replace_is (x z : Str) (c : Nat) : Txt.replace x ⟨#[c]⟩ z = ⟨(put1 c z.cps.toList x.cps.toList).toArray⟩ := str_of (replace_put1 x z c)

noncomputable abbrev escScope : Scope := { kind := PySem.ScopeKind.function, names := [(PySem.Str.ofString "text", .local), (PySem.Str.ofString "TypeError", .globalImplicit), (PySem.Str.ofString "AttributeError", .globalImplicit), (PySem.Str.ofString "_raise_serialization_error", .globalImplicit)], isGenerator := false, isCoroutine := false, more := [] }

theorem if_put {prog : Program} {w : World} {A : Around} {E : Value → Shared → Prop} {s : Shared} {name : Str} {L a : Addr} {cd : Value} {h₀ : Heap} {m : Str → Option Value} {news : List (Addr × Obj)} {x : List Nat} {t : Tok} {y z : Str} {Q : Flow → Shared → Prop}
    {p1 p2 p3 p4 p5 p6 p7 p8 p9 p10 p11 : Pos} {pl : Sem Bool} (c : Nat)
    (F : Fr h₀ L s.heap m) (N : News h₀ L s.heap news) (hm : m (PySem.Str.ofString "text") = some (.str ⟨x.toArray⟩ t)) (hy : y = ⟨#[c]⟩) (hyz : (y == z) = false) (hz : z.length ≤ 6) (hx : x.length ≤ 100000)
    (h : ∀ h' t' k m', Fr h₀ L h' m' → News h₀ L h' news → m' (PySem.Str.ofString "text") = some (.str ⟨(put1 c z.cps.toList x).toArray⟩ t') → Q .next { s with heap := h', toks := k })
    (he : eval (.Call (.Attribute (.Name (PySem.Str.ofString "text") p5) (PySem.Str.ofString "replace") p6) [.Constant (.str y) 0 p7, .Constant (.str z) 0 p8] [] p9) (envOf name escScope L a cd) = (do
      let ov ← eval (.Name (PySem.Str.ofString "text") p5) (envOf name escScope L a cd)
      standAt p6.atName
      let (f, first) ← holding [ov] (getMethod ov (PySem.Str.ofString "replace") pl)
      callWith p9 f first (backTo p9 (starEach [.Constant (.str y) 0 p7, .Constant (.str z) 0 p8] (envOf name escScope L a cd))) []) := by rfl) :
    wpAny (model prog w) A (exec (.If (.Compare (.Constant (.str y) 0 p1) [.In] [.Name (PySem.Str.ofString "text") p2] p3)
      [.Assign [.Name (PySem.Str.ofString "text") p4] (.Call (.Attribute (.Name (PySem.Str.ofString "text") p5) (PySem.Str.ofString "replace") p6) [.Constant (.str y) 0 p7, .Constant (.str z) 0 p8] [] p9) p10] [] p11) (envOf name escScope L a cd)) Q E s := by
  subst hy
  refine wpAny_If ?_
  refine wpAny_isTrue_Compare1 ?_
  refine Calls.Constant_str ?_
  refine ld F hm ?_ rfl (by rfl) (by decide)
  refine in_str ?_
  refine wpAny_truthy_bool ?_
  have e0 := StrLaws.found_one (⟨x.toArray⟩ : Str) c
  rw [e0]
  by_cases hc : c ∈ x
  · rw [if_pos (by simpa using hc)]
    refine wpAny_execs_cons ?_
    refine wpAny_Assign_Name ?_ (by rfl)
    refine MethodCall_ (pl := pl) ?_ he
    refine ld F hm ?_ rfl (by rfl) (by decide)
    refine GM.replace ?_
    refine callWith_method1 ?_
    refine spliced_more ?_
    refine Calls.Constant_str ?_
    refine spliced_more ?_
    refine Calls.Constant_str ?_
    refine spliced_none ?_
    refine replaceT (by simp) (by simp) (by simp) hyz ?_ fun t' k hk => ?_
    · show (⟨x.toArray⟩ : Str).length + ((⟨x.toArray⟩ : Str).length + 1) * z.length ≤ 16777216
      have : (⟨x.toArray⟩ : Str).length = x.length := by simp [Str.length]
      rw [this]
      have h1 : (x.length + 1) * z.length ≤ (x.length + 1) * 6 := Nat.mul_le_mul_left _ hz
      omega
    · refine stN F N (fun h' F' N' => ?_) rfl (by rfl)
      refine wpAny_execs_nil ?_
      refine h h' t' _ _ F' N' ?_
      rw [if_pos rfl, replace_is]
  · rw [if_neg (by simpa using hc)]
    refine wpAny_execs_nil ?_
    refine h s.heap t _ m F N ?_
    rw [hm]
    show _ = some (Value.str ⟨(put1 c z.cps.toList x).toArray⟩ t)
    unfold put1
    rw [flat_id _ _ _ hc]

/-- several signs put for texts, one after the other -/
noncomputable def multi (ps : List (Nat × List Nat)) (x : List Nat) : List Nat := ps.foldl (fun x p => put1 p.1 p.2 x) x
noncomputable def lookS (ps : List (Nat × List Nat)) (k : Nat) : List Nat := match ps with
  | [] => [k]
  | p :: r => if k = p.1 then p.2 else lookS r k
/-- no later sign stands in an earlier text, and the texts are short -/
noncomputable def goodS : List (Nat × List Nat) → Bool
  | [] => true
  | p :: r => r.all (fun q => !(p.2.contains q.1)) && decide (p.2.length ≤ 6) && goodS r
theorem multi_nil (x : List Nat) : multi [] x = x := rfl
theorem multi_snoc (ps : List (Nat × List Nat)) (p : Nat × List Nat) (x : List Nat) : multi (ps ++ [p]) x = put1 p.1 p.2 (multi ps x) := by
  unfold multi; rw [List.foldl_append]; rfl
theorem multi_same : ∀ (ps : List (Nat × List Nat)) (l : List Nat), (ps.all fun q => !(l.contains q.1)) = true → multi ps l = l
  | [], _, _ => rfl
  | p :: r, l, h => by
    rw [List.all_cons, Bool.and_eq_true] at h
    have h1 : p.1 ∉ l := by simpa using h.1
    show multi r (put1 p.1 p.2 l) = l
    unfold put1
    rw [flat_id _ _ _ h1]
    exact multi_same r l h.2
theorem multi_append (ps : List (Nat × List Nat)) : ∀ a b : List Nat, multi ps (a ++ b) = multi ps a ++ multi ps b := by
  induction ps with
  | nil => intro a b; rfl
  | cons p r ih =>
    intro a b
    show multi r (put1 p.1 p.2 (a ++ b)) = multi r (put1 p.1 p.2 a) ++ multi r (put1 p.1 p.2 b)
    unfold put1
    rw [List.flatMap_append, ih]
theorem multi_empty (ps : List (Nat × List Nat)) : multi ps [] = [] := by
  induction ps with
  | nil => rfl
  | cons p r ih => exact ih
theorem multi_one : ∀ (ps : List (Nat × List Nat)) (k : Nat), goodS ps = true → multi ps [k] = lookS ps k
  | [], _, _ => rfl
  | p :: r, k, h => by
    simp only [goodS, Bool.and_eq_true] at h
    show multi r (put1 p.1 p.2 [k]) = _
    unfold put1 lookS
    by_cases hk : k = p.1
    · rw [if_pos hk]
      simp only [List.flatMap_cons, List.flatMap_nil, List.append_nil, if_pos hk]
      exact multi_same r _ h.1.1
    · rw [if_neg hk]
      simp only [List.flatMap_cons, List.flatMap_nil, List.append_nil, if_neg hk]
      exact multi_one r k h.2
theorem multi_flat (ps : List (Nat × List Nat)) (h : goodS ps = true) : ∀ x : List Nat, multi ps x = x.flatMap (lookS ps)
  | [] => multi_empty ps
  | k :: r => by
    show multi ps ([k] ++ r) = _
    rw [multi_append, multi_one ps k h, multi_flat ps h r]; rfl
theorem lookS_len : ∀ (ps : List (Nat × List Nat)) (k : Nat), goodS ps = true → (lookS ps k).length ≤ 6
  | [], _, _ => by show 1 ≤ 6; decide
  | p :: r, k, h => by
    simp only [goodS, Bool.and_eq_true, decide_eq_true_eq] at h
    unfold lookS
    split
    · exact h.1.2
    · exact lookS_len r k h.2
theorem multi_len (ps : List (Nat × List Nat)) (h : goodS ps = true) (x : List Nat) : (multi ps x).length ≤ 6 * x.length := by
  rw [multi_flat ps h]
  induction x with
  | nil => simp
  | cons k r ih =>
    rw [List.flatMap_cons, List.length_append, List.length_cons]
    have := lookS_len ps k h
    omega
theorem goodS_init : ∀ (ps : List (Nat × List Nat)) (p : Nat × List Nat), goodS (ps ++ [p]) = true → goodS ps = true ∧ p.2.length ≤ 6
  | [], p, h => by simpa [goodS] using h
  | q :: r, p, h => by
    simp only [List.cons_append, goodS, Bool.and_eq_true, List.all_append] at h ⊢
    exact ⟨⟨⟨h.1.1.1, h.1.2⟩, (goodS_init r p h.2).1⟩, (goodS_init r p h.2).2⟩

theorem if_multi {prog : Program} {w : World} {A : Around} {E : Value → Shared → Prop} {s : Shared} {name : Str} {L a : Addr} {cd : Value} {h₀ : Heap} {m : Str → Option Value} {news : List (Addr × Obj)} {x : List Nat} {t : Tok} {y z : Str} {Q : Flow → Shared → Prop}
    {p1 p2 p3 p4 p5 p6 p7 p8 p9 p10 p11 : Pos} {pl : Sem Bool} {ps : List (Nat × List Nat)} (c : Nat) (zl : List Nat)
    (F : Fr h₀ L s.heap m) (N : News h₀ L s.heap news) (hm : m (PySem.Str.ofString "text") = some (.str ⟨(multi ps x).toArray⟩ t)) (hy : y = ⟨#[c]⟩) (hz : z = ⟨zl.toArray⟩) (hyz : (y == z) = false) (hg : goodS (ps ++ [(c, zl)]) = true) (hx : x.length ≤ 10000)
    (h : ∀ h' t' k m', Fr h₀ L h' m' → News h₀ L h' news → m' (PySem.Str.ofString "text") = some (.str ⟨(multi (ps ++ [(c, zl)]) x).toArray⟩ t') → Q .next { s with heap := h', toks := k })
    (he : eval (.Call (.Attribute (.Name (PySem.Str.ofString "text") p5) (PySem.Str.ofString "replace") p6) [.Constant (.str y) 0 p7, .Constant (.str z) 0 p8] [] p9) (envOf name escScope L a cd) = (do
      let ov ← eval (.Name (PySem.Str.ofString "text") p5) (envOf name escScope L a cd)
      standAt p6.atName
      let (f, first) ← holding [ov] (getMethod ov (PySem.Str.ofString "replace") pl)
      callWith p9 f first (backTo p9 (starEach [.Constant (.str y) 0 p7, .Constant (.str z) 0 p8] (envOf name escScope L a cd))) []) := by rfl) :
    wpAny (model prog w) A (exec (.If (.Compare (.Constant (.str y) 0 p1) [.In] [.Name (PySem.Str.ofString "text") p2] p3)
      [.Assign [.Name (PySem.Str.ofString "text") p4] (.Call (.Attribute (.Name (PySem.Str.ofString "text") p5) (PySem.Str.ofString "replace") p6) [.Constant (.str y) 0 p7, .Constant (.str z) 0 p8] [] p9) p10] [] p11) (envOf name escScope L a cd)) Q E s := by
  have hg' := goodS_init ps (c, zl) hg
  have hl := multi_len ps hg'.1 x
  refine if_put c F N hm hy hyz ?_ (by omega) (fun h' t' k m' F' N' hm' => h h' t' k m' F' N' ?_) he
  · rw [hz]; simpa [Str.length] using hg'.2
  · rw [hm', multi_snoc, hz]

theorem fill_ : (PySem.Challenge.rw_tp0054_01 = PySem.Challenge.rw_tp0054_01) ∧ (hd.heap_39 = hd.heap_39) := by
  k_fill
  exact ⟨rfl, rfl⟩

theorem ln1 : True := by
  k_with "eval Name" => (k_here; k_dflt (refine' ld ?z0k1 ?z0k2 ?_ ?z0k3 ?z0k4 ?z0k5; (case z0k1 => k_asm); (case z0k2 => with_reducible assumption); (case z0k3 => rfl); (case z0k4 => rfl); (case z0k5 => decide); k_whole))
  trivial
theorem ln2 : True := by
  k_with "exec If" => (k_here; k_dflt (first
  | (refine' if_multi 38 [38,97,109,112,59] ?z1k1 ?z1k2 ?z1k3 ?z1k5 ?z1k6 ?z1k7 ?z1k8 ?z1k9 ?_ ?z1k10; (case z1k5 => decide +kernel); (case z1k1 => k_asm); (case z1k2 => k_asm); (case z1k3 => first | assumption | rfl); (case z1k6 => decide +kernel); (case z1k7 => decide +kernel); (case z1k8 => decide +kernel); (case z1k9 => assumption); (case z1k10 => rfl))
  | (refine' if_multi 60 [38,108,116,59] ?z1k1 ?z1k2 ?z1k3 ?z1k5 ?z1k6 ?z1k7 ?z1k8 ?z1k9 ?_ ?z1k10; (case z1k5 => decide +kernel); (case z1k1 => k_asm); (case z1k2 => k_asm); (case z1k3 => first | assumption | rfl); (case z1k6 => decide +kernel); (case z1k7 => decide +kernel); (case z1k8 => decide +kernel); (case z1k9 => assumption); (case z1k10 => rfl))
  | (refine' if_multi 62 [38,103,116,59] ?z1k1 ?z1k2 ?z1k3 ?z1k5 ?z1k6 ?z1k7 ?z1k8 ?z1k9 ?_ ?z1k10; (case z1k5 => decide +kernel); (case z1k1 => k_asm); (case z1k2 => k_asm); (case z1k3 => first | assumption | rfl); (case z1k6 => decide +kernel); (case z1k7 => decide +kernel); (case z1k8 => decide +kernel); (case z1k9 => assumption); (case z1k10 => rfl))
  | (refine' if_multi 34 [38,113,117,111,116,59] ?z1k1 ?z1k2 ?z1k3 ?z1k5 ?z1k6 ?z1k7 ?z1k8 ?z1k9 ?_ ?z1k10; (case z1k5 => decide +kernel); (case z1k1 => k_asm); (case z1k2 => k_asm); (case z1k3 => first | assumption | rfl); (case z1k6 => decide +kernel); (case z1k7 => decide +kernel); (case z1k8 => decide +kernel); (case z1k9 => assumption); (case z1k10 => rfl))
  | (refine' if_multi 13 [38,35,49,51,59] ?z1k1 ?z1k2 ?z1k3 ?z1k5 ?z1k6 ?z1k7 ?z1k8 ?z1k9 ?_ ?z1k10; (case z1k5 => decide +kernel); (case z1k1 => k_asm); (case z1k2 => k_asm); (case z1k3 => first | assumption | rfl); (case z1k6 => decide +kernel); (case z1k7 => decide +kernel); (case z1k8 => decide +kernel); (case z1k9 => assumption); (case z1k10 => rfl))
  | (refine' if_multi 10 [38,35,49,48,59] ?z1k1 ?z1k2 ?z1k3 ?z1k5 ?z1k6 ?z1k7 ?z1k8 ?z1k9 ?_ ?z1k10; (case z1k5 => decide +kernel); (case z1k1 => k_asm); (case z1k2 => k_asm); (case z1k3 => first | assumption | rfl); (case z1k6 => decide +kernel); (case z1k7 => decide +kernel); (case z1k8 => decide +kernel); (case z1k9 => assumption); (case z1k10 => rfl))
  | (refine' if_multi 9 [38,35,48,57,59] ?z1k1 ?z1k2 ?z1k3 ?z1k5 ?z1k6 ?z1k7 ?z1k8 ?z1k9 ?_ ?z1k10; (case z1k5 => decide +kernel); (case z1k1 => k_asm); (case z1k2 => k_asm); (case z1k3 => first | assumption | rfl); (case z1k6 => decide +kernel); (case z1k7 => decide +kernel); (case z1k8 => decide +kernel); (case z1k9 => assumption); (case z1k10 => rfl))
  | (refine' if_multi 13 [38,35,120,68,59] ?z1k1 ?z1k2 ?z1k3 ?z1k5 ?z1k6 ?z1k7 ?z1k8 ?z1k9 ?_ ?z1k10; (case z1k5 => decide +kernel); (case z1k1 => k_asm); (case z1k2 => k_asm); (case z1k3 => first | assumption | rfl); (case z1k6 => decide +kernel); (case z1k7 => decide +kernel); (case z1k8 => decide +kernel); (case z1k9 => assumption); (case z1k10 => rfl))
  | (refine' if_multi 10 [38,35,120,65,59] ?z1k1 ?z1k2 ?z1k3 ?z1k5 ?z1k6 ?z1k7 ?z1k8 ?z1k9 ?_ ?z1k10; (case z1k5 => decide +kernel); (case z1k1 => k_asm); (case z1k2 => k_asm); (case z1k3 => first | assumption | rfl); (case z1k6 => decide +kernel); (case z1k7 => decide +kernel); (case z1k8 => decide +kernel); (case z1k9 => assumption); (case z1k10 => rfl))
  | (refine' if_multi 9 [38,35,120,57,59] ?z1k1 ?z1k2 ?z1k3 ?z1k5 ?z1k6 ?z1k7 ?z1k8 ?z1k9 ?_ ?z1k10; (case z1k5 => decide +kernel); (case z1k1 => k_asm); (case z1k2 => k_asm); (case z1k3 => first | assumption | rfl); (case z1k6 => decide +kernel); (case z1k7 => decide +kernel); (case z1k8 => decide +kernel); (case z1k9 => assumption); (case z1k10 => rfl))); intro _ _ _ _ _ _ _; (try dsimp only [List.append, List.nil_append, List.cons_append]))
  trivial

theorem esc_cdata (w : World) (x : List Nat) (t : Tok) (news) (hx : x.length ≤ 10000) : Con w 35 [.str ⟨x.toArray⟩ t] news 4 40
    (fun tl r => tl = [] ∧ ∃ t', r = .str ⟨(multi [(38, [38,97,109,112,59]), (60, [38,108,116,59]), (62, [38,103,116,59])] x).toArray⟩ t') := by
  show Con w 35 [.str ⟨(multi [] x).toArray⟩ t] news 4 40 _
  unfold Con
  intro mean mg mb dp un gd cn cs a ccd cl outer A₀ base h₀ L m s Q E B F X N T hk hd hu hret
  w_on
  w_strict (
  refine wpAny_call ?_
  k_dflt ktr_enter
  k_steps
  all_goals exact hret _ [] _ _ (by k_asm) (by k_asm) (fun _ _ _ h => nomatch h) ⟨rfl, _, rfl⟩)

theorem esc_attrib (w : World) (x : List Nat) (t : Tok) (news) (hx : x.length ≤ 10000) : Con w 42 [.str ⟨x.toArray⟩ t] news 4 40
    (fun tl r => tl = [] ∧ ∃ t', r = .str ⟨(multi [(38, [38,97,109,112,59]), (60, [38,108,116,59]), (62, [38,103,116,59]), (34, [38,113,117,111,116,59]), (13, [38,35,49,51,59]), (10, [38,35,49,48,59]), (9, [38,35,48,57,59])] x).toArray⟩ t') := by
  show Con w 42 [.str ⟨(multi [] x).toArray⟩ t] news 4 40 _
  unfold Con
  intro mean mg mb dp un gd cn cs a ccd cl outer A₀ base h₀ L m s Q E B F X N T hk hd hu hret
  w_on
  w_strict (
  refine wpAny_call ?_
  k_dflt ktr_enter
  k_steps
  all_goals exact hret _ [] _ _ (by k_asm) (by k_asm) (fun _ _ _ h => nomatch h) ⟨rfl, _, rfl⟩)

theorem esc_attrib_html (w : World) (x : List Nat) (t : Tok) (news) (hx : x.length ≤ 10000) : Con w 49 [.str ⟨x.toArray⟩ t] news 4 40
    (fun tl r => tl = [] ∧ ∃ t', r = .str ⟨(multi [(38, [38,97,109,112,59]), (62, [38,103,116,59]), (34, [38,113,117,111,116,59])] x).toArray⟩ t') := by
  show Con w 49 [.str ⟨(multi [] x).toArray⟩ t] news 4 40 _
  unfold Con
  intro mean mg mb dp un gd cn cs a ccd cl outer A₀ base h₀ L m s Q E B F X N T hk hd hu hret
  w_on
  w_strict (
  refine wpAny_call ?_
  k_dflt ktr_enter
  k_steps
  all_goals exact hret _ [] _ _ (by k_asm) (by k_asm) (fun _ _ _ h => nomatch h) ⟨rfl, _, rfl⟩)

theorem esc_cdata_c14n (w : World) (x : List Nat) (t : Tok) (news) (hx : x.length ≤ 10000) : Con w 56 [.str ⟨x.toArray⟩ t] news 4 40
    (fun tl r => tl = [] ∧ ∃ t', r = .str ⟨(multi [(38, [38,97,109,112,59]), (60, [38,108,116,59]), (62, [38,103,116,59]), (13, [38,35,120,68,59])] x).toArray⟩ t') := by
  show Con w 56 [.str ⟨(multi [] x).toArray⟩ t] news 4 40 _
  unfold Con
  intro mean mg mb dp un gd cn cs a ccd cl outer A₀ base h₀ L m s Q E B F X N T hk hd hu hret
  w_on
  w_strict (
  refine wpAny_call ?_
  k_dflt ktr_enter
  k_steps
  all_goals exact hret _ [] _ _ (by k_asm) (by k_asm) (fun _ _ _ h => nomatch h) ⟨rfl, _, rfl⟩)

theorem esc_attrib_c14n (w : World) (x : List Nat) (t : Tok) (news) (hx : x.length ≤ 10000) : Con w 63 [.str ⟨x.toArray⟩ t] news 4 40
    (fun tl r => tl = [] ∧ ∃ t', r = .str ⟨(multi [(38, [38,97,109,112,59]), (60, [38,108,116,59]), (34, [38,113,117,111,116,59]), (9, [38,35,120,57,59]), (10, [38,35,120,65,59]), (13, [38,35,120,68,59])] x).toArray⟩ t') := by
  show Con w 63 [.str ⟨(multi [] x).toArray⟩ t] news 4 40 _
  unfold Con
  intro mean mg mb dp un gd cn cs a ccd cl outer A₀ base h₀ L m s Q E B F X N T hk hd hu hret
  w_on
  w_strict (
  refine wpAny_call ?_
  k_dflt ktr_enter
  k_steps
  all_goals exact hret _ [] _ _ (by k_asm) (by k_asm) (fun _ _ _ h => nomatch h) ⟨rfl, _, rfl⟩)
end Mine
end
section
open PySem PySem.W PySem.Spec PySem.Calls PyProof.Rows
set_option maxRecDepth 100000
set_option maxHeartbeats 4000000
namespace Mine
theorem laW02 : True := by
  k_with_none
  k_with "execs cons" => (k_here; first | k_gentoks | (with_reducible refine exq ?_; intro Q9 hQ9))
  k_with "k_unfold" => (with_reducible refine hQ9 _ _ ?_; clear hQ9)
  trivial
/-- the signs that each of the five escapes puts, in its own order -/
noncomputable def spP (hand : Nat) : List (Nat × List Nat) := match hand with
  | 0 => [(38, [38,97,109,112,59]), (60, [38,108,116,59]), (62, [38,103,116,59])]
  | 1 => [(38, [38,97,109,112,59]), (60, [38,108,116,59]), (62, [38,103,116,59]), (34, [38,113,117,111,116,59]), (13, [38,35,49,51,59]), (10, [38,35,49,48,59]), (9, [38,35,48,57,59])]
  | 2 => [(38, [38,97,109,112,59]), (62, [38,103,116,59]), (34, [38,113,117,111,116,59])]
  | 3 => [(38, [38,97,109,112,59]), (60, [38,108,116,59]), (62, [38,103,116,59]), (13, [38,35,120,68,59])]
  | _ => [(38, [38,97,109,112,59]), (60, [38,108,116,59]), (34, [38,113,117,111,116,59]), (9, [38,35,120,57,59]), (10, [38,35,120,65,59]), (13, [38,35,120,68,59])]
theorem ln4 : True := by
  k_with "call ref" => (k_here; k_dflt (first
  | (refine' Con.use0 (esc_cdata _ _ _ _ (by assumption)) ?z3k1 ?z3k2 ?z3k3 ?z3k4 ?z3k5 ?z3k6 ?z3k7 ?z3k8 ?_; (case z3k1 => k_asm); (case z3k2 => k_asm); (case z3k3 => k_asm); (case z3k4 => k_asm); (case z3k5 => k_asm); (case z3k6 => first | exact rfl | assumption); (case z3k7 => ktr_room); (case z3k8 => ktr_units); k_whole; intro t9 h9 tk9 F9 N9; (try dsimp only); (try k_fold))
  | (refine' Con.use0 (esc_attrib _ _ _ _ (by assumption)) ?z3k1 ?z3k2 ?z3k3 ?z3k4 ?z3k5 ?z3k6 ?z3k7 ?z3k8 ?_; (case z3k1 => k_asm); (case z3k2 => k_asm); (case z3k3 => k_asm); (case z3k4 => k_asm); (case z3k5 => k_asm); (case z3k6 => first | exact rfl | assumption); (case z3k7 => ktr_room); (case z3k8 => ktr_units); k_whole; intro t9 h9 tk9 F9 N9; (try dsimp only); (try k_fold))
  | (refine' Con.use0 (esc_attrib_html _ _ _ _ (by assumption)) ?z3k1 ?z3k2 ?z3k3 ?z3k4 ?z3k5 ?z3k6 ?z3k7 ?z3k8 ?_; (case z3k1 => k_asm); (case z3k2 => k_asm); (case z3k3 => k_asm); (case z3k4 => k_asm); (case z3k5 => k_asm); (case z3k6 => first | exact rfl | assumption); (case z3k7 => ktr_room); (case z3k8 => ktr_units); k_whole; intro t9 h9 tk9 F9 N9; (try dsimp only); (try k_fold))
  | (refine' Con.use0 (esc_cdata_c14n _ _ _ _ (by assumption)) ?z3k1 ?z3k2 ?z3k3 ?z3k4 ?z3k5 ?z3k6 ?z3k7 ?z3k8 ?_; (case z3k1 => k_asm); (case z3k2 => k_asm); (case z3k3 => k_asm); (case z3k4 => k_asm); (case z3k5 => k_asm); (case z3k6 => first | exact rfl | assumption); (case z3k7 => ktr_room); (case z3k8 => ktr_units); k_whole; intro t9 h9 tk9 F9 N9; (try dsimp only); (try k_fold))
  | (refine' Con.use0 (esc_attrib_c14n _ _ _ _ (by assumption)) ?z3k1 ?z3k2 ?z3k3 ?z3k4 ?z3k5 ?z3k6 ?z3k7 ?z3k8 ?_; (case z3k1 => k_asm); (case z3k2 => k_asm); (case z3k3 => k_asm); (case z3k4 => k_asm); (case z3k5 => k_asm); (case z3k6 => first | exact rfl | assumption); (case z3k7 => ktr_room); (case z3k8 => ktr_units); k_whole; intro t9 h9 tk9 F9 N9; (try dsimp only); (try k_fold))
))
  trivial
theorem sent_0 (w : World) (x : List Nat) (t th : Tok) (news) (hx : x.length ≤ 10000) : Con w 139 [.str ⟨x.toArray⟩ t, .int 0 th] news 6 80
    (fun tl r => tl = [] ∧ ∃ t', r = .str ⟨(multi (spP 0) x).toArray⟩ t') := by
  unfold Con
  intro mean mg mb dp un gd cn cs a ccd cl outer A₀ base h₀ L m s Q E B F X N T hk hd hu hret
  w_on
  w_strict (
  refine wpAny_call ?_
  k_dflt ktr_enter
  k_steps
  all_goals exact hret _ [] _ _ (by k_asm) (by k_asm) (fun _ _ _ h => nomatch h) ⟨rfl, _, rfl⟩)
theorem sent_1 (w : World) (x : List Nat) (t th : Tok) (news) (hx : x.length ≤ 10000) : Con w 139 [.str ⟨x.toArray⟩ t, .int 1 th] news 6 80
    (fun tl r => tl = [] ∧ ∃ t', r = .str ⟨(multi (spP 1) x).toArray⟩ t') := by
  unfold Con
  intro mean mg mb dp un gd cn cs a ccd cl outer A₀ base h₀ L m s Q E B F X N T hk hd hu hret
  w_on
  w_strict (
  refine wpAny_call ?_
  k_dflt ktr_enter
  k_steps
  all_goals exact hret _ [] _ _ (by k_asm) (by k_asm) (fun _ _ _ h => nomatch h) ⟨rfl, _, rfl⟩)
theorem sent_2 (w : World) (x : List Nat) (t th : Tok) (news) (hx : x.length ≤ 10000) : Con w 139 [.str ⟨x.toArray⟩ t, .int 2 th] news 6 80
    (fun tl r => tl = [] ∧ ∃ t', r = .str ⟨(multi (spP 2) x).toArray⟩ t') := by
  unfold Con
  intro mean mg mb dp un gd cn cs a ccd cl outer A₀ base h₀ L m s Q E B F X N T hk hd hu hret
  w_on
  w_strict (
  refine wpAny_call ?_
  k_dflt ktr_enter
  k_steps
  all_goals exact hret _ [] _ _ (by k_asm) (by k_asm) (fun _ _ _ h => nomatch h) ⟨rfl, _, rfl⟩)
theorem sent_3 (w : World) (x : List Nat) (t th : Tok) (news) (hx : x.length ≤ 10000) : Con w 139 [.str ⟨x.toArray⟩ t, .int 3 th] news 6 80
    (fun tl r => tl = [] ∧ ∃ t', r = .str ⟨(multi (spP 3) x).toArray⟩ t') := by
  unfold Con
  intro mean mg mb dp un gd cn cs a ccd cl outer A₀ base h₀ L m s Q E B F X N T hk hd hu hret
  w_on
  w_strict (
  refine wpAny_call ?_
  k_dflt ktr_enter
  k_steps
  all_goals exact hret _ [] _ _ (by k_asm) (by k_asm) (fun _ _ _ h => nomatch h) ⟨rfl, _, rfl⟩)
theorem sent_4 (w : World) (x : List Nat) (t th : Tok) (news) (hx : x.length ≤ 10000) : Con w 139 [.str ⟨x.toArray⟩ t, .int 4 th] news 6 80
    (fun tl r => tl = [] ∧ ∃ t', r = .str ⟨(multi (spP 4) x).toArray⟩ t') := by
  unfold Con
  intro mean mg mb dp un gd cn cs a ccd cl outer A₀ base h₀ L m s Q E B F X N T hk hd hu hret
  w_on
  w_strict (
  refine wpAny_call ?_
  k_dflt ktr_enter
  k_steps
  all_goals exact hret _ [] _ _ (by k_asm) (by k_asm) (fun _ _ _ h => nomatch h) ⟨rfl, _, rfl⟩)
theorem sent_ (w : World) (x : List Nat) (t th : Tok) (news) (hand : Nat) (hh : hand < 5) (hx : x.length ≤ 10000) : Con w 139 [.str ⟨x.toArray⟩ t, .int hand th] news 6 80
    (fun tl r => tl = [] ∧ ∃ t', r = .str ⟨(multi (spP hand) x).toArray⟩ t') := by
  match hand, hh with
  | 0, _ => exact sent_0 w x t th news hx
  | 1, _ => exact sent_1 w x t th news hx
  | 2, _ => exact sent_2 w x t th news hx
  | 3, _ => exact sent_3 w x t th news hx
  | 4, _ => exact sent_4 w x t th news hx
end Mine
end
section
open PySem PySem.W PySem.Spec PySem.Calls PyProof.Rows
set_option maxRecDepth 100000
set_option maxHeartbeats 4000000
namespace Mine
theorem laW03 : True := by
  k_with_none
  k_with "execs cons" => (k_here; first | k_gentoks | (with_reducible refine exq ?_; intro Q9 hQ9))
  k_with "k_unfold" => (with_reducible refine hQ9 _ _ ?_; clear hQ9)
  trivial
inductive Cl where
  | leaf (k : Nat)
  | node (o : Nat) (l r : Cl)
noncomputable def letC (k : Nat) : Nat := match k with | 0 => 97 | 1 => 98 | _ => 34
noncomputable def opL (o : Nat) : List Nat := match o with | 0 => [38] | 1 => [124] | 2 => [60] | 3 => [60, 61] | 4 => [62] | _ => [62, 61]
noncomputable def textL : Cl → List Nat
  | .leaf k => [letC k]
  | .node o l r => 40 :: (textL l ++ (opL o ++ (textL r ++ [41])))
noncomputable def Cl.size : Cl → Nat
  | .leaf _ => 1
  | .node _ l r => l.size + r.size + 1
noncomputable def Cl.ok : Cl → Prop
  | .leaf k => k < 3
  | .node o l r => o < 6 ∧ l.ok ∧ r.ok
noncomputable abbrev tupO (vs : List Value) : Obj := { cls := .type "tuple", data := .seq vs.toArray }
inductive CI (news : List (Addr × Obj)) : Value → Cl → Prop
  | leaf {k : Nat} {t : Tok} : CI news (.str ⟨#[letC k]⟩ t) (.leaf k)
  | node {a : Addr} {o : Nat} {t : Tok} {vl vr : Value} {l r : Cl} : (a, tupO [.str ⟨(opL o).toArray⟩ t, vl, vr]) ∈ news → CI news vl l → CI news vr r → CI news (.ref a) (.node o l r)
theorem CI.mono {news news' : List (Addr × Obj)} {v : Value} {c : Cl} (h : CI news v c) (hs : ∀ p ∈ news, p ∈ news') : CI news' v c := by
  induction h with
  | leaf => exact .leaf
  | node hm _ _ ih1 ih2 => exact .node (hs _ hm) ih1 ih2
theorem opL_len (o : Nat) : (opL o).length ≤ 2 := by unfold opL; split <;> decide
theorem textL_len : ∀ c : Cl, (textL c).length ≤ 5 * c.size
  | .leaf k => by show 1 ≤ 5; decide
  | .node o l r => by
    have h1 := textL_len l
    have h2 := textL_len r
    have h3 := opL_len o
    simp only [textL, Cl.size, List.length_cons, List.length_append, List.length_nil]
    omega
noncomputable def TextOut (c : Cl) : List (Addr × Obj) → Value → Prop := fun tl r => tl = [] ∧ ∃ t', r = .str ⟨(textL c).toArray⟩ t'

theorem strOut {xl yl : List Nat} {t : Tok} (h : xl = yl) : ∃ t', Value.str ⟨xl.toArray⟩ t = .str ⟨yl.toArray⟩ t' := ⟨t, by rw [h]⟩
theorem lit_lp : PySem.Str.ofString "(" = ⟨[40].toArray⟩ := by decide +kernel
theorem lit_rp : PySem.Str.ofString ")" = ⟨[41].toArray⟩ := by decide +kernel
theorem lit_tl : PySem.Str.ofString "~" = ⟨[126].toArray⟩ := by decide +kernel
theorem add_strL {prog : Program} {w : World} {A : Around} {E : Value → Shared → Prop} {s : Shared} {x y : Str} {xl yl : List Nat} {t u : Tok} {Q : Value → Shared → Prop} (hx : x = ⟨xl.toArray⟩) (hy : y = ⟨yl.toArray⟩) (hl : xl.length + yl.length ≤ 100000)
    (h : ∀ t' tk, Q (.str ⟨(xl ++ yl).toArray⟩ t') { s with toks := tk }) : wpAny (model prog w) A (binaryOp .Add (.str x t) (.str y u)) Q E s := by
  subst hx; subst hy
  refine add_str ?_ ?_
  · have e : (⟨xl.toArray⟩ : Str) ++ ⟨yl.toArray⟩ = ⟨(xl ++ yl).toArray⟩ := by show Str.append _ _ = _; simp [Str.append]
    rw [e]; exact h
  · show (⟨xl.toArray⟩ : Str).length + (⟨yl.toArray⟩ : Str).length ≤ sizeLine
    simp only [Str.length, List.size_toArray, sizeLine_eq]; omega
theorem ln6 : True := by
  k_with "binaryOp Add str str" => (k_here; k_dflt (
  refine' add_strL ?z5kx ?z5ky ?z5kl ?_; (case z5kx => first | exact lit_lp | exact lit_rp | exact lit_tl | rfl); (case z5ky => first | exact lit_lp | exact lit_rp | exact lit_tl | rfl);
  (case z5kl => ((simp only [List.length_append, List.length_cons, List.length_nil]); omega)); k_whole; intro _ _))
  trivial
theorem ln7 : True := by
  k_with "call ref" => (k_here; k_dflt (
  refine' Con.use0 ?z6kC ?z6k1 ?z6k2 ?z6k3 ?z6k4 ?z6k5 ?z6k6 ?z6k7 ?z6k8 ?_; (case z6kC => assumption);
  (case z6k1 => k_asm); (case z6k2 => k_asm); (case z6k3 => k_asm); (case z6k4 => k_asm); (case z6k5 => k_asm); (case z6k6 => first | exact rfl | assumption); (case z6k7 => ktr_room); (case z6k8 => ktr_units); k_whole; intro t9 h9 tk9 F9 N9; (try dsimp only); (try k_fold)))
  trivial
theorem text_leaf (w : World) (k : Nat) (t : Tok) (news) : Con w 165 [.str ⟨#[letC k]⟩ t] news 1 8 (TextOut (.leaf k)) := by
  unfold Con
  intro mean mg mb dp un gd cn cs a ccd cl outer A₀ base h₀ L m s Q E B F X N T hk hd hu hret
  w_on
  w_strict (
  refine wpAny_call ?_
  k_dflt ktr_enter
  k_steps
  all_goals exact hret _ [] _ _ (by k_asm) (by k_asm) (fun _ _ _ h => nomatch h) ⟨rfl, _, rfl⟩)
theorem text_node (w : World) (o : Nat) (l r : Cl) (a : Addr) (t : Tok) (vl vr : Value) (news) (hm : (a, tupO [.str ⟨(opL o).toArray⟩ t, vl, vr]) ∈ news)
    (hl : Con w 165 [vl] news l.size (8 * l.size) (TextOut l)) (hr : Con w 165 [vr] news r.size (8 * r.size) (TextOut r)) (hz : (Cl.node o l r).size ≤ 100) :
    Con w 165 [.ref a] news (Cl.node o l r).size (8 * (Cl.node o l r).size) (TextOut (.node o l r)) := by
  unfold Con
  simp only [Cl.size] at hz ⊢
  have hl1 := textL_len l
  have hl2 := textL_len r
  have hl3 := opL_len o
  intro mean mg mb dp un gd cn cs a ccd cl outer A₀ base h₀ L m s Q E B F X N T hk hd hu hret
  w_on
  w_strict (
  refine wpAny_call ?_
  k_dflt ktr_enter
  k_steps
  all_goals exact hret _ [] _ _ (by k_asm) (by k_asm) (fun _ _ _ h => nomatch h) ⟨rfl, strOut (by simp [textL])⟩)
theorem text_ (w : World) {news : List (Addr × Obj)} {v : Value} {c : Cl} (h : CI news v c) : c.size ≤ 100 → Con w 165 [v] news c.size (8 * c.size) (TextOut c) := by
  induction h with
  | leaf => exact fun _ => text_leaf w _ _ news
  | node hm _ _ ih1 ih2 => exact fun hz => text_node w _ _ _ _ _ _ _ news hm (ih1 (by simp only [Cl.size] at hz; omega)) (ih2 (by simp only [Cl.size] at hz; omega)) hz
end Mine
end
section
open PySem PySem.W PySem.Spec PySem.Calls PyProof.Rows
set_option maxRecDepth 100000
set_option maxHeartbeats 4000000
namespace Mine
theorem laW04 : True := by
  k_with_none
  k_with "execs cons" => (k_here; first | k_gentoks | (with_reducible refine exq ?_; intro Q9 hQ9))
  k_with "k_unfold" => (with_reducible refine hQ9 _ _ ?_; clear hQ9)
  trivial
section
noncomputable def shownL (so : Bool) (c : Cl) : List Nat := if so then textL c else 126 :: textL c
noncomputable def StrOut (x : List Nat) : List (Addr × Obj) → Value → Prop := fun tl r => tl = [] ∧ ∃ t', r = .str ⟨x.toArray⟩ t'
theorem ln9 : True := by
  k_with "call ref" => (k_here; k_dflt (
  refine' Con.use0 (text_ _ (by assumption) (by assumption)) ?z8k1 ?z8k2 ?z8k3 ?z8k4 ?z8k5 ?z8k6 ?z8k7 ?z8k8 ?_;
  (case z8k1 => k_asm); (case z8k2 => k_asm); (case z8k3 => k_asm); (case z8k4 => k_asm); (case z8k5 => k_asm); (case z8k6 => first | exact rfl | assumption); (case z8k7 => ktr_room); (case z8k8 => ktr_units); k_whole; intro t9 h9 tk9 F9 N9; (try dsimp only); (try k_fold)))
  trivial
theorem ln10 : True := by
  k_with "binaryOp Add str str" => (k_here; k_dflt (
  refine' add_strL ?z9kx ?z9ky ?z9kl ?_; (case z9kx => first | exact lit_lp | exact lit_rp | exact lit_tl | rfl); (case z9ky => first | exact lit_lp | exact lit_rp | exact lit_tl | rfl);
  (case z9kl => ((simp only [List.length_append, List.length_cons, List.length_nil]); omega)); k_whole; intro _ _))
  trivial
theorem shown_ (w : World) {news : List (Addr × Obj)} {v : Value} {c : Cl} (so : Bool) (h : CI news v c) (hz : c.size ≤ 100) : Con w 172 [.bool so, v] news (c.size + 1) (8 * c.size + 8) (StrOut (shownL so c)) := by
  unfold Con
  intro mean mg mb dp un gd cn cs a ccd cl outer A₀ base h₀ L m s Q E B F X N T hk hd hu hret
  have hl1 := textL_len c
  w_on
  cases so
  all_goals (w_strict (
  refine wpAny_call ?_
  k_dflt ktr_enter
  k_steps
  all_goals exact hret _ [] _ _ (by k_asm) (by k_asm) (fun _ _ _ h => nomatch h) ⟨rfl, strOut (by simp [shownL])⟩))
end
end Mine
end
section
open PySem PySem.W PySem.Spec PySem.Calls PyProof.Rows
set_option maxRecDepth 100000
set_option maxHeartbeats 4000000
namespace Mine
theorem lzW05a : True := by
  k_with_none
  trivial
inductive BV : Value → Bool → Prop
  | int {b : Bool} {t : Tok} : BV (.int (if b then 1 else 0) t) b
  | bool {b : Bool} : BV (.bool b) b
theorem BV.of_int {i : Int} {t : Tok} {b : Bool} (h : i = if b then 1 else 0) : BV (.int i t) b := by subst h; exact .int
theorem wif_no {α : Type} {M : Model} {A : Around} {c : Prop} [Decidable c] {x y : Sem α} {Q : α → Shared → Prop} {E : Value → Shared → Prop} {s : Shared} (h : ¬ c) (k : wpAny M A y Q E s) : wpAny M A (if c then x else y) Q E s := by rw [if_neg h]; exact k
theorem wif_yes {α : Type} {M : Model} {A : Around} {c : Prop} [Decidable c] {x y : Sem α} {Q : α → Shared → Prop} {E : Value → Shared → Prop} {s : Shared} (h : c) (k : wpAny M A x Q E s) : wpAny M A (if c then x else y) Q E s := by rw [if_pos h]; exact k
theorem bin1_refl {M : Model} {a b : Value} {A : Around} {E : Value → Shared → Prop} {s : Shared} {T U nm idl : String} {Q : Option Value → Shared → Prop} (hTU : T ≠ U) (ha : s.TypeIs a T) (hb : s.TypeIs b U)
    (hfT : fillsNumberSlot (.type T) nm = pure true) (hfU : fillsNumberSlot (.type U) nm = pure true) (hsub : isSubtype (.type U) (.type T) = pure true)
    (hsame : reflectedDiffers (.type T) (.type U) nm = pure true) (hl : Slot U (dunderR nm) idl)
    (hc : wpAny M A (call (.builtin idl) [b, a]) (fun v s₁ => v ≠ .notImplemented ∧ Q (some v) s₁) E s) : wpAny M A (binaryOp1 nm a b) Q E s := by
  unfold binaryOp1
  refine wpAny_bind (wpAny_typeOf ha (wpAny_bind (wpAny_typeOf hb (wpAny_bind (wpAny_of_eq hfT ?_)))))
  have hne : ¬ (Value.type T == Value.type U) = true := by simpa using hTU
  refine wif_no hne ?_
  refine wpAny_bind (wpAny_of_eq hfU ?_)
  refine wif_yes rfl ?_
  refine wpAny_bind (wpAny_of_eq hsub ?_)
  refine wif_yes rfl ?_
  refine wpAny_bind (wpAny_of_eq hsame ?_)
  refine wif_yes rfl ?_
  refine wpAny_bind (wpAny_rule ?_)
  unfold tryMethod
  refine wpAny_bind (wpAny_bind (wpAny_callSpecial?_slot hb hl (wpAny_mono hc (fun v s₁ h₁ => ?_) fun _ _ x => x)))
  obtain ⟨hv, hq⟩ := h₁
  cases v <;> first | exact absurd rfl hv | exact wpAny_pure (wpAny_pure hq)
theorem binaryOp_refl {M : Model} {a b : Value} {A : Around} {E : Value → Shared → Prop} {s : Shared} {T U nm idl : String} {op : Operator} {Q : Value → Shared → Prop} (hi : op.info.2 = nm) (hTU : T ≠ U) (ha : s.TypeIs a T) (hb : s.TypeIs b U)
    (hfT : fillsNumberSlot (.type T) nm = pure true) (hfU : fillsNumberSlot (.type U) nm = pure true) (hsub : isSubtype (.type U) (.type T) = pure true)
    (hsame : reflectedDiffers (.type T) (.type U) nm = pure true) (hl : Slot U (dunderR nm) idl)
    (hc : wpAny M A (call (.builtin idl) [b, a]) (fun v s₁ => v ≠ .notImplemented ∧ Q v s₁) E s) : wpAny M A (binaryOp op a b) Q E s := by
  subst hi
  unfold binaryOp
  refine wpAny_holding ?_
  exact wpAny_bind (bin1_refl (nm := op.info.2) hTU ha hb hfT hfU hsub hsame hl (wpAny_mono hc (fun v s₁ h₁ => ⟨h₁.1, wpAny_pure h₁.2⟩) fun _ _ x => x))
section
variable {prog : Program} {w : World} {A : Around} {E : Value → Shared → Prop} {s : Shared} {u v : Value} {b c : Bool} {Q : Value → Shared → Prop}
theorem g_bool_and_bi (a : Bool) (b : Int) (u : Tok) : Gives (Builtin.«bool.__and__» ⟨[.bool a, .int b u], []⟩) (.int (Builtin.bitAnd (if a = true then 1 else 0) b)) := by
  intro prog w A R s h
  obtain ⟨hp, g, d, tk, os⟩ := s
  wp_walk
  refine ⟨plainId_quiet (by decide +kernel) _, codeAny_builtin F.entry_int_and ?_⟩
  wp_walk
  exact h
theorem g_bool_rand_bi (a : Bool) (b : Int) (u : Tok) : Gives (Builtin.«bool.__rand__» ⟨[.bool a, .int b u], []⟩) (.int (Builtin.bitAnd b (if a = true then 1 else 0))) := by
  intro prog w A R s h
  obtain ⟨hp, g, d, tk, os⟩ := s
  wp_walk
  refine ⟨plainId_quiet (by decide +kernel) _, codeAny_builtin F.entry_int_and ?_⟩
  wp_walk
  exact h
theorem bv_and (hv : BV v b) (hu : BV u c) (h : ∀ r tk, BV r (b && c) → Q r { s with toks := tk }) : wpAny (model prog w) A (binaryOp .BitAnd v u) Q E s := by
  cases hv <;> cases hu
  · refine and_int (h _ _ (.of_int ?_))
    cases b <;> cases c <;> decide +kernel
  · refine binaryOp_refl (nm := "and") rfl (T := "int") (U := "bool") (by decide) (typeIs_int s _ _) rfl F.fills_int_and F.fills_bool_and isSubtype_bool_int (by kernel_rfl) F.slot_bool_rand ?_
    refine call_gives F.slot_bool_rand rfl F.entry_bool_rand (F.args_bool_rand_2 _ _) (g_bool_rand_bi _ _ _) ?_
    exact Made.post_and trivial (h _ _ (.of_int (by cases b <;> cases c <;> decide +kernel)))
  · refine binaryOp_left_gives (op := .BitAnd) (T := "bool") (U := "int") (by decide) rfl (fun s' => typeIs_int s' _ _) F.fills_bool_and F.fills_int_and F.sub_int_bool F.slot_bool_and F.slot_int_rand F.entry_bool_and (F.args_bool_and_2 _ _)
      (g_bool_and_bi _ _ _) trivial (h _ _ (.of_int (by cases b <;> cases c <;> decide +kernel)))
  · exact and_bool (h _ _ .bool)
theorem g_bool_or_bi (a : Bool) (b : Int) (u : Tok) : Gives (Builtin.«bool.__or__» ⟨[.bool a, .int b u], []⟩) (.int (Builtin.bitOr (if a = true then 1 else 0) b)) := by
  intro prog w A R s h
  obtain ⟨hp, g, d, tk, os⟩ := s
  wp_walk
  refine ⟨plainId_quiet (by decide +kernel) _, codeAny_builtin F.entry_int_or ?_⟩
  wp_walk
  exact h
theorem g_bool_ror_bi (a : Bool) (b : Int) (u : Tok) : Gives (Builtin.«bool.__ror__» ⟨[.bool a, .int b u], []⟩) (.int (Builtin.bitOr b (if a = true then 1 else 0))) := by
  intro prog w A R s h
  obtain ⟨hp, g, d, tk, os⟩ := s
  wp_walk
  refine ⟨plainId_quiet (by decide +kernel) _, codeAny_builtin F.entry_int_or ?_⟩
  wp_walk
  exact h
theorem bv_or (hv : BV v b) (hu : BV u c) (h : ∀ r tk, BV r (b || c) → Q r { s with toks := tk }) : wpAny (model prog w) A (binaryOp .BitOr v u) Q E s := by
  cases hv <;> cases hu
  · refine or_int (h _ _ (.of_int ?_))
    cases b <;> cases c <;> decide +kernel
  · refine binaryOp_refl (nm := "or") rfl (T := "int") (U := "bool") (by decide) (typeIs_int s _ _) rfl F.fills_int_or F.fills_bool_or isSubtype_bool_int (by kernel_rfl) F.slot_bool_ror ?_
    refine call_gives F.slot_bool_ror rfl F.entry_bool_ror (F.args_bool_ror_2 _ _) (g_bool_ror_bi _ _ _) ?_
    exact Made.post_and trivial (h _ _ (.of_int (by cases b <;> cases c <;> decide +kernel)))
  · refine binaryOp_left_gives (op := .BitOr) (T := "bool") (U := "int") (by decide) rfl (fun s' => typeIs_int s' _ _) F.fills_bool_or F.fills_int_or F.sub_int_bool F.slot_bool_or F.slot_int_ror F.entry_bool_or (F.args_bool_or_2 _ _)
      (g_bool_or_bi _ _ _) trivial (h _ _ (.of_int (by cases b <;> cases c <;> decide +kernel)))
  · exact or_bool (h _ _ .bool)
theorem g_lt_bi (a : Bool) (b : Int) (u : Tok) : Gives (Builtin.«int.__lt__» ⟨[.bool a, .int b u], []⟩) (.val (Value.bool (decide ((if a = true then (1 : Int) else 0) < b)))) :=
  .of_wp fun M A E s Q h => by obtain ⟨hp, g, d, tk, os⟩ := s; wp_walk; exact ⟨_, rfl, h⟩

theorem g_le_bi (a : Bool) (b : Int) (u : Tok) : Gives (Builtin.«int.__le__» ⟨[.bool a, .int b u], []⟩) (.val (Value.bool (decide ((if a = true then (1 : Int) else 0) ≤ b)))) :=
  .of_wp fun M A E s Q h => by obtain ⟨hp, g, d, tk, os⟩ := s; wp_walk; exact ⟨_, rfl, h⟩

theorem g_gt_bi (a : Bool) (b : Int) (u : Tok) : Gives (Builtin.«int.__gt__» ⟨[.bool a, .int b u], []⟩) (.val (Value.bool (decide ((if a = true then (1 : Int) else 0) > b)))) :=
  .of_wp fun M A E s Q h => by obtain ⟨hp, g, d, tk, os⟩ := s; wp_walk; exact ⟨_, rfl, h⟩

theorem g_ge_bi (a : Bool) (b : Int) (u : Tok) : Gives (Builtin.«int.__ge__» ⟨[.bool a, .int b u], []⟩) (.val (Value.bool (decide ((if a = true then (1 : Int) else 0) ≥ b)))) :=
  .of_wp fun M A E s Q h => by obtain ⟨hp, g, d, tk, os⟩ := s; wp_walk; exact ⟨_, rfl, h⟩

theorem bv_lt (hv : BV v b) (hu : BV u c) (h : ∀ r tk, BV r (!b && c) → Q r { s with toks := tk }) : wpAny (model prog w) A (compareOp .Lt v u) Q E s := by
  have h' : ∀ x, x = (!b && c) → Q (.bool x) s := fun x e => by subst e; exact h _ s.toks .bool
  cases hv <;> cases hu
  · exact lt_int (h' _ (by cases b <;> cases c <;> rfl))
  · show wpAny (model prog w) A (richCompare .Lt _ _) Q E s
    exact SeqAt.rc_sub_first_or (typeIs_int s _ _) rfl (by decide) F.sub_bool_int F.slot_bool_gt_refl
      (call_gives F.slot_bool_gt rfl F.entry_int_gt (F.args_int_gt_2 _ _) (g_gt_bi _ _ _) ⟨nofun, h' _ (by cases b <;> cases c <;> rfl)⟩) (.inl rfl)
  · show wpAny (model prog w) A (richCompare .Lt _ _) Q E s
    exact SeqAt.rc_left_or rfl (typeIs_int s _ _) (by decide) F.sub_int_bool F.slot_bool_lt
      (call_gives F.slot_bool_lt rfl F.entry_int_lt (F.args_int_lt_2 _ _) (g_lt_bi _ _ _) ⟨nofun, h' _ (by cases b <;> cases c <;> rfl)⟩) (.inl rfl)
  · exact lt_bool (h' _ (by cases b <;> cases c <;> rfl))

theorem bv_le (hv : BV v b) (hu : BV u c) (h : ∀ r tk, BV r (!b || c) → Q r { s with toks := tk }) : wpAny (model prog w) A (compareOp .LtE v u) Q E s := by
  have h' : ∀ x, x = (!b || c) → Q (.bool x) s := fun x e => by subst e; exact h _ s.toks .bool
  cases hv <;> cases hu
  · exact le_int (h' _ (by cases b <;> cases c <;> rfl))
  · show wpAny (model prog w) A (richCompare .LtE _ _) Q E s
    exact SeqAt.rc_sub_first_or (typeIs_int s _ _) rfl (by decide) F.sub_bool_int F.slot_bool_ge_refl
      (call_gives F.slot_bool_ge rfl F.entry_int_ge (F.args_int_ge_2 _ _) (g_ge_bi _ _ _) ⟨nofun, h' _ (by cases b <;> cases c <;> rfl)⟩) (.inl rfl)
  · show wpAny (model prog w) A (richCompare .LtE _ _) Q E s
    exact SeqAt.rc_left_or rfl (typeIs_int s _ _) (by decide) F.sub_int_bool F.slot_bool_le
      (call_gives F.slot_bool_le rfl F.entry_int_le (F.args_int_le_2 _ _) (g_le_bi _ _ _) ⟨nofun, h' _ (by cases b <;> cases c <;> rfl)⟩) (.inl rfl)
  · exact le_bool (h' _ (by cases b <;> cases c <;> rfl))

theorem bv_gt (hv : BV v b) (hu : BV u c) (h : ∀ r tk, BV r (b && !c) → Q r { s with toks := tk }) : wpAny (model prog w) A (compareOp .Gt v u) Q E s := by
  have h' : ∀ x, x = (b && !c) → Q (.bool x) s := fun x e => by subst e; exact h _ s.toks .bool
  cases hv <;> cases hu
  · exact gt_int (h' _ (by cases b <;> cases c <;> rfl))
  · show wpAny (model prog w) A (richCompare .Gt _ _) Q E s
    exact SeqAt.rc_sub_first_or (typeIs_int s _ _) rfl (by decide) F.sub_bool_int F.slot_bool_lt_refl
      (call_gives F.slot_bool_lt rfl F.entry_int_lt (F.args_int_lt_2 _ _) (g_lt_bi _ _ _) ⟨nofun, h' _ (by cases b <;> cases c <;> rfl)⟩) (.inl rfl)
  · show wpAny (model prog w) A (richCompare .Gt _ _) Q E s
    exact SeqAt.rc_left_or rfl (typeIs_int s _ _) (by decide) F.sub_int_bool F.slot_bool_gt
      (call_gives F.slot_bool_gt rfl F.entry_int_gt (F.args_int_gt_2 _ _) (g_gt_bi _ _ _) ⟨nofun, h' _ (by cases b <;> cases c <;> rfl)⟩) (.inl rfl)
  · exact gt_bool (h' _ (by cases b <;> cases c <;> rfl))

theorem bv_ge (hv : BV v b) (hu : BV u c) (h : ∀ r tk, BV r (b || !c) → Q r { s with toks := tk }) : wpAny (model prog w) A (compareOp .GtE v u) Q E s := by
  have h' : ∀ x, x = (b || !c) → Q (.bool x) s := fun x e => by subst e; exact h _ s.toks .bool
  cases hv <;> cases hu
  · exact ge_int (h' _ (by cases b <;> cases c <;> rfl))
  · show wpAny (model prog w) A (richCompare .GtE _ _) Q E s
    exact SeqAt.rc_sub_first_or (typeIs_int s _ _) rfl (by decide) F.sub_bool_int F.slot_bool_le_refl
      (call_gives F.slot_bool_le rfl F.entry_int_le (F.args_int_le_2 _ _) (g_le_bi _ _ _) ⟨nofun, h' _ (by cases b <;> cases c <;> rfl)⟩) (.inl rfl)
  · show wpAny (model prog w) A (richCompare .GtE _ _) Q E s
    exact SeqAt.rc_left_or rfl (typeIs_int s _ _) (by decide) F.sub_int_bool F.slot_bool_ge
      (call_gives F.slot_bool_ge rfl F.entry_int_ge (F.args_int_ge_2 _ _) (g_ge_bi _ _ _) ⟨nofun, h' _ (by cases b <;> cases c <;> rfl)⟩) (.inl rfl)
  · exact ge_bool (h' _ (by cases b <;> cases c <;> rfl))
end
end Mine
end
section
open PySem PySem.W PySem.Spec PySem.Calls PyProof.Rows
set_option maxRecDepth 100000
set_option maxHeartbeats 4000000
namespace Mine
theorem laW05 : True := by
  k_with_none
  k_with "execs cons" => (k_here; first | k_gentoks | (with_reducible refine exq ?_; intro Q9 hQ9))
  k_with "k_unfold" => (with_reducible refine hQ9 _ _ ?_; clear hQ9)
  trivial
section
noncomputable def opB (o : Nat) (a b : Bool) : Bool := match o with | 0 => a && b | 1 => a || b | 2 => !a && b | 3 => !a || b | 4 => a && !b | _ => a || !b
noncomputable def letB (k row : Nat) : Bool := match k with | 0 => row / 4 % 2 == 1 | 1 => row / 2 % 2 == 1 | _ => row % 2 == 1
noncomputable def soB : Cl → Nat → Bool
  | .leaf k, row => letB k row
  | .node o l r, row => opB o (soB l row) (soB r row)
noncomputable def BVOut (b : Bool) : List (Addr × Obj) → Value → Prop := fun tl r => tl = [] ∧ BV r b
theorem va_hit {x k : Str} {t : Tok} {v : Value} {r : List (Value × Value)} (h : x = k) : valueAt (strPairs ((.str x t, v) :: r)) k = some v := by
  subst h; simp [valueAt, strPairs]
theorem va_miss {x k : Str} {t : Tok} {v v' : Value} {r : List (Value × Value)} (h : (x == k) = false) (h' : valueAt (strPairs r) k = some v') : valueAt (strPairs ((.str x t, v) :: r)) k = some v' := by
  have : x ≠ k := by simpa using h
  rw [← h']; simp [valueAt, strPairs, this]
theorem ln12 : True := by
  k_with "ite" => (k_here; with_reducible first | refine ite_tt ?_ | refine ite_ff ?_)
  trivial
theorem ln13 : True := by
  k_with "ktr_unf" => first | exact va_hit (by decide +kernel) | (refine va_miss (by decide +kernel) ?_; ktr_unf)
  trivial
theorem ln14 : True := by
  k_with "getItem ref str" => (k_here; k_dflt (refine' kdt_getItem (knd := PySem.strKind _ _) ?z13k1 ?z13k2 ?z13k3 (strKind_is _ _ _ _) ?z13k4 ?_; (case z13k1 => k_asm); (case z13k2 => k_mem); (case z13k3 => k_asm); (case z13k4 => ktr_unf); k_whole))
  trivial

theorem News.drop1 {h₀ h : Heap} {L : Addr} {x : Addr × Obj} {news : List (Addr × Obj)} (N : News h₀ L h (x :: news)) : News h₀ L h news := fun p hp => N p (.tail _ hp)
theorem lv0 : ∀ row : Nat, row < 8 → ((row : Int).fdiv 4).fmod 2 = if soB (.leaf 0) row then 1 else 0 := by decide +kernel
theorem lv1 : ∀ row : Nat, row < 8 → ((row : Int).fdiv 2).fmod 2 = if soB (.leaf 1) row then 1 else 0 := by decide +kernel
theorem lv2' : ∀ row : Nat, row < 8 → (row : Int).fmod 2 = if letB 2 row then 1 else 0 := by decide +kernel
theorem lv2 {k : Nat} (row : Nat) (h : row < 8) : (row : Int).fmod 2 = if soB (.leaf (k + 1 + 1)) row then 1 else 0 := lv2' row h
theorem so_leaf (w : World) (k row : Nat) (t u : Tok) (hr : row < 8) (news) : Con w 205 [.str ⟨#[letC k]⟩ t, .int row u] news 1 8 (BVOut (soB (.leaf k) row)) := by
  unfold Con
  intro mean mg mb dp un gd cn cs a ccd cl outer A₀ base h₀ L m s Q E B F X N T hk hd hu hret
  w_on
  rcases k with _ | _ | k
  all_goals (w_strict (
  (try simp only [letC])
  refine wpAny_call ?_
  k_dflt ktr_enter
  k_steps
  all_goals exact hret _ [] _ _ (by k_asm) (by first | k_asm | exact News.drop1 (by assumption)) (fun _ _ _ h => nomatch h) ⟨rfl, .of_int (by first | exact lv0 _ hr | exact lv1 _ hr | exact lv2 _ hr)⟩))

theorem ln15 : True := by
  k_with "binaryOp BitAnd" => (k_here; k_dflt (refine' bv_and ?z14k1 ?z14k2 ?_; (case z14k1 => assumption); (case z14k2 => assumption); k_whole; intro _ _ _))
  trivial
theorem ln16 : True := by
  k_with "binaryOp BitOr" => (k_here; k_dflt (refine' bv_or ?z15k1 ?z15k2 ?_; (case z15k1 => assumption); (case z15k2 => assumption); k_whole; intro _ _ _))
  trivial
theorem ln17 : True := by
  k_with "compareOp LtE" => (k_here; k_dflt (refine' bv_le ?z16k1 ?z16k2 ?_; (case z16k1 => assumption); (case z16k2 => assumption); k_whole; intro _ _ _))
  trivial
theorem ln18 : True := by
  k_with "compareOp Lt" => (k_here; k_dflt (refine' bv_lt ?z17k1 ?z17k2 ?_; (case z17k1 => assumption); (case z17k2 => assumption); k_whole; intro _ _ _))
  trivial
theorem ln19 : True := by
  k_with "compareOp GtE" => (k_here; k_dflt (refine' bv_ge ?z18k1 ?z18k2 ?_; (case z18k1 => assumption); (case z18k2 => assumption); k_whole; intro _ _ _))
  trivial
theorem ln20 : True := by
  k_with "compareOp Gt" => (k_here; k_dflt (refine' bv_gt ?z19k1 ?z19k2 ?_; (case z19k1 => assumption); (case z19k2 => assumption); k_whole; intro _ _ _))
  trivial
theorem ln21 : True := by
  k_with "call ref" => (k_here; k_dflt (
  refine' Con.use1 ?z20kC ?z20k1 ?z20k2 ?z20k3 ?z20k4 ?z20k5 ?z20k6 ?z20k7 ?z20k8 ?_; (case z20kC => first | assumption | apply_assumption);
  (case z20k1 => k_asm); (case z20k2 => k_asm); (case z20k3 => k_asm); (case z20k4 => k_asm); (case z20k5 => k_asm); (case z20k6 => first | exact rfl | assumption); (case z20k7 => ktr_room); (case z20k8 => ktr_units); k_whole; intro r9 h9 tk9 b9 F9 N9; (try dsimp only); (try k_fold)))
  trivial
theorem tup_item {prog : Program} {w : World} {A : Around} {E : Value → Shared → Prop} {s : Shared} {h₀ : Heap} {L a : Addr} {news : List (Addr × Obj)} {value slice : PySem.Expr} {vs : List Value} {k : Int} {u : Tok} {j : Nat} {v : Value} {Q : Value → Shared → Prop}
    (N : News h₀ L s.heap news) (hm : (a, tupO vs) ∈ news) (hj : seqIndex? k vs.length = some j) (hx : vs[j]? = some v) (hlo : -(2 ^ 63) ≤ k) (hhi : k < 2 ^ 63) (h : Q v s)
    (hs : subscripted slice false (.ref a) (.int k u) = operate [.ref a, .int k u] (getItem (.ref a) (.int k u)) := by with_unfolding_all rfl) :
    wpAny (model prog w) A (subscriptTail value slice (.ref a) (.int k u)) Q E s := item_tupleT ⟨_, (N _ hm).1, rfl, 0, rfl⟩ hlo hhi (by simpa using hj) (by simpa using hx) h hs
theorem ln22 : True := by
  k_with "tb_start" => first | with_reducible assumption | with_reducible exact List.mem_cons_self | (refine List.mem_cons_of_mem _ ?_; tb_start)
  trivial
theorem ln23 : True := by
  k_with "subscriptTail" => (k_here; (with_reducible show wpAny _ _ (subscriptTail _ _ (Value.ref _) (Value.int _ _)) _ _ _); k_dflt (refine' tup_item ?z22k1 ?z22k2 ?z22k3 ?z22k4 ?z22k5 ?z22k6 ?_ ?z22k7; (case z22k1 => k_asm); (case z22k2 => tb_start); (case z22k3 => exact rfl); (case z22k4 => exact rfl); (case z22k5 => decide); (case z22k6 => decide); (case z22k7 => with_unfolding_all rfl); k_whole))
  trivial
theorem so_node (w : World) (o : Nat) (l r : Cl) (a : Addr) (row : Nat) (t u : Tok) (vl vr : Value) (news) (hm : (a, tupO [.str ⟨(opL o).toArray⟩ t, vl, vr]) ∈ news)
    (hl : Con w 205 [vl, .int row u] news l.size (8 * l.size) (BVOut (soB l row))) (hr : Con w 205 [vr, .int row u] news r.size (8 * r.size) (BVOut (soB r row))) :
    Con w 205 [.ref a, .int row u] news (Cl.node o l r).size (8 * (Cl.node o l r).size) (BVOut (soB (.node o l r) row)) := by
  unfold Con
  simp only [Cl.size]
  intro mean mg mb dp un gd cn cs a ccd cl outer A₀ base h₀ L m s Q E B F X N T hk hd hu hret
  w_on
  w_strict (
  refine wpAny_call ?_
  k_dflt ktr_enter
  repeat' ((fail_if_success (with_reducible show wpAny _ _ (getItem (Value.ref _) (Value.str _ _)) _ _ _)); first | (k_unfold; (try dsimp only)) | (k_end; kc_close) | walk1 | (dsimp only; walk1) | (leave1; walk_say "STEP leave1"; (try dsimp only)) | fail "no step")
  (rcases o with _ | _ | _ | _ | _ | o) <;> (k_steps; exact hret _ [] _ _ (by k_asm) (News.drop1 (News.drop1 (by assumption))) (fun _ _ _ h => nomatch h) ⟨rfl, by assumption⟩))

theorem so_ (w : World) {news : List (Addr × Obj)} {v : Value} {c : Cl} (row : Nat) (u : Tok) (hr : row < 8) (h : CI news v c) : Con w 205 [v, .int row u] news c.size (8 * c.size) (BVOut (soB c row)) := by
  induction h with
  | leaf => exact so_leaf w _ row _ u hr news
  | node hm _ _ ih1 ih2 => exact so_node w _ _ _ _ row _ u _ _ news hm ih1 ih2
end
end Mine
end
section
open PySem PySem.W PySem.Spec PySem.Calls PyProof.Rows
set_option maxRecDepth 100000
set_option maxHeartbeats 4000000
namespace Mine
theorem lzW06a : True := by
  k_with_none
  trivial
/-- the text's table of exact tokens: the signs, the number, the marks of the two values -/
noncomputable def tabT : List (List Nat × Int × Nat × Nat) := [([33], 54, 436, 434), ([33,61], 28, 438, 382), ([37], 24, 440, 374), ([37,61], 40, 442, 406), ([38], 19, 444, 364), ([38,61], 41, 446, 408), ([40], 7, 448, 340), ([41], 8, 450, 342), ([42], 16, 452, 358), ([42,42], 35, 454, 396), ([42,42,61], 46, 456, 418), ([42,61], 38, 458, 402), ([43], 14, 460, 354), ([43,61], 36, 462, 398), ([44], 12, 464, 350), ([45], 15, 466, 356), ([45,61], 37, 468, 400), ([45,62], 51, 470, 428), ([46], 23, 472, 372), ([46,46,46], 52, 474, 430), ([47], 17, 476, 360), ([47,47], 47, 478, 420), ([47,47,61], 48, 480, 422), ([47,61], 39, 482, 404), ([58], 11, 484, 348), ([58,61], 53, 486, 432), ([59], 13, 488, 352), ([60], 20, 490, 366), ([60,60], 33, 492, 392), ([60,60,61], 44, 494, 414), ([60,61], 29, 496, 384), ([61], 22, 498, 370), ([61,61], 27, 500, 380), ([62], 21, 502, 368), ([62,61], 30, 504, 386), ([62,62], 34, 505, 394), ([62,62,61], 45, 506, 416), ([64], 49, 507, 424), ([64,61], 50, 508, 426), ([91], 9, 509, 344), ([93], 10, 510, 346), ([94], 32, 511, 390), ([94,61], 43, 512, 412), ([123], 25, 513, 376), ([124], 18, 514, 362), ([124,61], 42, 515, 410), ([125], 26, 516, 378), ([126], 31, 517, 388)]
noncomputable def kindOf (x : List Nat) : Option Int := (tabT.find? fun p => decide (p.1 = x)).map (·.2.1)
noncomputable def es130 (P : Params) : Array DictEntry := (tabT.map fun p => (⟨PyData.keyHash P ⟨p.1.toArray⟩, .str ⟨p.1.toArray⟩ p.2.2.1, .int p.2.1 p.2.2.2⟩ : DictEntry)).toArray
theorem es130_is (P : Params) : (hd.heap_39 P).lookup 130 = some ⟨.type "dict", none, .dict (es130 P) 48, #[]⟩ := by kernel_rfl
theorem es130_keys (P : Params) : KeysLit P (es130 P).toList := by
  have : ∀ l : List (List Nat × Int × Nat × Nat), KeysLit P (l.map fun p => (⟨PyData.keyHash P ⟨p.1.toArray⟩, .str ⟨p.1.toArray⟩ p.2.2.1, .int p.2.1 p.2.2.2⟩ : DictEntry)) := by
    intro l
    induction l with
    | nil => trivial
    | cons p r ih => exact ⟨⟨_, _, rfl, rfl⟩, ih⟩
  exact this tabT
theorem es130_find (P : Params) (x : List Nat) : (kindOf x = none → findBy Value.isStrOf (es130 P) ⟨x.toArray⟩ = none) ∧ (∀ k, kindOf x = some k → ∃ t, findBy Value.isStrOf (es130 P) ⟨x.toArray⟩ = some (.int k t)) := by
  unfold kindOf es130 findBy
  rw [List.find?_toArray]
  have : ∀ l : List (List Nat × Int × Nat × Nat), ((l.find? fun p => decide (p.1 = x)).map (·.2.1) = none → ((l.map fun p => (⟨PyData.keyHash P ⟨p.1.toArray⟩, .str ⟨p.1.toArray⟩ p.2.2.1, .int p.2.1 p.2.2.2⟩ : DictEntry)).find? fun e => Value.isStrOf ⟨x.toArray⟩ e.key).map (·.val) = none) ∧
      (∀ k, (l.find? fun p => decide (p.1 = x)).map (·.2.1) = some k → ∃ t, ((l.map fun p => (⟨PyData.keyHash P ⟨p.1.toArray⟩, .str ⟨p.1.toArray⟩ p.2.2.1, .int p.2.1 p.2.2.2⟩ : DictEntry)).find? fun e => Value.isStrOf ⟨x.toArray⟩ e.key).map (·.val) = some (.int k t)) := by
    intro l
    induction l with
    | nil => exact ⟨fun _ => rfl, fun k h => nomatch h⟩
    | cons p r ih =>
      by_cases hp : p.1 = x
      · have e : Value.isStrOf ⟨x.toArray⟩ (.str ⟨p.1.toArray⟩ p.2.2.1) = true := by simp [Value.isStrOf, hp]
        refine ⟨fun h => ?_, fun k h => ?_⟩
        · simp [List.find?_cons, hp] at h
        · simp only [List.find?_cons, hp, decide_true, List.map_cons] at h ⊢
          simp only [Option.map_some, Option.some.injEq] at h
          subst h
          subst hp
          rw [e]
          exact ⟨_, rfl⟩
      · have e : Value.isStrOf ⟨x.toArray⟩ (.str ⟨p.1.toArray⟩ p.2.2.1) = false := by
          cases h : Value.isStrOf ⟨x.toArray⟩ (.str ⟨p.1.toArray⟩ p.2.2.1) with
          | false => rfl
          | true => exact absurd (by simpa [Value.isStrOf] using h) hp
        simp only [List.find?_cons, hp, decide_false, List.map_cons, e]
        exact ih
  exact this tabT
section
variable {prog : Program} {w : World} {A : Around} {E : Value → Shared → Prop} {s : Shared} {h₀ : Heap} {L : Addr} {m : Str → Option Value}
theorem map130 (F : Fr h₀ L s.heap m) (X : (hd.heap_39 w.params).In h₀) : s.heap.MapOf (PySem.strKind prog w) 130 (fun k => findBy Value.isStrOf (es130 w.params) k) :=
  mapOf_K (prog := prog) (X.keeps F.keep) (es130_is w.params) (es130_keys w.params)
theorem in130 {x : List Nat} {t : Tok} {b : Bool} {Q : Value → Shared → Prop} (F : Fr h₀ L s.heap m) (X : (hd.heap_39 w.params).In h₀) (hb : (kindOf x).isSome = b) (h : Q (.bool b) { s with toks := s.toks + 1 }) :
    wpAny (model prog w) A (compareOp .In (.str ⟨x.toArray⟩ t) (.ref 130)) Q E s := by
  refine wpAny_in_of (strKind_is prog w _ t) (by decide) (map130 F X) ?_
  have e := es130_find w.params x
  cases hk : kindOf x with
  | none => rw [e.1 hk]; rw [hk] at hb; subst hb; exact h
  | some k => obtain ⟨t', e'⟩ := e.2 k hk; rw [e']; rw [hk] at hb; subst hb; exact h
theorem meth130 {pl : Sem Bool} {Q : Value × List Value → Shared → Prop} (F : Fr h₀ L s.heap m) (X : (hd.heap_39 w.params).In h₀) (h : Q (.builtin "dict.get", [.ref 130]) s) : wpAny (model prog w) A (getMethod (.ref 130) "get" pl) Q E s :=
  have hD := map130 (prog := prog) F X
  getMethod_builtin hD.typeIs PySem.F.plainAttrs_dict PySem.F.slot_dict_get PySem.F.type_dict_get hD.noDict h
noncomputable def kindV (x : Option Int) (t : Tok) : Value := match x with | none => .none | some k => .int k t
theorem get130 {x : List Nat} {t : Tok} {r : Option Int} {Q : Value → Shared → Prop} (F : Fr h₀ L s.heap m) (X : (hd.heap_39 w.params).In h₀) (hr : kindOf x = r) (h : ∀ t', Q (kindV r t') { s with toks := s.toks + 1 }) :
    wpAny (model prog w) A (call (.builtin "dict.get") [.ref 130, .str ⟨x.toArray⟩ t]) Q E s := by
  have hD := map130 (prog := prog) F X
  refine call_meetsIn PySem.F.slot_dict_get hD.typeIs PySem.F.entry_dict_get (PySem.F.args_dict_get_2 _ _) (meets_dict_get (PySem.strKind prog w) 130 (strKind_is prog w _ t) (by decide)) ⟨_, hD, ?_⟩
  have e := es130_find w.params x
  cases hk : kindOf x with
  | none => rw [e.1 hk]; rw [hk] at hr; subst hr; exact h 0
  | some k => obtain ⟨t', e'⟩ := e.2 k hk; rw [e']; rw [hk] at hr; subst hr; exact h t'
end
/-- a piece of a text -/
theorem slice_dt (l : List Nat) (i j : Nat) (hi : i ≤ l.length) (hij : i ≤ j) : Txt.slice ⟨l.toArray⟩ (some (i : Int)) (some (j : Int)) = ⟨((l.drop i).take (j - i)).toArray⟩ := by
  have key : ∀ j : Nat, i ≤ j → j ≤ l.length → Txt.slice ⟨l.toArray⟩ (some (i : Int)) (some (j : Int)) = ⟨((l.drop i).take (j - i)).toArray⟩ := by
    intro j h1 h2
    have hs := StrLaws.sliced_plain (⟨l.toArray⟩ : Str) h1 (by simpa [Str.length] using h2)
    have hlen := congrArg List.length (StrLaws.strSliceIndices_plain h1 (show j ≤ (⟨l.toArray⟩ : Str).length by simpa [Str.length] using h2))
    unfold Txt.slice
    split
    · rename_i h
      simp only [beq_self_eq_true, Bool.true_and, beq_iff_eq] at h
      rw [h] at hlen
      simp only [List.length_map, List.length_range, Str.length, List.size_toArray] at hlen
      have : i = 0 ∧ j = l.length := by omega
      obtain ⟨rfl, rfl⟩ := this
      simp
    · rw [hs]
  by_cases hj : j ≤ l.length
  · exact key j hij hj
  · have e : Builtin.Str.strSliceIndices (some (i : Int)) (some (j : Int)) 1 l.length = Builtin.Str.strSliceIndices (some (i : Int)) (some ((l.length : Nat) : Int)) 1 l.length := by
      unfold Builtin.Str.strSliceIndices
      have h1 : ¬ ((j : Int) < 0) := by omega
      have h2 : ¬ ((l.length : Int) < 0) := by omega
      have e1 : min (j : Int) (l.length : Int) = min (l.length : Int) (l.length : Int) := by omega
      simp only [h1, h2, if_false, e1, show ((1 : Int) > 0) = True from by simp, if_true]
    have e2 : Txt.slice ⟨l.toArray⟩ (some (i : Int)) (some (j : Int)) = Txt.slice ⟨l.toArray⟩ (some (i : Int)) (some (l.length : Int)) := by
      unfold Txt.slice
      rw [show (⟨l.toArray⟩ : Str).length = l.length by simp [Str.length], e]
    rw [e2, key l.length hi (Nat.le_refl _)]
    have : (l.drop i).length ≤ j - i := by rw [List.length_drop]; omega
    rw [List.take_of_length_le this, List.take_of_length_le (by rw [List.length_drop]; omega)]
end Mine
end
section
open PySem PySem.W PySem.Spec PySem.Calls PyProof.Rows
set_option maxRecDepth 100000
set_option maxHeartbeats 8000000
namespace Mine
theorem laW06 : True := by
  k_with_none
  k_with "execs cons" => (k_here; first | k_gentoks | (with_reducible refine exq ?_; intro Q9 hQ9))
  k_with "k_unfold" => (with_reducible refine hQ9 _ _ ?_; clear hQ9)
  trivial
section
inductive Tk where
  | lp | rp | tl
  | lt (k : Nat)
  | op (o : Nat)
noncomputable def Tk.s : Tk → List Nat
  | .lp => [40]
  | .rp => [41]
  | .tl => [126]
  | .lt k => [letC k]
  | .op o => opL o
noncomputable def flatT (ts : List Tk) : List Nat := ts.flatMap Tk.s
noncomputable def letV (k : Nat) : Int := match k with | 0 => 240 | 1 => 204 | _ => 170
noncomputable def opK (o : Nat) : Int := match o with | 0 => 19 | 1 => 18 | 2 => 20 | 3 => 29 | 4 => 21 | _ => 30
noncomputable def combV (s l r : Int) : Int :=
  if s = 18 then Builtin.bitOr l r else if s = 19 then Builtin.bitAnd l r else if s = 20 then Builtin.bitAnd (255 - l) r else if s = 29 then Builtin.bitOr (255 - l) r
  else if s = 21 then Builtin.bitAnd l (255 - r) else if s = 30 then Builtin.bitOr l (255 - r) else 0
noncomputable def stepT : Tk → List Int → Option (List Int)
  | .lp, st => some st
  | .tl, st => some (31 :: st)
  | .lt k, st => some (letV k :: st)
  | .op o, st => some (opK o :: st)
  | .rp, r :: s :: l :: st => some (combV s l r :: st)
  | .rp, _ => none
noncomputable def runT : List Tk → List Int → Option (List Int)
  | [], st => some st
  | t :: r, st => (stepT t st).bind (runT r)
noncomputable def Tk.ok : Tk → Prop
  | .lt k => k < 3
  | .op o => o < 6
  | _ => True
noncomputable def kindT : Tk → Option Int
  | .lp => some 7
  | .rp => some 8
  | .tl => some 31
  | .lt _ => none
  | .op o => some (opK o)
/-- the signs are read as the token stands: the size taken, what the table says of it -/
noncomputable def okT : List Tk → Prop
  | [] => True
  | t :: r => (∃ sz : Nat, (sz = 1 ∨ sz = 2) ∧ (kindOf ((t.s ++ flatT r).take 2)).isSome = decide (sz = 2) ∧ kindOf ((t.s ++ flatT r).take sz) = kindT t ∧ (t.s.length = sz ∨ (sz = 2 ∧ r = [] ∧ t.s.length = 1))) ∧ t.ok ∧ okT r
noncomputable def JV (x : List Nat) (fin : List Int) (l : Addr) (news : List (Addr × Obj)) (n : Nat) (m₁ : Str → Option Value) (news₁ : List (Addr × Obj)) : Prop :=
  ∃ (d : List Nat) (ts : List Tk) (st : List Int) (vs : List Value) (ep : Nat) (tt tp : Tok) (pl : Int),
    m₁ (PySem.Str.ofString "text") = some (.str ⟨x.toArray⟩ tt) ∧ m₁ (PySem.Str.ofString "pile") = some (.ref l) ∧ m₁ (PySem.Str.ofString "place") = some (.int pl tp) ∧
    news₁ = (l, W.listOf vs.toArray ep) :: news ∧ IntsAre vs st.reverse ∧ n = ts.length ∧ x = d ++ flatT ts ∧ (ts = [] → (x.length : Int) ≤ pl) ∧ (ts ≠ [] → pl = d.length) ∧ runT ts st = some fin ∧ okT ts ∧ st.length ≤ d.length
theorem step_len : ∀ (t : Tk) (st st' : List Int), stepT t st = some st' → st'.length ≤ st.length + 1
  | .lp, st, st', h => by cases h; omega
  | .tl, st, st', h => by cases h; simp
  | .lt _, st, st', h => by cases h; simp
  | .op _, st, st', h => by cases h; simp
  | .rp, [], st', h => by cases h
  | .rp, [_], st', h => by cases h
  | .rp, [_, _], st', h => by cases h
  | .rp, r :: s :: l :: st, st', h => by cases h; simp only [List.length_cons]; omega
theorem tk_len (t : Tk) : 1 ≤ t.s.length ∧ t.s.length ≤ 2 := by
  cases t with
  | op o => simp only [Tk.s]; unfold opL; split <;> decide
  | lt k => exact ⟨Nat.le_refl _, Nat.le_succ _⟩
  | _ => exact ⟨Nat.le_refl _, Nat.le_succ _⟩
theorem wend {h₀ h' : Heap} {L l : Addr} {s : Shared} {m₂ : Str → Option Value} {news big : List (Addr × Obj)} {x d : List Nat} {fin st st' : List Int} {t₁ : Tk} {ts : List Tk} {vs' : List Value} {ep' n tk sz : Nat} {tt tp : Tok} {pl' : Int}
    (F : Fr h₀ L h' m₂) (N : News h₀ L h' big) (hb : ∀ p ∈ (l, W.listOf vs'.toArray ep') :: news, p ∈ big)
    (e1 : m₂ (PySem.Str.ofString "text") = some (.str ⟨x.toArray⟩ tt)) (e2 : m₂ (PySem.Str.ofString "pile") = some (.ref l)) (e3 : m₂ (PySem.Str.ofString "place") = some (.int pl' tp))
    (hI : IntsAre vs' st'.reverse) (hstep : stepT t₁ st = some st') (hx2 : x = d ++ (t₁.s ++ flatT ts)) (hr : runT (t₁ :: ts) st = some fin) (ho : okT ts) (hpl : pl' = (d.length : Int) + (sz : Int))
    (hs4 : t₁.s.length = sz ∨ (sz = 2 ∧ ts = [] ∧ t₁.s.length = 1)) (hn : n = (t₁ :: ts).length) (hst : st.length ≤ d.length) :
    WhileStep h₀ L s (JV x fin l news) n .next { s with heap := h', toks := tk } := by
  have hsl := step_len _ _ _ hstep
  have htl := tk_len t₁
  refine WhileStep.intro F (cb_drop N hb) (n' := ts.length) (by rw [hn]; simp) (exI8 (d ++ t₁.s) ts st' vs' ep' tt tp pl' ⟨e1, e2, e3, rfl, hI, rfl, by rw [hx2, List.append_assoc], fun hts => ?_, fun hts => ?_, ?_, ho, by rw [List.length_append]; omega⟩)
  · subst hts
    have : x.length = d.length + (t₁.s.length + 0) := by rw [hx2]; simp [flatT]
    rcases hs4 with h | ⟨h, _, h'⟩ <;> omega
  · rcases hs4 with h | ⟨_, h, _⟩
    · rw [List.length_append]; omega
    · exact absurd h hts
  · simp only [runT, hstep, Option.bind_some] at hr
    exact hr
theorem ints_snoc {k : Int} : ∀ {vs : List Value} {xs : List Int}, IntsAre vs (xs ++ [k]) → ∃ vs' t, vs = vs' ++ [.int k t] ∧ IntsAre vs' xs
  | _, [], h => by
    cases h with
    | cons _ t r => cases r; exact ⟨[], t, rfl, .nil⟩
  | _, x :: xs, h => by
    cases h with
    | cons _ t r => obtain ⟨vs', t', e, hI⟩ := ints_snoc r; exact ⟨.int x t :: vs', t', by rw [e]; rfl, .cons x t hI⟩
theorem ints_push {k : Int} {t : Tok} : ∀ {vs : List Value} {xs : List Int}, IntsAre vs xs → IntsAre (vs ++ [.int k t]) (xs ++ [k])
  | _, _, .nil => .cons k t .nil
  | _, _, .cons x u r => .cons x u (ints_push r)
section
variable {prog : Program} {w : World} {A : Around} {E : Value → Shared → Prop} {s : Shared} {h₀ : Heap} {L D : Addr} {m : Str → Option Value} {news news' : List (Addr × Obj)} {n : Nat}
theorem pile_push {vs : List Value} {y : Value} {Q : Value → Shared → Prop} (F : Fr h₀ L s.heap m) (N : News h₀ L s.heap news) (U : Upd D (W.listOf vs.toArray n) (W.listOf (vs ++ [y]).toArray (n + 1)) news news') (hz : vs.length ≤ 10000)
    (h : ∀ h', Fr h₀ L h' m → News h₀ L h' news' → Q .none { s with heap := h' }) : wpAny (model prog w) A (call (.builtin "list.append") [.ref D, y]) Q E s :=
  append_K (its := vs.toArray) F N (by rw [show vs.toArray.push y = (vs ++ [y]).toArray by simp]; exact U) h (by rw [List.size_toArray, sizeLine_eq]; omega)
theorem pile_pop {vs : List Value} {y : Value} {Q : Value → Shared → Prop} (F : Fr h₀ L s.heap m) (N : News h₀ L s.heap news) (U : Upd D (W.listOf (vs ++ [y]).toArray n) (W.listOf vs.toArray (n + 1)) news news') (hz : vs.length ≤ 10000)
    (h : ∀ h', Fr h₀ L h' m → News h₀ L h' news' → Q y { s with heap := h' }) : wpAny (model prog w) A (call (.builtin "list.pop") [.ref D]) Q E s :=
  kl_pop F N (kpa_last y vs) U (by simp only [List.size_toArray, List.length_append, List.length_cons, List.length_nil, sizeLine_eq]; omega) h
end
theorem ln25 : True := by
  k_with "tb_start" => first | with_reducible assumption | with_reducible exact List.mem_cons_self | (refine List.mem_cons_of_mem _ ?_; tb_start)
  trivial
theorem ln26 : True := by
  k_with "ktr_unf" => first | (refine va_hit ?_; decide +kernel) | (refine' va_miss ?z25ka ?z25kb; (case z25ka => decide +kernel); (case z25kb => ktr_unf))
  trivial
theorem vi_hit {x k : Int} {t : Tok} {v : Value} {r : List (Value × Value)} (h : x = k) : valueAt (intKeyPairs ((.int x t, v) :: r)) k = some v := by
  subst h; simp [valueAt, intKeyPairs]
theorem vi_miss {x k : Int} {t : Tok} {v : Value} {r : List (Value × Value)} {o : Option Value} (h : x ≠ k) (h' : valueAt (intKeyPairs r) k = o) : valueAt (intKeyPairs ((.int x t, v) :: r)) k = o := by
  rw [← h']; simp [valueAt, intKeyPairs, h]
theorem vi_nil {k : Int} : valueAt (intKeyPairs []) k = none := rfl
theorem ln27 : True := by
  k_with "ktr_rel" => first | (with_reducible exact vi_nil) | (refine vi_hit ?_; (first | rfl | assumption | (symm; assumption))) | (refine' vi_miss ?z26ka ?z26kb; (case z26ka => first | decide | assumption | exact Ne.symm (by assumption)); (case z26kb => ktr_rel))
  trivial
theorem ln28 : True := by
  k_with "k_all" => with_reducible assumption
  trivial
theorem ln29 : True := by
  k_with "call builtin:list.append" => (k_here; k_dflt (refine' pile_push ?z28k1 ?z28k2 ?z28k3 ?z28k4 ?_; (case z28k1 => k_asm); (case z28k2 => k_asm); (case z28k3 => k_upd); (case z28k4 => ((try simp only [List.length_append, List.length_cons, List.length_nil] at *); omega)); k_whole; intro h' F' N'; (try k_sweep)))
  trivial
theorem ln30 : True := by
  k_with "call builtin:list.pop" => (k_here; k_dflt (refine' pile_pop ?z29k1 ?z29k2 ?z29k3 ?z29k4 ?_; (case z29k1 => k_asm); (case z29k2 => k_asm); (case z29k3 => k_upd); (case z29k4 => ((try simp only [List.length_append, List.length_cons, List.length_nil] at *); omega)); k_whole; intro h' F' N'; (try k_sweep)))
  trivial
theorem ite_no {b : Bool} {P Q : Prop} (hb : b = false) (h : Q) : if b = true then P else Q := by subst hb; exact h
theorem ite_yes {b : Bool} {P Q : Prop} (hb : b = true) (h : P) : if b = true then P else Q := by subst hb; exact h
theorem ln31 : True := by
  k_with "ite" => (k_here; with_reducible first | refine ite_tt ?_ | refine ite_ff ?_ | refine ite_no (beq_eq_false_iff_ne.mpr (by assumption)) ?_ | refine ite_yes (bne_iff_ne.mpr (by assumption)) ?_)
  trivial
theorem get130n {prog : Program} {w : World} {A : Around} {E : Value → Shared → Prop} {s : Shared} {h₀ : Heap} {L : Addr} {m : Str → Option Value} {x : List Nat} {t : Tok} {Q : Value → Shared → Prop} (F : Fr h₀ L s.heap m) (X : (hd.heap_39 w.params).In h₀) (hr : kindOf x = none) (h : Q .none { s with toks := s.toks + 1 }) :
    wpAny (model prog w) A (call (.builtin "dict.get") [.ref 130, .str ⟨x.toArray⟩ t]) Q E s := get130 F X hr fun _ => h
theorem get130s {prog : Program} {w : World} {A : Around} {E : Value → Shared → Prop} {s : Shared} {h₀ : Heap} {L : Addr} {m : Str → Option Value} {x : List Nat} {t : Tok} {k : Int} {Q : Value → Shared → Prop} (F : Fr h₀ L s.heap m) (X : (hd.heap_39 w.params).In h₀) (hr : kindOf x = some k) (h : ∀ t', Q (.int k t') { s with toks := s.toks + 1 }) :
    wpAny (model prog w) A (call (.builtin "dict.get") [.ref 130, .str ⟨x.toArray⟩ t]) Q E s := get130 F X hr h
theorem item_tkW {prog : Program} {w : World} {A : Around} {E : Value → Shared → Prop} {s : Shared} {value slice : PySem.Expr} {x d r : List Nat} {c : Nat} {t u : Tok} {Q : Value → Shared → Prop} (hx : x = d ++ (c :: r)) (hl : x.length ≤ 1000)
    (h : ∀ t' tk, Q (.str ⟨#[c]⟩ t') { s with toks := tk })
    (hs : subscripted slice false (.str ⟨x.toArray⟩ t) (.int d.length u) = operate [.str ⟨x.toArray⟩ t, .int d.length u] (getItem (.str ⟨x.toArray⟩ t) (.int d.length u)))
    (ht : ∀ r, letTemporaryGo value (.str ⟨x.toArray⟩ t) r = pure ()) :
    wpAny (model prog w) A (subscriptTail value slice (.str ⟨x.toArray⟩ t) (.int d.length u)) Q E s := by
  have hlen : (⟨x.toArray⟩ : Str).length = x.length := by simp [Str.length]
  have h2 : d.length < x.length := by rw [hx]; simp
  have e : Txt.item ⟨x.toArray⟩ (d.length : Int) = ⟨#[c]⟩ := by
    have e1 : seqIndex? (d.length : Int) (⟨x.toArray⟩ : Str).length = some d.length := by
      rw [hlen]; unfold seqIndex?
      simp only [show ¬ ((d.length : Int) < 0) by omega, if_false]
      simp [h2]
    show (⟨#[(Txt.charAt ⟨x.toArray⟩ (d.length : Int)).getD 0]⟩ : Str) = _
    unfold Txt.charAt
    rw [e1]
    simp [hx]
  refine item_str (by unfold fitsSsize; simp; omega) (by omega) (by rw [hlen]; omega) (fun _ => ?_) hs ht
  rw [e]; exact h _ _
theorem slice_tkW {prog : Program} {w : World} {A : Around} {E : Value → Shared → Prop} {s : Shared} {value slice : PySem.Expr} {x d r : List Nat} {t : Tok} {h₀ : Heap} {L : Addr} {m : Str → Option Value} {news : List (Addr × Obj)} {Q : Value → Shared → Prop} {j : Int} {ui uj : Tok} (k : Nat)
    (F : Fr h₀ L s.heap m) (N : News h₀ L s.heap news) (hx : x = d ++ r) (hj : j = (d.length : Int) + (k : Int)) (hl : x.length ≤ 1000)
    (h : ∀ h' t' tk, Fr h₀ L h' m → News h₀ L h' news → Q (.str ⟨(r.take k).toArray⟩ t') { s with heap := h', toks := tk })
    (hs : subscripted slice false (.str ⟨x.toArray⟩ t) (.ref s.heap.objs.size) = operate [.ref s.heap.objs.size, .str ⟨x.toArray⟩ t] (getItem (.str ⟨x.toArray⟩ t) (.ref s.heap.objs.size)))
    (ht : ∀ v, letTemporaryGo value (.str ⟨x.toArray⟩ t) v = pure ()) :
    wpAny (model prog w) A (subscriptTail value slice (.str ⟨x.toArray⟩ t) (.ref s.heap.objs.size)) Q E { s with heap := s.heap.push { cls := .type "slice", data := .fields #[.int d.length ui, .int j uj, .none] } } := by
  subst hj
  refine slice_strN_ss F N (fun h' t' tk F' N' => ?_) hs ht (by simp only [Str.length, List.size_toArray, sizeLine_eq]; omega)
  have e : ((d.length : Int) + (k : Int)) = ((d.length + k : Nat) : Int) := by omega
  rw [e, slice_dt x d.length (d.length + k) (by rw [hx]; simp) (by omega)]
  have e2 : (x.drop d.length).take (d.length + k - d.length) = r.take k := by rw [hx]; simp
  rw [e2]; exact h h' t' tk F' N'
theorem ln32 : True := by
  k_with "subscriptTail Name Slice str ref" => (k_here; (with_reducible show wpAny _ _ (subscriptTail _ (Expr.Slice (some _) (some _) none _) _ _) _ _ _); k_dflt (
  (first | (refine' slice_tkW (s := ⟨_, _, _, _, _⟩) _ ?z31k1 ?z31k2 ?z31k3 ?z31k4 ?z31k5 ?_ ?z31k6 ?z31k7; (case z31k4 => exact rfl)) | (refine' slice_tkW (s := ⟨_, _, _, _, _⟩) 2 ?z31k1 ?z31k2 ?z31k3 ?z31k4 ?z31k5 ?_ ?z31k6 ?z31k7; (case z31k4 => omega)) | (refine' slice_tkW (s := ⟨_, _, _, _, _⟩) 1 ?z31k1 ?z31k2 ?z31k3 ?z31k4 ?z31k5 ?_ ?z31k6 ?z31k7; (case z31k4 => omega)));
  (case z31k1 => k_asm); (case z31k2 => k_asm); (case z31k3 => assumption); (case z31k5 => assumption); (case z31k6 => with_unfolding_all rfl); (case z31k7 => intro _; with_unfolding_all rfl); k_whole; intro h' t' k' F' N'))
  trivial
theorem ln33 : True := by
  k_with "subscriptTail Name Name str int" => (k_here; k_dflt (refine' item_tkW ?z32k1 ?z32k2 ?_ ?z32k3 ?z32k4; (case z32k1 => assumption); (case z32k2 => assumption); (case z32k3 => with_unfolding_all rfl); (case z32k4 => intro _; with_unfolding_all rfl); k_whole; intro _ _))
  trivial
theorem ln34 : True := by
  k_with "compareOp In str ref" => (k_here; k_dflt (refine' in130 ?z33k1 ?z33k2 ?z33k3 ?_; (case z33k1 => k_asm); (case z33k2 => k_asm); (case z33k3 => assumption); k_whole))
  trivial
theorem ln35 : True := by
  k_with "call builtin:dict.get" => (k_here; (try dsimp only [List.cons_append, List.nil_append]); (with_reducible show wpAny _ _ (call (Value.builtin _) [Value.ref _, Value.int _ _, Value.int _ _]) _ _ _); k_dflt (refine' kdg_get2 (knd := PySem.intKind _ _) ?z34k1 ?z34k2 ?z34k3 ?z34k4 (intKind_is _ _ _ _) _ ?z34k5 ?_; (case z34k1 => k_asm); (case z34k2 => tb_start); (case z34k3 => k_asm); (case z34k4 => ((try dsimp only); with_reducible assumption)); (case z34k5 => ktr_rel); k_whole; dsimp only [Option.getD]))
  trivial
theorem ln36 : True := by
  k_with "callWith builtin:list.append" => (k_here; k_dflt (refine callWith_method1 ?_))
  trivial
theorem ln37 : True := by
  k_with "callWith builtin:dict.get" => (k_here; k_dflt (refine callWith_method1 ?_))
  trivial
theorem ln38 : True := by
  k_with "getMethod ref" => (k_here; (with_reducible show wpAny _ _ (getMethod (Value.ref 130) _ _) _ _ _); k_dflt (refine' meth130 ?z37k1 ?z37k2 ?_; (case z37k1 => k_asm); (case z37k2 => k_asm); k_whole))
  trivial
theorem ln39 : True := by
  k_with "call builtin:dict.get" => (k_here; (try dsimp only [List.cons_append, List.nil_append]); (with_reducible show wpAny _ _ (call (Value.builtin _) [Value.ref _, Value.str _ _, Value.int _ _]) _ _ _); k_dflt (refine' kdg_get2 (knd := PySem.strKind _ _) ?z38k1 ?z38k2 ?z38k3 ?z38k4 (strKind_is _ _ _ _) (some _) ?z38k5 ?_; (case z38k1 => k_asm); (case z38k2 => tb_start); (case z38k3 => k_asm); (case z38k4 => ((try dsimp only); with_reducible assumption)); (case z38k5 => ktr_unf); k_whole; dsimp only [Option.getD]))
  trivial
theorem ln40 : True := by
  k_with "call builtin:dict.get" => (k_here; (try dsimp only [List.cons_append, List.nil_append]); (with_reducible show wpAny _ _ (call (Value.builtin _) [Value.ref 130, Value.str _ _]) _ _ _); k_dflt (first | (refine' get130n ?z39k1 ?z39k2 ?z39k3 ?_; (case z39k1 => k_asm); (case z39k2 => k_asm); (case z39k3 => assumption); k_whole) | (refine' get130s ?z39k1 ?z39k2 ?z39k3 ?_; (case z39k1 => k_asm); (case z39k2 => k_asm); (case z39k3 => assumption); k_whole; intro _)))
  trivial
theorem len_strL {prog : Program} {w : World} {A : Around} {E : Value → Shared → Prop} {s : Shared} {l : List Nat} {t : Tok} {Q : Value → Shared → Prop} (hl : l.length ≤ 100000) (h : ∀ t' tk, Q (.int l.length t') { s with toks := tk }) : wpAny (model prog w) A (call (.builtin "len") [.str ⟨l.toArray⟩ t]) Q E s := by
  have e : (⟨l.toArray⟩ : Str).length = l.length := by simp [Str.length]
  refine P.len_str (by rw [e]; omega) ?_
  rw [e]; exact h _ _
theorem ln41 : True := by
  k_with "call builtin:len" => (k_here; (with_reducible show wpAny _ _ (call (Value.builtin "len") [Value.str _ _]) _ _ _); k_dflt (refine' len_strL ?z40k1 ?_; (case z40k1 => omega); k_whole; intro _ _))
  trivial
section
variable {prog : Program} {w : World} {A : Around} {E : Value → Shared → Prop} {s : Shared} {h₀ : Heap} {L l : Addr} {news : List (Addr × Obj)} {vs : List Value} {n : Nat} {value slice : PySem.Expr} {u : Tok} {v : Value} {Q : Value → Shared → Prop}
theorem lst_is (N : News h₀ L s.heap news) (hm : (l, W.listOf vs.toArray n) ∈ news) : s.heap.IsList l vs.toArray := ⟨_, (N _ hm).1, rfl, n, rfl⟩
theorem lst_len (N : News h₀ L s.heap news) (hm : (l, W.listOf vs.toArray n) ∈ news) (hz : vs.length ≤ 100000) (h : ∀ t tk, Q (.int vs.length t) { s with toks := tk }) : wpAny (model prog w) A (call (.builtin "len") [.ref l]) Q E s := by
  refine Calls.call_len_list (lst_is N hm) (by simp only [List.size_toArray]; omega) ?_
  rw [List.size_toArray]; exact h _ _
theorem lst_item {k : Int} (N : News h₀ L s.heap news) (hm : (l, W.listOf vs.toArray n) ∈ news) (h0 : 0 ≤ k) (hk : k < 2 ^ 63) (hx : vs[k.toNat]? = some v) (h : Q v s)
    (hs : subscripted slice false (.ref l) (.int k u) = operate [.ref l, .int k u] (getItem (.ref l) (.int k u)) := by with_unfolding_all rfl) : wpAny (model prog w) A (subscriptTail value slice (.ref l) (.int k u)) Q E s :=
  have hL := lst_is N hm
  tail_any hL.typeIs slot_list_getitem.lookup (wpAny_getItem_list hL h0 hk (by simpa using hx) h) hs
theorem lst_last (N : News h₀ L s.heap news) (hm : (l, W.listOf (vs ++ [v]).toArray n) ∈ news) (hz : vs.length ≤ 100000) (h : Q v s)
    (hs : subscripted slice false (.ref l) (.int (-1) u) = operate [.ref l, .int (-1) u] (getItem (.ref l) (.int (-1) u)) := by with_unfolding_all rfl) : wpAny (model prog w) A (subscriptTail value slice (.ref l) (.int (-1) u)) Q E s :=
  have hL := lst_is N hm
  tail_any hL.typeIs slot_list_getitem.lookup (wpAny_getItem_list_neg hL (by decide) (by simp; omega) (by decide) (by
    have e : ((-1 : Int) + ((vs ++ [v]).toArray.size : Nat)).toNat = vs.length := by simp only [List.size_toArray, List.length_append, List.length_cons, List.length_nil]; omega
    rw [e]; simp) h) hs
end
theorem ln42 : True := by
  k_with "call builtin:len" => (k_here; (try dsimp only); (with_reducible show wpAny _ _ (call (Value.builtin _) [Value.ref _]) _ _ _); k_dflt (refine' lst_len ?z41k1 ?z41k2 ?z41k3 ?_; (case z41k1 => k_asm); (case z41k2 => tb_start); (case z41k3 => ((try simp only [List.length_append, List.length_cons, List.length_nil]); omega)); k_whole; intro _ _))
  trivial
theorem lst_len1 {prog : Program} {w : World} {A : Around} {E : Value → Shared → Prop} {s : Shared} {h₀ : Heap} {L l : Addr} {news : List (Addr × Obj)} {n : Nat} {v : Value} {Q : Value → Shared → Prop} (N : News h₀ L s.heap news) (hm : (l, W.listOf [v].toArray n) ∈ news) (h : ∀ t tk, Q (.int 1 t) { s with toks := tk }) : wpAny (model prog w) A (call (.builtin "len") [.ref l]) Q E s :=
  lst_len (vs := [v]) N hm (by simp) h
theorem ln43 : True := by
  k_with "call builtin:len" => (k_here; (try dsimp only); (with_reducible show wpAny _ _ (call (Value.builtin _) [Value.ref _]) _ _ _); k_dflt (refine' lst_len1 ?z42k1 ?z42k2 ?_; (case z42k1 => k_asm); (case z42k2 => tb_start); k_whole; intro _ _))
  trivial
theorem ln44 : True := by
  k_with "subscriptTail Name UnaryOp ref int" => (k_here; k_dflt (refine' lst_last ?z43k1 ?z43k2 ?z43k3 ?_ ?z43k4; (case z43k1 => k_asm); (case z43k2 => tb_start); (case z43k3 => ((try simp only [List.length_append, List.length_cons, List.length_nil]); omega)); (case z43k4 => with_unfolding_all rfl); k_whole))
  trivial
noncomputable def resV : List Int → Int
  | [] => 0
  | [v] => v
  | v :: _ :: _ => 255 - v
theorem va_comb {l r k : Int} {t0 t1 t2 t3 t4 t5 t6 u1 u2 u3 u4 u5 u6 : Tok} : ∃ u, (valueAt (intKeyPairs [(.int 18 t1, .int (Builtin.bitOr l r) u1), (.int 19 t2, .int (Builtin.bitAnd l r) u2), (.int 20 t3, .int (Builtin.bitAnd (255 - l) r) u3), (.int 29 t4, .int (Builtin.bitOr (255 - l) r) u4), (.int 21 t5, .int (Builtin.bitAnd l (255 - r)) u5), (.int 30 t6, .int (Builtin.bitOr l (255 - r)) u6)]) k).getD (.int 0 t0) = .int (combV k l r) u := by
  by_cases h1 : 18 = k
  · subst h1; exact ⟨u1, by rw [vi_hit rfl]; rfl⟩
  by_cases h2 : 19 = k
  · subst h2; exact ⟨u2, by rw [vi_miss h1 (vi_hit rfl)]; rfl⟩
  by_cases h3 : 20 = k
  · subst h3; exact ⟨u3, by rw [vi_miss h1 (vi_miss h2 (vi_hit rfl))]; rfl⟩
  by_cases h4 : 29 = k
  · subst h4; exact ⟨u4, by rw [vi_miss h1 (vi_miss h2 (vi_miss h3 (vi_hit rfl)))]; rfl⟩
  by_cases h5 : 21 = k
  · subst h5; exact ⟨u5, by rw [vi_miss h1 (vi_miss h2 (vi_miss h3 (vi_miss h4 (vi_hit rfl))))]; rfl⟩
  by_cases h6 : 30 = k
  · subst h6; exact ⟨u6, by rw [vi_miss h1 (vi_miss h2 (vi_miss h3 (vi_miss h4 (vi_miss h5 (vi_hit rfl)))))]; rfl⟩
  refine ⟨t0, ?_⟩
  rw [vi_miss h1 (vi_miss h2 (vi_miss h3 (vi_miss h4 (vi_miss h5 (vi_miss h6 vi_nil)))))]
  unfold combV
  rw [if_neg (Ne.symm h1), if_neg (Ne.symm h2), if_neg (Ne.symm h3), if_neg (Ne.symm h4), if_neg (Ne.symm h5), if_neg (Ne.symm h6)]
  rfl
theorem va_let {k : Nat} (hk : k < 3) {t0 t1 t2 t3 u1 u2 u3 : Tok} : ∃ u, (valueAt (strPairs [(.str (PySem.Str.ofString "a") t1, .int 240 u1), (.str (PySem.Str.ofString "b") t2, .int 204 u2), (.str (PySem.Str.ofString "\"") t3, .int 170 u3)]) ⟨#[letC k]⟩).getD (.int 0 t0) = .int (letV k) u := by
  rcases k with _ | _ | _ | k
  · exact ⟨u1, by rw [va_hit (by decide +kernel)]; rfl⟩
  · exact ⟨u2, by rw [va_miss (by decide +kernel) (va_hit (by decide +kernel))]; rfl⟩
  · exact ⟨u3, by rw [va_miss (by decide +kernel) (va_miss (by decide +kernel) (va_hit (by decide +kernel)))]; rfl⟩
  · omega
theorem getComb {prog : Program} {w : World} {A : Around} {E : Value → Shared → Prop} {s : Shared} {h₀ : Heap} {L d : Addr} {o : Obj} {news : List (Addr × Obj)} {l r k : Int} {t t0 t1 t2 t3 t4 t5 t6 u1 u2 u3 u4 u5 u6 : Tok} {Q : Value → Shared → Prop} (N : News h₀ L s.heap news) (hp : (d, o) ∈ news)
    (hd : o.IsDictOf (PySem.intKind prog w) (intKeyPairs [(.int 18 t1, .int (Builtin.bitOr l r) u1), (.int 19 t2, .int (Builtin.bitAnd l r) u2), (.int 20 t3, .int (Builtin.bitAnd (255 - l) r) u3), (.int 29 t4, .int (Builtin.bitOr (255 - l) r) u4), (.int 21 t5, .int (Builtin.bitAnd l (255 - r)) u5), (.int 30 t6, .int (Builtin.bitOr l (255 - r)) u6)]))
    (lo : (d == sysModules) = false) (h : ∀ u, Q (.int (combV k l r) u) { s with toks := s.toks + 1 }) : wpAny (model prog w) A (call (.builtin "dict.get") [.ref d, .int k t, .int 0 t0]) Q E s := by
  obtain ⟨u, e⟩ := va_comb (l := l) (r := r) (k := k) (t0 := t0) (t1 := t1) (t2 := t2) (t3 := t3) (t4 := t4) (t5 := t5) (t6 := t6) (u1 := u1) (u2 := u2) (u3 := u3) (u4 := u4) (u5 := u5) (u6 := u6)
  exact kdg_get2 N hp hd lo (intKind_is _ _ _ _) _ rfl (by rw [e]; exact h u)
theorem getLet {prog : Program} {w : World} {A : Around} {E : Value → Shared → Prop} {s : Shared} {h₀ : Heap} {L d : Addr} {o : Obj} {news : List (Addr × Obj)} {k : Nat} {t t0 t1 t2 t3 u1 u2 u3 : Tok} {Q : Value → Shared → Prop} (hk : k < 3) (N : News h₀ L s.heap news) (hp : (d, o) ∈ news)
    (hd : o.IsDictOf (PySem.strKind prog w) (strPairs [(.str (PySem.Str.ofString "a") t1, .int 240 u1), (.str (PySem.Str.ofString "b") t2, .int 204 u2), (.str (PySem.Str.ofString "\"") t3, .int 170 u3)]))
    (lo : (d == sysModules) = false) (h : ∀ u, Q (.int (letV k) u) { s with toks := s.toks + 1 }) : wpAny (model prog w) A (call (.builtin "dict.get") [.ref d, .str ⟨#[letC k]⟩ t, .int 0 t0]) Q E s := by
  obtain ⟨u, e⟩ := va_let hk (t0 := t0) (t1 := t1) (t2 := t2) (t3 := t3) (u1 := u1) (u2 := u2) (u3 := u3)
  exact kdg_get2 N hp hd lo (strKind_is _ _ _ _) _ rfl (by rw [e]; exact h u)
noncomputable def PSz (d x : List Nat) (l : Addr) (sz : Nat) (big : List (Addr × Obj)) (m' : Str → Option Value) (nw : List (Addr × Obj)) : Prop :=
  ∃ tt tp ts : Tok, nw = big ∧ m' (PySem.Str.ofString "text") = some (.str ⟨x.toArray⟩ tt) ∧ m' (PySem.Str.ofString "pile") = some (.ref l) ∧ m' (PySem.Str.ofString "place") = some (.int d.length tp) ∧ m' (PySem.Str.ofString "size") = some (.int (sz : Int) ts)
theorem value_ (w : World) (x : List Nat) (t : Tok) (news) (ts : List Tk) (fin : List Int) (hx : x = flatT ts) (hl : x.length ≤ 1000) (hr : runT ts [] = some fin) (hok : okT ts) (hf : fin ≠ []) : Con w 191 [.str ⟨x.toArray⟩ t] news 4 40 (fun tl r => tl = [] ∧ ∃ t', r = .int (resV fin) t') := by
  unfold Con
  intro mean mg mb dp un gd cn cs a ccd cl outer A₀ base h₀ L m s Q E B F X N T hk hd hu hret
  w_on
  w_strict (
  refine wpAny_call ?_
  k_dflt ktr_enter
  repeat' ((fail_if_success (with_reducible show wpAny _ _ (exec (Stmt.While _ _ _ _) _) _ _ _)); first | (k_unfold; (try dsimp only)) | (k_end; kc_close) | walk1 | (dsimp only; walk1) | (leave1; walk_say "STEP leave1"; (try dsimp only)) | fail "no step")
  (with_reducible rename Fr _ _ _ _ => FF)
  (with_reducible rename News _ _ _ _ => NN)
  rename_i l' _ _ _ _ _ _ _ _
  have hnl : ∀ p ∈ news, p.1 ≠ l' := fun p hp => Nat.ne_of_lt ((by assumption : ∀ p ∈ news, p.1 < l') p hp)
  refine While_inv (JV x fin l' news) FF (news := (l', W.listOf #[] 0) :: news) (fun p hp => NN p (.tail _ hp)) (exI8 ([]) ts ([]) ([]) 0 _ _ _ ⟨rfl, rfl, rfl, rfl, .nil, rfl, hx, ?_, ?_, hr, hok, Nat.le_refl _⟩) ?_
  rotate_left
  rotate_left
  · intro n m₁ news₁ h₁ tk₁ F₁ N₁ J₁
    refine ex8 J₁ ?_
    intro d ts st vs ep tt tp pl hX9
    refine an12 hX9 ?_
    intro e1 e2 e3 e4 hI hn hx' hz hp hr' ho hst
    clear hX9 J₁
    first | refine canon3G e1 e2 e3 F₁ ?_ | refine canon3H e1 e2 e3 F₁ ?_
    clear e1 e2 e3 F₁
    intro rest F₁
    have hlen := IntsAre.length hI
    rw [List.length_reverse] at hlen
    replace N₁ := News.of N₁ e4
    clear e4
    rcases ts with _ | ⟨t₁, ts⟩
    · have hz' := hz rfl
      have hxl : x.length = d.length := by rw [hx']; simp [flatT]
      have hfe : st = fin := by simpa [runT] using hr'
      subst hfe
      rcases st with _ | ⟨v₁, _ | ⟨v₂, st⟩⟩
      · exact absurd rfl hf
      · have hI' : IntsAre vs [v₁] := hI
        clear hI
        rcases hI' with _ | ⟨_, t1, hI'⟩
        rcases hI' with _ | _
        k_steps
        exact hret _ [] _ _ (by k_asm) (News.drop1 (by assumption)) (fun _ _ _ h => nomatch h) ⟨rfl, _, rfl⟩
      · rw [List.reverse_cons] at hI
        obtain ⟨vs1, t1, e1, hI1⟩ := ints_snoc hI
        clear hI
        subst e1
        have hne1 : ((vs1 ++ [Value.int v₁ t1]).length : Int) ≠ 1 := by have := IntsAre.length hI1; simp only [List.length_reverse, List.length_cons, List.length_append, List.length_nil] at this ⊢; omega
        have hl1 := IntsAre.length hI1
        simp only [List.length_reverse, List.length_cons, List.length_append, List.length_nil] at hl1 hlen hst
        k_steps
        exact hret _ [] _ _ (by k_asm) (News.drop1 (by assumption)) (fun _ _ _ h => nomatch h) ⟨rfl, _, rfl⟩
    · obtain ⟨⟨sz, hs1, hs2, hs3, hs4⟩, htk, ho'⟩ := ho
      have hp' := hp (by simp)
      subst hp'
      have hxl : x.length = d.length + (t₁.s.length + (flatT ts).length) := by rw [hx']; simp [flatT]
      have htl := tk_len t₁
      have hx2 : x = d ++ (t₁.s ++ flatT ts) := hx'
      clear hx'
      repeat' ((fail_if_success (with_reducible show wpAny _ _ (exec (Stmt.Assign _ _ _) _) _ _ _)); first | (k_unfold; (try dsimp only)) | (k_end; kc_close) | walk1 | (dsimp only; walk1) | (leave1; walk_say "STEP leave1"; (try dsimp only)) | fail "no step")
      (with_reducible rename Fr _ _ _ _ => FFs)
      refine aft_then (PSz d x l' sz ((l', W.listOf vs.toArray ep) :: news)) FFs ?cSz ?cSa
      case cSz =>
        rcases hs1 with rfl | rfl <;> simp only [Nat.reduceEqDiff, decide_false, decide_true, show ((2 : Nat) = 2) = True from by simp] at hs2
        all_goals (k_steps; exact Aft.intro (by k_asm) (by k_asm) (exI3 _ _ _ ⟨rfl, rfl, rfl, rfl, rfl⟩))
      case cSa =>
        intro h₂ tk₂ m₂ nw₂ F₂ N₂ hX9
        refine ex3 hX9 ?_
        intro tt2 tp2 ts2 hY9
        refine an5 hY9 ?_
        intro f0 f1 f2 f3 f4
        replace N₂ := News.of N₂ f0
        first | refine canon4G f1 f2 f3 f4 F₂ ?_ | refine canon4H f1 f2 f3 f4 F₂ ?_
        clear hX9 hY9 f0 f1 f2 f3 f4 F₂
        intro rest2 F₂
        repeat' ((fail_if_success (with_reducible show wpAny _ _ (call (Value.builtin "dict.get") _) _ _ _)); first | (k_unfold; (try dsimp only)) | (k_end; kc_close) | walk1 | (dsimp only; walk1) | (leave1; walk_say "STEP leave1"; (try dsimp only)) | fail "no step")
        cases t₁ <;> simp only [kindT] at hs3
        · k_steps
          exact wend (by k_asm) (by k_asm) (fun p hp => hp) rfl rfl rfl hI rfl hx2 hr' ho' (by rfl) hs4 hn hst
        · rcases st with _ | ⟨r₁, _ | ⟨s₁, _ | ⟨l₁, st⟩⟩⟩
          · simp [runT, stepT] at hr'
          · simp [runT, stepT] at hr'
          · simp [runT, stepT] at hr'
          simp only [List.reverse_cons] at hI
          obtain ⟨vs2, t3, e3, hI2⟩ := ints_snoc hI
          obtain ⟨vs1, t2, e2, hI1⟩ := ints_snoc hI2
          obtain ⟨vs0, t1, e1, hI0⟩ := ints_snoc hI1
          clear hI hI1 hI2
          subst e1
          subst e2
          subst e3
          simp only [List.length_cons] at hlen hst
          simp only [List.length_append, List.length_cons, List.length_nil] at hlen
          first | walk1 | (dsimp only [List.cons_append, List.nil_append]; walk1)
          repeat' ((fail_if_success (with_reducible show wpAny _ _ (call (Value.builtin "dict.get") _) _ _ _)); first | (k_unfold; (try dsimp only)) | (k_end; kc_close) | walk1 | (dsimp only; walk1) | (leave1; walk_say "STEP leave1"; (try dsimp only)) | fail "no step")
          (try dsimp only [List.cons_append, List.nil_append])
          k_dflt (refine' getComb ?g1 ?g2 ?g3 ?g4 ?_)
          case g1 => k_asm
          case g2 => tb_start
          case g3 => k_asm
          case g4 => ((try dsimp only); with_reducible assumption)
          intro u9
          k_steps
          exact wend (by k_asm) (by k_asm) (fun p hp => List.mem_cons_of_mem _ (List.mem_cons_of_mem _ hp)) rfl rfl rfl (by rw [List.reverse_cons]; exact ints_push hI0) rfl hx2 hr' ho' (by rfl) hs4 hn (by simp only [List.length_cons]; omega)
        · k_steps
          exact wend (by k_asm) (by k_asm) (fun p hp => hp) rfl rfl rfl (by rw [List.reverse_cons]; exact ints_push hI) rfl hx2 hr' ho' (by rfl) hs4 hn hst
        · rename_i k'
          have hx3 : x = d ++ (letC k' :: flatT ts) := hx2
          first | walk1 | (dsimp only [List.cons_append, List.nil_append]; walk1)
          repeat' ((fail_if_success (with_reducible show wpAny _ _ (call (Value.builtin "dict.get") _) _ _ _)); first | (k_unfold; (try dsimp only)) | (k_end; kc_close) | walk1 | (dsimp only; walk1) | (leave1; walk_say "STEP leave1"; (try dsimp only)) | fail "no step")
          (try dsimp only [List.cons_append, List.nil_append])
          k_dflt (refine' getLet htk ?g5 ?g6 ?g7 ?g8 ?_)
          case g5 => k_asm
          case g6 => tb_start
          case g7 => k_asm
          case g8 => ((try dsimp only); with_reducible assumption)
          intro u9
          k_steps
          exact wend (by k_asm) (by k_asm) (fun p hp => List.mem_cons_of_mem _ hp) rfl rfl rfl (by rw [List.reverse_cons]; exact ints_push hI) rfl hx2 hr' ho' (by rfl) hs4 hn hst
        · rename_i o'
          have h78 : opK o' ≠ 7 ∧ opK o' ≠ 8 := by unfold opK; split <;> decide
          have hstep : stepT (.op o') st = some (opK o' :: st) := rfl
          generalize opK o' = q at hs3 h78 hstep
          obtain ⟨h7, h8⟩ := h78
          k_steps
          all_goals exact wend (by k_asm) (by k_asm) (fun p hp => hp) rfl rfl rfl (by rw [List.reverse_cons]; exact ints_push hI) hstep hx2 hr' ho' (by rfl) hs4 hn hst
  · intro h
    subst h
    rw [hx]; simp [flatT]
  · intro _; rfl)
end
end Mine
end
section
open PySem PySem.W PySem.Spec PySem.Calls PyProof.Rows
set_option maxRecDepth 100000
set_option maxHeartbeats 800000
namespace Mine
theorem laW07 : True := by
  k_with_none
  k_with "execs cons" => (k_here; first | k_gentoks | (with_reducible refine exq ?_; intro Q9 hQ9))
  k_with "k_unfold" => (with_reducible refine hQ9 _ _ ?_; clear hQ9)
  trivial
section
/-- a contract whose answer stands on a larger ledger -/
noncomputable def ConU (w : World) (f : Addr) (vs : List Value) (news : List (Addr × Obj)) (nd nu : Nat) (Out : List (Addr × Obj) → Value → Prop) : Prop :=
  ∀ (mean : ExcName → Option Value) (mg mb : Str → Option Value) (dp un : Nat) (gd : Option (List Code)) (cn : Str) (cs : Scope) (a : Addr) (ccd : Value) (cl : List (Str × Addr)) (outer : List Env) (A₀ : Around) (base h₀ : Heap) (L : Addr) (m : Str → Option Value) (s : Shared) (Q E : Value → Shared → Prop),
    Below A₀ base outer h₀ → Fr h₀ L s.heap m → (hd.heap_39 w.params).In h₀ → News h₀ L s.heap news → Top hd.view_39 (looseW hd.view_39 [Str.ofString "Whitespace", Str.ofString "EXACT_TOKEN_TYPES"]) mean mg mb h₀ → cs.kind = .function → dp + nd < recursionLimit → un + nu < cLine →
    (∀ r big h' tk', Fr h₀ L h' m → News h₀ L h' big → (∀ p ∈ news, p ∈ big) → Out big r → Q r { s with heap := h', toks := tk' }) →
    wpAny (model PySem.Challenge.rw_tp0054_01.row.prog w) (ktrTop dp un gd cn cs L a ccd cl outer) (call (.ref f) vs) Q E s
theorem ConU.use {w : World} {f : Addr} {vs : List Value} {news : List (Addr × Obj)} {nd nu : Nat} {Out : List (Addr × Obj) → Value → Prop} (C : ConU w f vs news nd nu Out)
    {mean : ExcName → Option Value} {mg mb : Str → Option Value} {dp un : Nat} {gd : Option (List Code)} {cn : Str} {cs : Scope} {a : Addr} {ccd : Value} {cl : List (Str × Addr)} {outer : List Env} {A₀ : Around} {base h₀ : Heap} {L : Addr} {m : Str → Option Value} {s : Shared} {Q E : Value → Shared → Prop}
    (B : Below A₀ base outer h₀) (F : Fr h₀ L s.heap m) (X : (hd.heap_39 w.params).In h₀) (N : News h₀ L s.heap news) (T : Top hd.view_39 (looseW hd.view_39 [Str.ofString "Whitespace", Str.ofString "EXACT_TOKEN_TYPES"]) mean mg mb h₀) (hk : cs.kind = .function) (hd' : dp + nd < recursionLimit) (hu : un + nu < cLine)
    (ret : ∀ r big h' tk', Fr h₀ L h' m → News h₀ L h' big → (∀ p ∈ news, p ∈ big) → Out big r → Q r { s with heap := h', toks := tk' }) :
    wpAny (model PySem.Challenge.rw_tp0054_01.row.prog w) (ktrTop dp un gd cn cs L a ccd cl outer) (call (.ref f) vs) Q E s := C _ _ _ _ _ _ _ _ _ _ _ _ _ _ _ _ _ _ _ _ B F X N T hk hd' hu ret

noncomputable def tabO (o : Nat) : Bool × Bool × Bool := match o with | 0 => (true, true, true) | 1 => (false, true, true) | 2 => (true, false, true) | 3 => (false, false, true) | 4 => (true, true, false) | _ => (false, true, false)
noncomputable def brk : Nat → List (Bool × Cl) → Nat → List (Nat × List Nat)
  | 0, _, _ => []
  | _ + 1, [], _ => []
  | n + 1, (_, .leaf _) :: t, d => brk n t d
  | n + 1, (so, .node o l r) :: t, d =>
    if (tabO o).1 == so then (d, shownL ((tabO o).2.1 == so) l) :: (d + 1, shownL ((tabO o).2.2 == so) r) :: brk n (t ++ [((tabO o).2.1 == so, l), ((tabO o).2.2 == so, r)]) (d + 2)
    else (d, shownL ((tabO o).2.1 == so) l) :: (brk n (t ++ [((tabO o).2.1 == so, l)]) (d + 1) ++ ((d, shownL ((tabO o).2.2 == so) r) :: brk n (t ++ [((tabO o).2.2 == so, r)]) (d + 1)))
inductive TIs (news : List (Addr × Obj)) : List Value → List (Bool × Cl) → Prop
  | nil : TIs news [] []
  | cons {a : Addr} {so : Bool} {v : Value} {c : Cl} {vs : List Value} {cs : List (Bool × Cl)} : (a, tupO [.bool so, v]) ∈ news → CI news v c → TIs news vs cs → TIs news (.ref a :: vs) ((so, c) :: cs)
inductive RIs (news : List (Addr × Obj)) : List Value → List (Nat × List Nat) → Prop
  | nil : RIs news [] []
  | cons {a : Addr} {d : Nat} {x : List Nat} {t u : Tok} {vs : List Value} {cs : List (Nat × List Nat)} : (a, tupO [.int d t, .str ⟨x.toArray⟩ u]) ∈ news → RIs news vs cs → RIs news (.ref a :: vs) ((d, x) :: cs)
noncomputable def meas : List (Bool × Cl) → Nat
  | [] => 0
  | p :: r => p.2.size + meas r
noncomputable def RowsOut (rows : List (Nat × List Nat)) : List (Addr × Obj) → Value → Prop := fun big r => ∃ a vs ep, r = .ref a ∧ (a, W.listOf vs.toArray ep) ∈ big ∧ RIs big vs rows

section
variable {prog : Program} {w : World} {A : Around} {E : Value → Shared → Prop} {s : Shared} {h₀ : Heap} {L l l2 : Addr} {m : Str → Option Value} {news : List (Addr × Obj)} {vs ws : List Value} {n n2 : Nat} {value slice : PySem.Expr} {v : Value} {Q : Value → Shared → Prop}
theorem lst_true {Q : Bool → Shared → Prop} (N : News h₀ L s.heap news) (hm : (l, W.listOf (v :: vs).toArray n) ∈ news) (hz : vs.length ≤ 100000) (h : ∀ tk, Q true { s with toks := tk }) : wpAny (model prog w) A (truthy (.ref l)) Q E s :=
  wpAny_truthy_list (lst_is N hm) (by simp only [List.size_toArray, List.length_cons]; omega) (h _)
theorem lst_false {Q : Bool → Shared → Prop} (N : News h₀ L s.heap news) (hm : (l, W.listOf [].toArray n) ∈ news) (h : ∀ tk, Q false { s with toks := tk }) : wpAny (model prog w) A (truthy (.ref l)) Q E s :=
  wpAny_truthy_list (lst_is N hm) (by simp) (h _)
theorem lst_from {k : Nat} {t : Tok} (F : Fr h₀ L s.heap m) (N : News h₀ L s.heap news) (hm : (l, W.listOf vs.toArray n) ∈ news) (hz : vs.length ≤ 100000)
    (h : ∀ x h', Fr h₀ L h' m → News h₀ L h' ((x, W.listOf (vs.drop k).toArray 0) :: news) → Q (.ref x) { s with heap := h' })
    (hs : subscripted slice false (.ref l) (.ref s.heap.objs.size) = operate [.ref s.heap.objs.size, .ref l] (getItem (.ref l) (.ref s.heap.objs.size)))
    (ht : ∀ r, letTemporaryGo value (.ref l) r = pure ()) :
    wpAny (model prog w) A (subscriptTail value slice (.ref l) (.ref s.heap.objs.size)) Q E { s with heap := s.heap.push { cls := .type "slice", data := .fields #[.int k t, .none, .none] } } :=
  slice_list F N (lst_is N hm) (.int (k : Int) t) .none (fun h' F' N' => h _ h' F' (by rw [slicePick_from'] at N'; simpa using N')) hs ht (by rw [List.size_toArray, sizeLine_eq]; omega)
theorem lst_upto {k : Nat} {t : Tok} (F : Fr h₀ L s.heap m) (N : News h₀ L s.heap news) (hm : (l, W.listOf vs.toArray n) ∈ news) (hz : vs.length ≤ 100000)
    (h : ∀ x h', Fr h₀ L h' m → News h₀ L h' ((x, W.listOf (vs.take k).toArray 0) :: news) → Q (.ref x) { s with heap := h' })
    (hs : subscripted slice false (.ref l) (.ref s.heap.objs.size) = operate [.ref s.heap.objs.size, .ref l] (getItem (.ref l) (.ref s.heap.objs.size)))
    (ht : ∀ r, letTemporaryGo value (.ref l) r = pure ()) :
    wpAny (model prog w) A (subscriptTail value slice (.ref l) (.ref s.heap.objs.size)) Q E { s with heap := s.heap.push { cls := .type "slice", data := .fields #[.none, .int k t, .none] } } :=
  slice_list F N (lst_is N hm) .none (.int (k : Int) t) (fun h' F' N' => h _ h' F' (by rw [slicePick_upto'] at N'; simpa using N')) hs ht (by rw [List.size_toArray, sizeLine_eq]; omega)
theorem lst_add (F : Fr h₀ L s.heap m) (N : News h₀ L s.heap news) (hm : (l, W.listOf vs.toArray n) ∈ news) (hm2 : (l2, W.listOf ws.toArray n2) ∈ news) (hz : vs.length + ws.length ≤ 100000)
    (h : ∀ x h', Fr h₀ L h' m → News h₀ L h' ((x, W.listOf (vs ++ ws).toArray 0) :: news) → Q (.ref x) { s with heap := h' }) : wpAny (model prog w) A (binaryOp .Add (.ref l) (.ref l2)) Q E s :=
  add_lists F N (lst_is N hm) (lst_is N hm2) (fun h' F' N' => h _ h' F' N') (by rw [sizeLine_eq]; omega)
end
theorem RIs.up {news news' : List (Addr × Obj)} {vs : List Value} {cs : List (Nat × List Nat)} (h : RIs news vs cs) (hs : ∀ p ∈ news, p ∈ news') : RIs news' vs cs := by
  induction h with
  | nil => exact .nil
  | cons hm _ ih => exact .cons (hs _ hm) ih
structure Sub (a b : List (Addr × Obj)) : Prop where
  h : ∀ p ∈ a, p ∈ b
theorem Sub.mem {a b : List (Addr × Obj)} {p : Addr × Obj} (h : Sub a b) (hp : p ∈ a) : p ∈ b := h.h p hp
theorem ln46 : True := by
  k_with "tb_start" => first | with_reducible assumption | with_reducible exact List.mem_cons_self | (refine' List.mem_cons_of_mem _ ?_; tb_start) | ((with_reducible apply Sub.mem); (with_reducible assumption); tb_start)
  trivial
theorem ln47 : True := by
  k_with "ite" => (k_here; with_reducible first | refine ite_tt ?_ | refine ite_ff ?_ | refine ite_no (beq_eq_false_iff_ne.mpr (by assumption)) ?_ | refine ite_yes (bne_iff_ne.mpr (by assumption)) ?_)
  trivial
theorem lcg_item {prog : Program} {w : World} {A : Around} {E : Value → Shared → Prop} {s : Shared} {h₀ : Heap} {L l : Addr} {news : List (Addr × Obj)} {vs : List Value} {value slice : PySem.Expr} {u : Tok} {v : Value} {Q : Value → Shared → Prop} {k : Int} (N : News h₀ L s.heap news) (hm : (l, LCg.lst vs) ∈ news) (h0 : 0 ≤ k) (hk : k < 2 ^ 63) (hx : vs[k.toNat]? = some v) (h : Q v s)
    (hs : subscripted slice false (.ref l) (.int k u) = operate [.ref l, .int k u] (getItem (.ref l) (.int k u)) := by with_unfolding_all rfl) : wpAny (model prog w) A (subscriptTail value slice (.ref l) (.int k u)) Q E s := lst_item (n := vs.length) N hm h0 hk hx h hs
theorem ln48 : True := by
  k_with "subscriptTail Name Constant ref int" => (k_here; (with_reducible show wpAny _ _ (subscriptTail _ _ (Value.ref _) (Value.int _ _)) _ _ _); k_dflt (first | (refine' tup_item ?z47k1 ?z47k2 ?z47k3 ?z47k4 ?z47k5 ?z47k6 ?_ ?z47k7; (case z47k1 => k_asm); (case z47k2 => tb_start); (case z47k3 => exact rfl); (case z47k4 => exact rfl); (case z47k5 => decide); (case z47k6 => decide); (case z47k7 => with_unfolding_all rfl); k_whole) | (refine' lst_item ?z47k1 ?z47k2 ?z47k3 ?z47k4 ?z47k5 ?_ ?z47k6; (case z47k1 => k_asm); (case z47k2 => tb_start); (case z47k3 => decide); (case z47k4 => decide); (case z47k5 => exact rfl); (case z47k6 => with_unfolding_all rfl); k_whole) | (refine' lcg_item ?z47k1 ?z47k2 ?z47k3 ?z47k4 ?z47k5 ?_ ?z47k6; (case z47k1 => k_asm); (case z47k2 => tb_start); (case z47k3 => decide); (case z47k4 => decide); (case z47k5 => exact rfl); (case z47k6 => with_unfolding_all rfl); k_whole)))
  trivial
theorem allLt_to {d : Addr} {l : List (Addr × Obj)} : AllLt d l → ∀ p ∈ l, p.1 ≠ d := by
  induction l with
  | nil => intro _ p hp; cases hp
  | cons q r ih =>
    intro h p hp
    rcases List.mem_cons.mp hp with e | hp
    · rw [e]; exact Nat.ne_of_lt h.1
    · exact ih h.2 p hp
theorem ln49 : True := by
  k_with "ktr_unf" => first | (refine va_hit ?_; decide +kernel) | (refine' va_miss ?z48ka ?z48kb; (case z48ka => decide +kernel); (case z48kb => ktr_unf))
  trivial
theorem News.nilL {h₀ h : Heap} {L : Addr} {news : List (Addr × Obj)} (N : News h₀ L h ([] ++ news)) : News h₀ L h news := N
theorem get_tab {prog : Program} {w : World} {A : Around} {E : Value → Shared → Prop} {s : Shared} {h₀ : Heap} {L d : Addr} {news : List (Addr × Obj)} {ob : Obj} {o : Nat} {t : Tok} {a0 : Addr} {t0 : Tok} {a1 : Addr} {t1 : Tok} {a2 : Addr} {t2 : Tok} {a3 : Addr} {t3 : Tok} {a4 : Addr} {t4 : Tok} {a5 : Addr} {t5 : Tok} {Q : Value → Shared → Prop}
    (N : News h₀ L s.heap news) (hp : (d, ob) ∈ news) (hd : ob.IsDictOf (PySem.strKind prog w) (strPairs [(.str (PySem.Str.ofString "&") t0, .ref a0), (.str (PySem.Str.ofString "|") t1, .ref a1), (.str (PySem.Str.ofString "<") t2, .ref a2), (.str (PySem.Str.ofString "<=") t3, .ref a3), (.str (PySem.Str.ofString ">") t4, .ref a4), (.str (PySem.Str.ofString ">=") t5, .ref a5)])) (h0 : (a0, tupO [.bool true, .bool true, .bool true]) ∈ news) (h1 : (a1, tupO [.bool false, .bool true, .bool true]) ∈ news) (h2 : (a2, tupO [.bool true, .bool false, .bool true]) ∈ news) (h3 : (a3, tupO [.bool false, .bool false, .bool true]) ∈ news) (h4 : (a4, tupO [.bool true, .bool true, .bool false]) ∈ news) (h5 : (a5, tupO [.bool false, .bool true, .bool false]) ∈ news)
    (h : ∀ a, (a, tupO [.bool (tabO o).1, .bool (tabO o).2.1, .bool (tabO o).2.2]) ∈ news → Q (.ref a) { s with toks := s.toks + 1 }) : wpAny (model prog w) A (getItem (.ref d) (.str ⟨(opL o).toArray⟩ t)) Q E s := by
  rcases o with _ | _ | _ | _ | _ | o
  · exact kdt_getItem (knd := PySem.strKind _ _) N hp hd (strKind_is _ _ _ _) (by ktr_unf) (h _ h0)
  · exact kdt_getItem (knd := PySem.strKind _ _) N hp hd (strKind_is _ _ _ _) (by ktr_unf) (h _ h1)
  · exact kdt_getItem (knd := PySem.strKind _ _) N hp hd (strKind_is _ _ _ _) (by ktr_unf) (h _ h2)
  · exact kdt_getItem (knd := PySem.strKind _ _) N hp hd (strKind_is _ _ _ _) (by ktr_unf) (h _ h3)
  · exact kdt_getItem (knd := PySem.strKind _ _) N hp hd (strKind_is _ _ _ _) (by ktr_unf) (h _ h4)
  · show wpAny _ _ (getItem (.ref d) (.str ⟨([62, 61] : List Nat).toArray⟩ t)) Q E s
    exact kdt_getItem (knd := PySem.strKind _ _) N hp hd (strKind_is _ _ _ _) (by ktr_unf) (h _ h5)
theorem ln50 : True := by
  k_with "getItem ref str" => (k_here; k_dflt (refine' get_tab ?z49k1 ?z49k2 ?z49k3 ?z49h0 ?z49h1 ?z49h2 ?z49h3 ?z49h4 ?z49h5 ?_; (case z49k1 => k_asm); (case z49k2 => tb_start); (case z49k3 => k_asm); (case z49h0 => tb_start); (case z49h1 => tb_start); (case z49h2 => tb_start); (case z49h3 => tb_start); (case z49h4 => tb_start); (case z49h5 => tb_start); k_whole; intro a9 hm9))
  trivial
theorem ln51 : True := by
  k_with "call ref" => (k_here; (with_reducible show wpAny _ _ (call (Value.ref 172) _) _ _ _); k_dflt (
  refine' Con.use0 (shown_ _ _ (CI.mono (by assumption) ?z50kS) ?z50kZ) ?z50k1 ?z50k2 ?z50k3 ?z50k4 ?z50k5 ?z50k6 ?z50k7 ?z50k8 ?_; (case z50k1 => k_asm); (case z50k2 => k_asm); (case z50k3 => k_asm); (case z50k4 => k_asm); (case z50k5 => k_asm); (case z50k6 => first | exact rfl | assumption); (case z50k7 => ktr_room); (case z50k8 => ktr_units); (case z50kS => (intro p9 hp9; tb_start)); (case z50kZ => omega); k_whole; intro t9 h9 tk9 F9 N9; (try dsimp only); (try k_fold)))
  trivial
theorem ln52 : True := by
  k_with "k_all" => first | with_reducible assumption | exact fun p hp => Nat.ne_of_lt ((by with_reducible assumption : ∀ q ∈ _, q.1 < _) p hp) | exact allLt_to (by with_reducible assumption) | exact allLt_to (And.right (by with_reducible assumption))
  trivial
theorem ln53 : True := by
  k_with "eval Dict" => (k_here; k_dflt (refine' kdn_str ?z52q ?z52F ?z52N ?z52b ?z52a ?z52l ?z52e ?z52n ?_; (case z52q => rfl); (case z52F => k_asm); (case z52N => k_asm); (case z52b => exact Top.nolimit (by k_asm)); (case z52a => rfl); (case z52l => rfl); (case z52e => exact List.cons_ne_nil _ _); (case z52n => exact Nat.le_of_ble_eq_true rfl)); intro d' h' o' F' N' l1 lo' hd'; (try k_lt l1))
  trivial
theorem ln54 : True := by
  k_with "truthy ref" => (k_here; k_dflt (first
  | (refine' lst_true ?z53k1 ?z53k2 ?z53k3 ?_; (case z53k1 => k_asm); (case z53k2 => tb_start); (case z53k3 => omega); k_whole; intro _)
  | (refine' lst_false ?z53k1 ?z53k2 ?_; (case z53k1 => k_asm); (case z53k2 => tb_start); k_whole; intro _)))
  trivial
theorem ln55 : True := by
  k_with "subscriptTail Name Slice ref ref" => (k_here; k_dflt (first
  | ((with_reducible show wpAny _ _ (subscriptTail _ (Expr.Slice (some _) none none _) _ _) _ _ _); refine' lst_from (s := ⟨_, _, _, _, _⟩) ?z54k1 ?z54k2 ?z54k3 ?z54k4 ?_ ?z54k5 ?z54k6; (case z54k1 => k_asm); (case z54k2 => k_asm); (case z54k3 => tb_start); (case z54k4 => ((try simp only [List.length_append, List.length_cons, List.length_nil]); omega)); (case z54k5 => with_unfolding_all rfl); (case z54k6 => intro _; with_unfolding_all rfl); k_whole; intro x' h' F' N'; (try dsimp only [List.drop] at N'))
  | ((with_reducible show wpAny _ _ (subscriptTail _ (Expr.Slice none (some _) none _) _ _) _ _ _); refine' lst_upto (s := ⟨_, _, _, _, _⟩) ?z54k1 ?z54k2 ?z54k3 ?z54k4 ?_ ?z54k5 ?z54k6; (case z54k1 => k_asm); (case z54k2 => k_asm); (case z54k3 => tb_start); (case z54k4 => ((try simp only [List.length_append, List.length_cons, List.length_nil]); omega)); (case z54k5 => with_unfolding_all rfl); (case z54k6 => intro _; with_unfolding_all rfl); k_whole; intro x' h' F' N'; (try dsimp only [List.take] at N'))))
  trivial
theorem ln56 : True := by
  k_with "binaryOp Add ref ref" => (k_here; k_dflt (refine' lst_add ?z55k1 ?z55k2 ?z55k3 ?z55k4 ?z55k5 ?_; (case z55k1 => k_asm); (case z55k2 => k_asm); (case z55k3 => tb_start); (case z55k4 => tb_start); (case z55k5 => ((try simp only [List.length_append, List.length_cons, List.length_nil]); omega)); k_whole; intro x' h' F' N'))
  trivial
theorem ln57 : True := by
  k_with "CompEnd" => (k_dflt (refine' LCg.CompEnd.intro ?z56kF ?z56kN _ (fun p hp => hp) ?z56kO ?z56kS ?_; (case z56kF => with_reducible assumption); (case z56kN => with_reducible assumption); (case z56kO => assumption); (case z56kS => lcg_src); k_whole))
  trivial
theorem TIs.mono {news news' : List (Addr × Obj)} (hs : ∀ p ∈ news, p ∈ news') : ∀ {vs : List Value} {cs : List (Bool × Cl)}, TIs news vs cs → TIs news' vs cs
  | _, _, .nil => .nil
  | _, _, .cons hm hc r => .cons (hs _ hm) (hc.mono hs) (TIs.mono hs r)
theorem TIs.app {news : List (Addr × Obj)} {ws : List Value} {ds : List (Bool × Cl)} (h2 : TIs news ws ds) : ∀ {vs : List Value} {cs : List (Bool × Cl)}, TIs news vs cs → TIs news (vs ++ ws) (cs ++ ds)
  | _, _, .nil => h2
  | _, _, .cons hm hc r => .cons hm hc (TIs.app h2 r)
theorem RIs.mono {news news' : List (Addr × Obj)} (hs : ∀ p ∈ news, p ∈ news') : ∀ {vs : List Value} {cs : List (Nat × List Nat)}, RIs news vs cs → RIs news' vs cs
  | _, _, .nil => .nil
  | _, _, .cons hm r => .cons (hs _ hm) (RIs.mono hs r)
theorem RIs.app {news : List (Addr × Obj)} {ws : List Value} {ds : List (Nat × List Nat)} (h2 : RIs news ws ds) : ∀ {vs : List Value} {cs : List (Nat × List Nat)}, RIs news vs cs → RIs news (vs ++ ws) (cs ++ ds)
  | _, _, .nil => h2
  | _, _, .cons hm r => .cons hm (RIs.app h2 r)
theorem RIs.length {news : List (Addr × Obj)} : ∀ {vs : List Value} {cs : List (Nat × List Nat)}, RIs news vs cs → vs.length = cs.length
  | _, _, .nil => rfl
  | _, _, .cons _ r => by rw [List.length_cons, List.length_cons, RIs.length r]
theorem TIs.length {news : List (Addr × Obj)} : ∀ {vs : List Value} {cs : List (Bool × Cl)}, TIs news vs cs → vs.length = cs.length
  | _, _, .nil => rfl
  | _, _, .cons _ _ r => by rw [List.length_cons, List.length_cons, TIs.length r]
theorem RIs.cons' {news : List (Addr × Obj)} {a : Addr} {d : Nat} {k : Int} {x : List Nat} {t u : Tok} {vs : List Value} {cs : List (Nat × List Nat)} (h : (a, tupO [.int k t, .str ⟨x.toArray⟩ u]) ∈ news) (hk : k = (d : Nat)) (r : RIs news vs cs) : RIs news (.ref a :: vs) ((d, x) :: cs) := by
  subst hk; exact .cons h r
noncomputable def IHB (w : World) (n : Nat) : Prop := ∀ news' t' a' vs' ep' (d' : Nat) (k : Int) td', meas t' < n → (a', W.listOf vs'.toArray ep') ∈ news' → TIs news' vs' t' → vs'.length ≤ 30 → k = (d' : Int) → ConU w 177 [.ref a', .int k td'] news' (n + 12) (8 * (n + 12)) (RowsOut (brk n t' d'))
theorem IHB.use {w : World} {n : Nat} (I : IHB w n) {news' : List (Addr × Obj)} {t' : List (Bool × Cl)} {a' : Addr} {vs' : List Value} {ep' d' : Nat} {k : Int} {td' : Tok} (hm : (a', W.listOf vs'.toArray ep') ∈ news') (ht : TIs news' vs' t') (hk : k = (d' : Int)) (hme : meas t' < n) (hl : vs'.length ≤ 30) : ConU w 177 [.ref a', .int k td'] news' (n + 12) (8 * (n + 12)) (RowsOut (brk n t' d')) := I _ _ _ _ _ _ _ _ hme hm ht hl hk
theorem cast1 (d : Nat) : (d : Int) + 1 = ((d + 1 : Nat) : Int) := rfl
theorem cast2 (d : Nat) : (d : Int) + 2 = ((d + 2 : Nat) : Int) := rfl
theorem meas_app (a b : List (Bool × Cl)) : meas (a ++ b) = meas a + meas b := by
  induction a with
  | nil => simp [meas]
  | cons p r ih => simp only [List.cons_append, meas, ih]; omega
theorem brk_len : ∀ (n : Nat) (t : List (Bool × Cl)) (d : Nat), (brk n t d).length + 2 ≤ 2 * 2 ^ n
  | 0, _, _ => by simp [brk]
  | n + 1, [], _ => by have := Nat.pow_le_pow_right (n := 2) (by decide) (Nat.zero_le n); simp only [brk, List.length_nil, Nat.pow_succ]; omega
  | n + 1, (_, .leaf _) :: t, d => by have := brk_len n t d; simp only [brk, Nat.pow_succ]; omega
  | n + 1, (so, .node o l r) :: t, d => by
    simp only [brk]
    split
    · have := brk_len n (t ++ [((tabO o).2.1 == so, l), ((tabO o).2.2 == so, r)]) (d + 2); simp only [List.length_cons, Nat.pow_succ]; omega
    · have h1 := brk_len n (t ++ [((tabO o).2.1 == so, l)]) (d + 1); have h2 := brk_len n (t ++ [((tabO o).2.2 == so, r)]) (d + 1)
      simp only [List.length_cons, List.length_append, Nat.pow_succ]; omega
theorem RIs.le {news : List (Addr × Obj)} {vs : List Value} {n d : Nat} {t : List (Bool × Cl)} (h : RIs news vs (brk n t d)) (hn : n ≤ 12) : vs.length ≤ 8192 := by
  have h1 := RIs.length h
  have h2 := brk_len n t d
  have h3 : 2 ^ n ≤ 2 ^ 12 := Nat.pow_le_pow_right (by decide) hn
  have h4 : (2 : Nat) ^ 12 = 4096 := rfl
  omega
theorem brk_both {n : Nat} {so : Bool} {o : Nat} {l r : Cl} {t : List (Bool × Cl)} {d : Nat} (h : ((tabO o).1 == so) = true) : brk (n + 1) ((so, .node o l r) :: t) d = [(d, shownL ((tabO o).2.1 == so) l), (d + 1, shownL ((tabO o).2.2 == so) r)] ++ brk n (t ++ [((tabO o).2.1 == so, l), ((tabO o).2.2 == so, r)]) (d + 2) := by
  simp only [brk]; rw [if_pos h]; rfl
theorem brk_else {n : Nat} {so : Bool} {o : Nat} {l r : Cl} {t : List (Bool × Cl)} {d : Nat} (h : ((tabO o).1 == so) = false) : brk (n + 1) ((so, .node o l r) :: t) d = (([(d, shownL ((tabO o).2.1 == so) l)] ++ brk n (t ++ [((tabO o).2.1 == so, l)]) (d + 1)) ++ [(d, shownL ((tabO o).2.2 == so) r)]) ++ brk n (t ++ [((tabO o).2.2 == so, r)]) (d + 1) := by
  simp only [brk]; rw [if_neg (by rw [h]; decide)]; simp
theorem ln58 : True := by
  k_with "call ref" => (k_here; (with_reducible show wpAny _ _ (call (Value.ref 177) _) _ _ _); k_dflt (
  refine' ConU.use (IHB.use (by with_reducible assumption) ?z57km (TIs.app ?z57kt1 (TIs.mono ?z57kS (by with_reducible assumption))) ?z57kk ?z57ke ?z57kl) ?z57k1 ?z57k2 ?z57k3 ?z57k4 ?z57k5 ?z57k6 ?z57k7 ?z57k8 ?_; (case z57k1 => k_asm); (case z57k2 => k_asm); (case z57k3 => k_asm); (case z57k4 => k_asm); (case z57k5 => k_asm); (case z57k6 => first | exact rfl | assumption); (case z57kS => (intro p9 hp9; tb_start)); (case z57km => tb_start); (case z57kt1 => first | exact TIs.cons (by tb_start) (CI.mono (by with_reducible assumption) (fun _ _ => by tb_start)) .nil | exact TIs.cons (by tb_start) (CI.mono (by with_reducible assumption) (fun _ _ => by tb_start)) (TIs.cons (by tb_start) (CI.mono (by with_reducible assumption) (fun _ _ => by tb_start)) .nil)); (case z57kk => first | exact rfl | exact cast1 _ | exact cast2 _); (case z57ke => with_reducible assumption); (case z57kl => ((try simp only [List.length_append, List.length_cons, List.length_nil]); omega)); (case z57k7 => ktr_room); (case z57k8 => ktr_units); k_whole; intro r9 big9 h9 tk9 F9 N9 hs9 ho9; obtain ⟨a9, vs9, ep9, e9, hm9, hr9⟩ := ho9; subst e9; (have hS9 := Sub.mk hs9); (have hl9 := RIs.le hr9 (by with_reducible assumption)); clear hs9; (try dsimp only); (try k_fold)))
  trivial
theorem ln59 : True := by
  k_with "call ref" => (k_here; (with_reducible show wpAny _ _ (call (Value.ref 177) _) _ _ _); k_dflt (
  refine' ConU.use (IHB.use (by with_reducible assumption) ?z58km (TIs.mono ?z58kS (by with_reducible assumption)) ?z58kk ?z58ke ?z58kl) ?z58k1 ?z58k2 ?z58k3 ?z58k4 ?z58k5 ?z58k6 ?z58k7 ?z58k8 ?_; (case z58k1 => k_asm); (case z58k2 => k_asm); (case z58k3 => k_asm); (case z58k4 => k_asm); (case z58k5 => k_asm); (case z58k6 => first | exact rfl | assumption); (case z58kS => (intro p9 hp9; tb_start)); (case z58km => tb_start); (case z58kk => first | exact rfl | exact cast1 _ | exact cast2 _); (case z58ke => with_reducible assumption); (case z58kl => ((try simp only [List.length_append, List.length_cons, List.length_nil]); omega)); (case z58k7 => ktr_room); (case z58k8 => ktr_units); k_whole; intro r9 big9 h9 tk9 F9 N9 hs9 ho9; obtain ⟨a9, vs9, ep9, e9, hm9, hr9⟩ := ho9; subst e9; (have hS9 := Sub.mk hs9); (have hl9 := RIs.le hr9 (by with_reducible assumption)); clear hs9; (try dsimp only); (try k_fold)))
  trivial
theorem broken_node (w : World) (n : Nat) (so : Bool) (o : Nat) (l r : Cl) (t : List (Bool × Cl)) (b : Addr) (vc : Value) (vs : List Value) (a : Addr) (ep : Nat) (d : Nat) (td : Tok) (news)
    (hm : (a, W.listOf (.ref b :: vs).toArray ep) ∈ news) (hb : (b, tupO [.bool so, vc]) ∈ news) (hc : CI news vc (.node o l r)) (ht : TIs news vs t)
    (IH : IHB w n) (hms : meas ((so, .node o l r) :: t) < n + 1) (hn : n ≤ 12) (hvl : vs.length ≤ 28) :
    ConU w 177 [.ref a, .int d td] news (n + 13) (8 * (n + 13)) (RowsOut (brk (n + 1) ((so, .node o l r) :: t) d)) := by
  have hz1 : l.size ≤ 20 := by simp only [meas, Cl.size] at hms; omega
  have hz2 : r.size ≤ 20 := by simp only [meas, Cl.size] at hms; omega
  have hz3 : l.size + r.size + 1 ≤ n := by simp only [meas, Cl.size] at hms; omega
  have hm1 : meas (t ++ [((tabO o).2.1 == so, l), ((tabO o).2.2 == so, r)]) < n := by simp only [meas, meas_app, Cl.size] at hms ⊢; omega
  have hm2 : meas (t ++ [((tabO o).2.1 == so, l)]) < n := by simp only [meas, meas_app, Cl.size] at hms ⊢; omega
  have hm3 : meas (t ++ [((tabO o).2.2 == so, r)]) < n := by simp only [meas, meas_app, Cl.size] at hms ⊢; omega
  rcases hc with _ | ⟨hcm, hcl, hcr⟩
  unfold ConU
  intro mean mg mb dp un gd cn cs a ccd cl outer A₀ base h₀ L m s Q E B F X N T hk hd hu hret
  w_on
  w_strict (
  refine wpAny_call ?_
  k_dflt ktr_enter
  repeat' ((fail_if_success (with_reducible show wpAny _ _ (getItem (Value.ref _) (Value.str _ _)) _ _ _)); first | (k_unfold; (try dsimp only)) | (k_end; kc_close) | walk1 | (dsimp only; walk1) | (leave1; walk_say "STEP leave1"; (try dsimp only)) | fail "no step")
  walk1
  repeat' ((fail_if_success (with_reducible show LCg.FinA _ _ _ _ _ _ _ _)); first | (k_unfold; (try dsimp only)) | (k_end; kc_close) | walk1 | (dsimp only; walk1) | (leave1; walk_say "STEP leave1"; (try dsimp only)) | fail "no step")
  repeat' ((fail_if_success (with_reducible show wpAny _ _ (exec (Stmt.If _ _ _ _) _) _ _ _)); first | (k_unfold; (try dsimp only)) | (k_end; kc_close) | walk1 | (dsimp only; walk1) | (leave1; walk_say "STEP leave1"; (try dsimp only)) | fail "no step")
  cases hbs : (tabO o).1 == so
  all_goals repeat' ((fail_if_success (with_reducible show wpAny _ _ (call (Value.ref _) _) _ _ _)); first | (k_unfold; (try dsimp only)) | (k_end; kc_close) | walk1 | (dsimp only; walk1) | (leave1; walk_say "STEP leave1"; (try dsimp only)) | fail "no step")
  all_goals walk1
  all_goals k_steps
  · exact hret _ _ _ _ (by k_asm) (by k_asm) (fun _ _ => by tb_start) ⟨_, _, _, rfl, by tb_start, (by rw [brk_else hbs]; exact RIs.app (RIs.up (by with_reducible assumption) (fun _ _ => by tb_start)) (RIs.app (.cons' (by tb_start) (by exact rfl) .nil) (RIs.app (RIs.up (by with_reducible assumption) (fun _ _ => by tb_start)) (.cons' (by tb_start) (by exact rfl) .nil))))⟩
  · exact hret _ _ _ _ (by k_asm) (by k_asm) (fun _ _ => by tb_start) ⟨_, _, _, rfl, by tb_start, (by rw [brk_both hbs]; exact RIs.app (RIs.up (by with_reducible assumption) (fun _ _ => by tb_start)) (.cons' (by tb_start) (by exact rfl) (.cons' (by tb_start) (by exact rfl) .nil)))⟩)
theorem broken_leaf (w : World) (n : Nat) (so : Bool) (k : Nat) (t : List (Bool × Cl)) (b : Addr) (tk : Tok) (vs : List Value) (a : Addr) (ep : Nat) (d : Nat) (td : Tok) (news)
    (hm : (a, W.listOf (.ref b :: vs).toArray ep) ∈ news) (hb : (b, tupO [.bool so, .str ⟨#[letC k]⟩ tk]) ∈ news) (ht : TIs news vs t)
    (IH : IHB w n) (hms : meas t < n) (hn : n ≤ 12) (hvl : vs.length ≤ 28) :
    ConU w 177 [.ref a, .int d td] news (n + 13) (8 * (n + 13)) (RowsOut (brk (n + 1) ((so, .leaf k) :: t) d)) := by
  unfold ConU
  intro mean mg mb dp un gd cn cs a ccd cl outer A₀ base h₀ L m s Q E B F X N T hk hd hu hret
  w_on
  w_strict (
  refine wpAny_call ?_
  k_dflt ktr_enter
  k_steps
  exact hret _ _ _ _ (by k_asm) (by k_asm) (fun _ _ => by tb_start) ⟨_, _, _, rfl, by tb_start, (by show RIs _ _ (brk n t d); exact RIs.up (by with_reducible assumption) (fun _ _ => by tb_start))⟩)
theorem broken_nil (w : World) (n : Nat) (a : Addr) (ep : Nat) (d : Nat) (td : Tok) (news)
    (hm : (a, W.listOf [].toArray ep) ∈ news) :
    ConU w 177 [.ref a, .int d td] news (n + 13) (8 * (n + 13)) (RowsOut (brk (n + 1) [] d)) := by
  unfold ConU
  intro mean mg mb dp un gd cn cs a ccd cl outer A₀ base h₀ L m s Q E B F X N T hk hd hu hret
  w_on
  w_strict (
  refine wpAny_call ?_
  k_dflt ktr_enter
  k_steps
  exact hret _ _ _ _ (by k_asm) (by k_asm) (fun _ _ => by tb_start) ⟨_, _, _, rfl, by tb_start, .nil⟩)
theorem Cl.size_pos : ∀ c : Cl, 1 ≤ c.size
  | .leaf _ => Nat.le_refl _
  | .node _ l r => by simp only [Cl.size]; omega
theorem TIs.le_meas {news : List (Addr × Obj)} : ∀ {vs : List Value} {cs : List (Bool × Cl)}, TIs news vs cs → vs.length ≤ meas cs
  | _, _, .nil => Nat.le_refl _
  | _, (_, c) :: _, .cons _ _ r => by have := TIs.le_meas r; have := Cl.size_pos c; simp only [List.length_cons, meas]; omega
theorem broken_ (w : World) : ∀ n, n ≤ 13 → IHB w n
  | 0, _ => fun _ t' _ _ _ _ _ _ h => absurd h (Nat.not_lt_zero _)
  | n + 1, hn => fun news t a vs ep d k td hms hm ht hvl hk => by
    subst hk
    have IH := broken_ w n (by omega)
    cases ht with
    | nil => exact broken_nil w n a ep d td news hm
    | cons hb hc ht =>
      rename_i b so v c vs t
      have hle := TIs.le_meas ht
      simp only [meas] at hms
      cases c with
      | leaf q => cases hc; exact broken_leaf w n so q t b _ vs a ep d td news hm hb ht IH (by simp only [Cl.size] at hms; omega) (by omega) (by omega)
      | node o l r => exact broken_node w n so o l r t b v vs a ep d td news hm hb hc ht IH (by simp only [meas]; omega) (by omega) (by omega)
end
end Mine
end
section
open PySem PySem.W PySem.Spec PySem.Calls PyProof.Rows
set_option maxRecDepth 100000
set_option maxHeartbeats 800000
namespace Mine
theorem lzW08 : True := by
  k_with_none
  trivial
section
variable {prog : Program} {w : World} {A : Around} {E : Value → Shared → Prop} {s : Shared} {env : Env} {h₀ : Heap} {x : Str} {body : List Stmt} {Q : Flow → Shared → Prop}
/-- a loop by an invariant; what the iterator leans on stays in the ledger -/
theorem loop_core {P : Nat → Value → Prop} {St : Nat → Heap → Prop} {n : Nat} {lo : List (Addr × Obj)} {m : Str → Option Value} {news : List (Addr × Obj)} (o : Obj)
    (W : Walks prog w A s.heap.objs.size (s.heap.objs.size :: lo.map (·.1)) [s.heap.objs.size] n P St) (hSt : ∀ i h, St i h → ∃ o, h.get? s.heap.objs.size = some o) (hst : St 0 (s.heap.push o))
    (F : Fr h₀ env.locals s.heap m) (N : News h₀ env.locals s.heap news) (J : Nat → (Str → Option Value) → List (Addr × Obj) → Prop) (h0 : J 0 m news)
    (hJl : ∀ i m nw, J i m nw → ∀ p ∈ lo, p ∈ nw)
    (turn : ∀ (i : Nat) (v : Value) (m₁ : Str → Option Value) (news₁ : List (Addr × Obj)) (I : Addr) (oI : Obj) (h₁ : Heap) (tk₁ : Nat), i < n → P i v → J i m₁ news₁ → (∀ p ∈ news₁, p.1 ≠ I) →
      Fr h₀ env.locals h₁ (fun z => if z = x then some v else m₁ z) → News h₀ env.locals h₁ ((I, oI) :: news₁) →
      wpAny (model prog w) A (execs body env) (LoopStepV h₀ env.locals [I] [(I, oI)] (J (i + 1)) { s with heap := h₁, toks := tk₁ } (fun v s' => Q (.ret v) s') fun s' => Q .next s') E { s with heap := h₁, toks := tk₁ })
    (done : ∀ h' tk m' news', Fr h₀ env.locals h' m' → News h₀ env.locals h' news' → J n m' news' → Q .next { s with heap := h', toks := tk }) :
    LoopAtV prog w A h₀ env x body Q E (.ref s.heap.objs.size) { s with heap := s.heap.push o } := by
  have hI₀ : h₀.get? s.heap.objs.size = none := by
    cases e : h₀.get? s.heap.objs.size with
    | none => rfl
    | some o' => exact absurd (Heap.lt_size (F.keep _ _ e)) (Nat.lt_irrefl _)
  have hLI : env.locals ≠ s.heap.objs.size := Nat.ne_of_lt F.ns.lt
  have hLf : env.locals ∉ s.heap.objs.size :: lo.map (·.1) := fun h => by
    rcases List.mem_cons.mp h with h | h
    · exact hLI h
    · obtain ⟨p, hp, e⟩ := List.mem_map.mp h
      exact (N _ (hJl _ _ _ h0 p hp)).2.1 e
  refine ⟨s.heap.objs.size, _, [s.heap.objs.size], _, _, St, m, news, J, rfl, W, hLf, by simpa using hI₀, fun p hp => by simpa using Nat.ne_of_lt (Heap.lt_size (N p hp).1), hst, F.push _, fun p hp => ⟨Heap.get?_push_of_some _ (N p hp).1, (N p hp).2⟩, h0, ?_, ?_⟩
  · rintro i v m₁ news₁ s₁ own ⟨h₁, tk₁, rfl⟩ hi hP hJ hoff hsub hget hall hst₁ F₁ N₁
    have hoff' : ∀ p ∈ news₁, p.1 ≠ s.heap.objs.size := fun p hp => by simpa using hoff p hp
    obtain ⟨oI, hoI⟩ := hSt _ _ hst₁
    have hN : News h₀ env.locals h₁ ((s.heap.objs.size, oI) :: news₁) := fun p hp => by
      rcases List.mem_cons.mp hp with rfl | hp
      · exact ⟨hoI, Ne.symm hLI, hI₀⟩
      · exact N₁ p (List.mem_append_right _ hp)
    refine wpAny_mono (turn i v m₁ news₁ s.heap.objs.size oI h₁ tk₁ hi hP hJ hoff' F₁ hN) (fun f s₂ h₂ => ?_) fun _ _ e => e
    have conv : LoopStepU h₀ env.locals [s.heap.objs.size] [(s.heap.objs.size, oI)] (J (i + 1)) { s with heap := h₁, toks := tk₁ } .next s₂ → LoopStepU h₀ env.locals [s.heap.objs.size] own (J (i + 1)) { s with heap := h₁, toks := tk₁ } .next s₂ := by
      rintro ⟨_, h', tk, m₂, news₂, rfl, F₂, N₂, ha, hJ₂⟩
      refine ⟨rfl, h', tk, m₂, news₂, rfl, F₂, fun p hp => ?_, ha, hJ₂⟩
      rcases List.mem_append.mp hp with hp | hp
      · have e2 := hget p hp
        rcases List.mem_cons.mp (hsub p hp) with e1 | hl
        · rw [e1] at e2
          have e3 : p.2 = oI := Option.some.inj (e2.symm.trans hoI)
          have e4 : p = (s.heap.objs.size, oI) := Prod.ext e1 e3
          rw [e4]; exact N₂ _ (List.mem_append_left _ (List.mem_singleton.mpr rfl))
        · obtain ⟨q, hq, e⟩ := List.mem_map.mp hl
          have k1 := N₂ _ (List.mem_append_right _ (hJl _ _ _ hJ₂ q hq))
          have k0 := (N₁ _ (List.mem_append_right own (hJl _ _ _ hJ q hq))).1
          have e' : q.1 = p.1 := e
          rw [e'] at k0
          have e3 : p.2 = q.2 := Option.some.inj (e2.symm.trans k0)
          have e4 : p = q := Prod.ext e'.symm e3
          rw [e4]; exact k1
      · exact N₂ p (List.mem_append_right _ hp)
    cases f with
    | ret v => exact h₂
    | brk => exact h₂
    | cont => exact conv h₂
    | next => exact conv h₂
  · intro h' tk m' news' F' N' hoff hJ
    exact done h' tk m' news' F' N' hJ
/-- over a text -/
theorem iter_strJ {y : List Nat} {t : Tok} {m : Str → Option Value} {news : List (Addr × Obj)} (hh : A.handled = none) (F : Fr h₀ env.locals s.heap m) (N : News h₀ env.locals s.heap news) (J : Nat → (Str → Option Value) → List (Addr × Obj) → Prop) (h0 : J 0 m news)
    (turn : ∀ (i c : Nat) (u : Tok) (m₁ : Str → Option Value) (news₁ : List (Addr × Obj)) (I : Addr) (oI : Obj) (h₁ : Heap) (tk₁ : Nat), y[i]? = some c → J i m₁ news₁ → (∀ p ∈ news₁, p.1 ≠ I) →
      Fr h₀ env.locals h₁ (fun z => if z = x then some (.str ⟨#[c]⟩ u) else m₁ z) → News h₀ env.locals h₁ ((I, oI) :: news₁) →
      wpAny (model prog w) A (execs body env) (LoopStepV h₀ env.locals [I] [(I, oI)] (J (i + 1)) { s with heap := h₁, toks := tk₁ } (fun v s' => Q (.ret v) s') fun s' => Q .next s') E { s with heap := h₁, toks := tk₁ })
    (done : ∀ h' tk m' news', Fr h₀ env.locals h' m' → News h₀ env.locals h' news' → J y.length m' news' → Q .next { s with heap := h', toks := tk }) :
    wpAny (model prog w) A (pyIter (.str ⟨y.toArray⟩ t)) (fun it s₂ => LoopAtV prog w A h₀ env x body Q E it s₂) E s := by
  have go : ∀ (St : Nat → Heap → Prop) (o : Obj), Walks prog w A s.heap.objs.size [s.heap.objs.size] [s.heap.objs.size] (⟨y.toArray⟩ : Str).cps.size (SignAt ⟨y.toArray⟩) St → (∀ i h, St i h → ∃ o, h.get? s.heap.objs.size = some o) → St 0 (s.heap.push o) →
      LoopAtV prog w A h₀ env x body Q E (.ref s.heap.objs.size) { s with heap := s.heap.push o } := fun St o W hS hst => by
    refine loop_core (lo := []) o W hS hst F N J h0 (fun _ _ _ _ _ hp => nomatch hp) (fun i v m₁ news₁ I oI h₁ tk₁ hi hP hJ hoff F₁ N₁ => ?_) (fun h' tk m' news' F' N' hJ => done h' tk m' news' F' N' (by simpa using hJ))
    obtain ⟨c, u, hc, rfl⟩ := hP
    exact turn i c u m₁ news₁ I oI h₁ tk₁ (by simpa using hc) hJ hoff F₁ N₁
  cases ha : (⟨y.toArray⟩ : Str).cps.all (· < 128)
  · exact wpAny_pyIter_wide ha (go _ _ (Walks.strWide hh _ _ t) (fun i h hs => let ⟨o, ho, _⟩ := hs; ⟨o, ho⟩) ⟨_, Heap.get?_push_size _ rfl, rfl, rfl⟩)
  · exact wpAny_pyIter_ascii ha (go _ _ (Walks.strAscii hh _ _ t) (fun i h hs => let ⟨o, ho, _⟩ := hs; ⟨o, ho⟩) ⟨_, Heap.get?_push_size _ rfl, rfl, rfl⟩)
/-- over a list of the ledger -/
theorem iter_listJ {l : Addr} {vs : List Value} {ep : Nat} {m : Str → Option Value} {news : List (Addr × Obj)} (hh : A.handled = none) (F : Fr h₀ env.locals s.heap m) (N : News h₀ env.locals s.heap news) (J : Nat → (Str → Option Value) → List (Addr × Obj) → Prop) (h0 : J 0 m news)
    (hJl : ∀ i m nw, J i m nw → (l, W.listOf vs.toArray ep) ∈ nw)
    (turn : ∀ (i : Nat) (v : Value) (m₁ : Str → Option Value) (news₁ : List (Addr × Obj)) (I : Addr) (oI : Obj) (h₁ : Heap) (tk₁ : Nat), vs[i]? = some v → J i m₁ news₁ → (∀ p ∈ news₁, p.1 ≠ I) →
      Fr h₀ env.locals h₁ (fun z => if z = x then some v else m₁ z) → News h₀ env.locals h₁ ((I, oI) :: news₁) →
      wpAny (model prog w) A (execs body env) (LoopStepV h₀ env.locals [I] [(I, oI)] (J (i + 1)) { s with heap := h₁, toks := tk₁ } (fun v s' => Q (.ret v) s') fun s' => Q .next s') E { s with heap := h₁, toks := tk₁ })
    (done : ∀ h' tk m' news', Fr h₀ env.locals h' m' → News h₀ env.locals h' news' → J vs.length m' news' → Q .next { s with heap := h', toks := tk }) :
    wpAny (model prog w) A (pyIter (.ref l)) (fun it s₂ => LoopAtV prog w A h₀ env x body Q E it s₂) E s := by
  have hls := lst_is N (hJl _ _ _ h0)
  have hne : l ≠ s.heap.objs.size := Nat.ne_of_lt (Heap.lt_size (N _ (hJl _ _ _ h0)).1)
  refine wpAny_pyIter_list hls ?_
  refine loop_core (lo := [(l, W.listOf vs.toArray ep)]) _ (Walks.list hh s.heap.objs.size l hne vs.toArray) (fun i h hs => let ⟨⟨o, ho, _⟩, _⟩ := hs; ⟨o, ho⟩) ⟨⟨_, Heap.get?_push_size _ rfl, rfl, rfl⟩, hls.at fun o e => Heap.get?_push_of_some _ e⟩ F N J h0
    (fun i m nw hJ p hp => by rw [List.mem_singleton.mp hp]; exact hJl _ _ _ hJ) (fun i v m₁ news₁ I oI h₁ tk₁ hi hP hJ hoff F₁ N₁ => ?_) (fun h' tk m' news' F' N' hJ => done h' tk m' news' F' N' (by simpa using hJ))
  exact turn i v m₁ news₁ I oI h₁ tk₁ (by simpa using hP) hJ hoff F₁ N₁
theorem range_w (hh : A.handled = none) {I : Addr} (a : Int) (n : Nat) : Walks prog w A I [I] [I] n (fun i v => ∃ t, v = .int (a + (i : Int)) t) (fun i h => IsRangeIter h I (a + (i : Nat) * 1) ((n : Int) - (i : Nat)) 1) := LCg.range_walks hh a n
/-- over range(a, b) -/
theorem iter_rangeJ {a b : Int} {t u : Tok} {m : Str → Option Value} {news : List (Addr × Obj)} (hh : A.handled = none) (F : Fr h₀ env.locals s.heap m) (N : News h₀ env.locals s.heap news) (ha : 0 ≤ a) (ha' : a < 10000) (hb : 0 ≤ b) (hb' : b < 10000) (J : Nat → (Str → Option Value) → List (Addr × Obj) → Prop) (h0 : J 0 m news)
    (turn : ∀ (i : Nat) (t' : Tok) (m₁ : Str → Option Value) (news₁ : List (Addr × Obj)) (I : Addr) (oI : Obj) (h₁ : Heap) (tk₁ : Nat), a + i < b → J i m₁ news₁ → (∀ p ∈ news₁, p.1 ≠ I) →
      Fr h₀ env.locals h₁ (fun z => if z = x then some (.int (a + (i : Int)) t') else m₁ z) → News h₀ env.locals h₁ ((I, oI) :: news₁) →
      wpAny (model prog w) A (execs body env) (LoopStepV h₀ env.locals [I] [(I, oI)] (J (i + 1)) { s with heap := h₁, toks := tk₁ } (fun v s' => Q (.ret v) s') fun s' => Q .next s') E { s with heap := h₁, toks := tk₁ })
    (done : ∀ h' tk m' news', Fr h₀ env.locals h' m' → News h₀ env.locals h' news' → J (b - a).toNat m' news' → Q .next { s with heap := h', toks := tk }) :
    wpAny (model prog w) A (call (.type "range") [.int a t, .int b u]) (fun xv s₁ => wpAny (model prog w) A (pyIter xv) (fun it s₂ => LoopAtV prog w A h₀ env x body Q E it s₂) E s₁) E s := by
  refine call_range_2 (wpAny_pyIter_range (IsRange.new ..) (small_one (by omega) (by omega) (by omega) (by omega)) ?_)
  rw [rangeSize_nat]
  refine loop_core (s := { s with heap := _, toks := _ }) (lo := []) _ (range_w hh a (b - a).toNat) (fun i h hs => ⟨_, hs⟩) ?_ (F.push _) (fun p hp => ⟨Heap.get?_push_of_some _ (N p hp).1, (N p hp).2⟩) J h0 (fun _ _ _ _ _ hp => nomatch hp) (fun i v m₁ news₁ I oI h₁ tk₁ hi hP hJ hoff F₁ N₁ => ?_) (fun h' tk m' news' F' N' hJ => done h' tk m' news' F' N' hJ)
  · have e1 : a + ((0 : Nat) : Int) * 1 = a := by omega
    have e2 : (((b - a).toNat : Nat) : Int) - ((0 : Nat) : Int) = ((b - a).toNat : Nat) := by omega
    show IsRangeIter _ _ (a + ((0 : Nat) : Int) * 1) _ 1
    rw [e1, e2]
    exact Heap.get?_push_size _ rfl
  · obtain ⟨t', rfl⟩ := hP
    exact turn i t' m₁ news₁ I oI h₁ tk₁ (by omega) hJ hoff F₁ N₁
end
end Mine
end
section
open PySem PySem.W PySem.Spec PySem.Calls PyProof.Rows
set_option maxRecDepth 100000
set_option maxHeartbeats 1000000
namespace Mine
section
variable {prog : Program} {w : World} {A : Around} {E : Value → Shared → Prop} {s : Shared} {env : Env} {h₀ : Heap} {body : List Stmt} {Q : Flow → Shared → Prop}
theorem pair_in {xk xv : Str} {pk pv pt : Pos} {x1 : Nat} {T : Addr} {a b : Value} {m : Str → Option Value} {news : List (Addr × Obj)} {Q : Unit → Shared → Prop} (hh : A.handled = none) (hxk : env.kindOf xk = some .local) (hxv : env.kindOf xv = some .local)
    (hp : (env.scope.kind == .class || (env.scope.kind == .module && env.locals != env.globals)) = false) (F : Fr h₀ env.locals s.heap m) (N : News h₀ env.locals s.heap news) (ht : s.heap.IsTuple T #[a, b])
    (h : ∀ h' tk, Fr h₀ env.locals h' (fun z => if z = xv then some b else if z = xk then some a else m z) → News h₀ env.locals h' news → Q () { s with heap := h', toks := tk }) :
    wpAny (model prog w) A (assign (.Tuple [.Name xk pk, .Name xv pv] x1 pt) env (.ref T)) Q E s := by
  refine wpAny_assign_Tuple hh ht rfl rfl fun h₁ hx => ?_
  have up : ∀ b o, s.heap.get? b = some o → h₁.get? b = some o := fun b o e => hx b o (Nat.ne_of_lt (Heap.lt_size e)) e
  have F₁ : Fr h₀ env.locals h₁ m := ⟨F.ns.at' fun o e => up _ o e, fun b o e => up b o (F.keep b o e), F.above⟩
  have N₁ : News h₀ env.locals h₁ news := fun p hp => ⟨up _ _ (N p hp).1, (N p hp).2⟩
  show wpAny _ _ (do holding [b] (assign (.Name xk pk) env a); do holding [] (assign (.Name xv pv) env b); pure ()) _ _ _
  refine wpAny_bind (wpAny_holding (wpAny_assign_Name (wpAny_storeName_local hxk F₁.ns (fun h₂ n₂ s₂ => ?_) hp)))
  have F₂ := F₁.set n₂ s₂
  have N₂ := N₁.set s₂
  refine wpAny_bind (wpAny_holding (wpAny_assign_Name (wpAny_storeName_local hxv F₂.ns (fun h₃ n₃ s₃ => wpAny_pure ?_) hp)))
  exact h h₃ _ (F₂.set n₃ s₃) (N₂.set s₃)
theorem iter_itemsE {xk xv : Str} {pk pv pt : Pos} {x1 : Nat} {d vw : Addr} {od : Obj} {vs : List (Value × Value)} {ep : Nat} {m : Str → Option Value} {news : List (Addr × Obj)} (hh : A.handled = none) (hxk : env.kindOf xk = some .local) (hxv : env.kindOf xv = some .local)
    (hp : (env.scope.kind == .class || (env.scope.kind == .module && env.locals != env.globals)) = false) (F : Fr h₀ env.locals s.heap m) (N : News h₀ env.locals s.heap news)
    (hvw : s.heap.IsItemsView vw d) (hc : od.ExactDict) (hd : od.data = .dict (entsOf prog w vs).toArray ep) (hk : allStrKeys vs = true) (hn : ((strPairs vs).map (·.1)).Nodup)
    (J : Nat → (Str → Option Value) → List (Addr × Obj) → Prop) (h0 : J 0 m news) (hJl : ∀ i m nw, J i m nw → (d, od) ∈ nw)
    (turn : ∀ (i : Nat) (p : Value × Value) (m₁ : Str → Option Value) (news₁ : List (Addr × Obj)) (I : Addr) (oI : Obj) (h₁ : Heap) (tk₁ : Nat), vs[i]? = some p → J i m₁ news₁ → (∀ p ∈ news₁, p.1 ≠ I) →
      Fr h₀ env.locals h₁ (fun z => if z = xv then some p.2 else if z = xk then some p.1 else m₁ z) → News h₀ env.locals h₁ ((I, oI) :: news₁) →
      wpAny (model prog w) A (execs body env) (LoopStepV h₀ env.locals [I] [(I, oI)] (J (i + 1)) { s with heap := h₁, toks := tk₁ } (fun v s' => Q (.ret v) s') fun s' => Q .next s') E { s with heap := h₁, toks := tk₁ })
    (done : ∀ h' tk m' news', Fr h₀ env.locals h' m' → News h₀ env.locals h' news' → J vs.length m' news' → Q .next { s with heap := h', toks := tk }) :
    wpAny (model prog w) A (pyIter (.ref vw)) (fun it s₂ => TurnsAt prog w A h₀ env (.Tuple [.Name xk pk, .Name xv pv] x1 pt) body Q E it s₂) E s := by
  have hdg := (N _ (hJl _ _ _ h0)).1
  have hX : DictX prog w s.heap d vs ep := ⟨od, hdg, hc, hd⟩
  have hne : d ≠ s.heap.objs.size := Nat.ne_of_lt (Heap.lt_size hdg)
  refine wpAny_pyIter_items hvw (hX.at hk hn) ?_
  have hI₀ : h₀.get? s.heap.objs.size = none := by
    cases e : h₀.get? s.heap.objs.size with
    | none => rfl
    | some o' => exact absurd (Heap.lt_size (F.keep _ _ e)) (Nat.lt_irrefl _)
  have hLI : env.locals ≠ s.heap.objs.size := Nat.ne_of_lt F.ns.lt
  have hLf : env.locals ∉ [s.heap.objs.size, d] := fun h => by
    rcases List.mem_cons.mp h with h | h
    · exact hLI h
    · exact (N _ (hJl _ _ _ h0)).2.1 (List.mem_singleton.mp h).symm
  refine ⟨s.heap.objs.size, _, [s.heap.objs.size], _, _, _, _, m, news, J, rfl, itemsE hh s.heap.objs.size d hne vs ep hk hn, hLf, by simpa using hI₀, fun p hp => by simpa using Nat.ne_of_lt (Heap.lt_size (N p hp).1), ⟨⟨.none, .none, ?_⟩, hX.keep fun o e => Heap.get?_push_of_some _ e⟩, F.push _, fun p hp => ⟨Heap.get?_push_of_some _ (N p hp).1, (N p hp).2⟩, h0, ?_, ?_⟩
  · rw [← strPairs_len vs hk]
    exact Heap.get?_push_size _ rfl
  · rintro i v m₁ news₁ h₁ tk₁ own hi ⟨T, p, rfl, hpi, hT⟩ hJ hoff hsub hget hall ⟨⟨ok, ov, hst⟩, hX₁⟩ F₁ N₁
    have hoff' : ∀ p ∈ news₁, p.1 ≠ s.heap.objs.size := fun p hp => by simpa using hoff p hp
    obtain ⟨oI, hoI⟩ : ∃ o, h₁.get? s.heap.objs.size = some o := ⟨_, hst⟩
    have hN : News h₀ env.locals h₁ ((s.heap.objs.size, oI) :: news₁) := fun p hp => by
      rcases List.mem_cons.mp hp with rfl | hp
      · exact ⟨hoI, Ne.symm hLI, hI₀⟩
      · exact N₁ p (List.mem_append_right _ hp)
    refine pair_in hh hxk hxv hp F₁ hN hT fun h₂ tk₂ F₂ N₂ => ?_
    refine wpAny_mono (turn i p m₁ news₁ s.heap.objs.size oI h₂ tk₂ hpi hJ hoff' F₂ N₂) (fun f s₂ h₂' => ?_) fun _ _ e => e
    have conv : ∀ (s₂ : Shared), LoopStepU h₀ env.locals [s.heap.objs.size] [(s.heap.objs.size, oI)] (J (i + 1)) { s with heap := h₂, toks := tk₂ } .next s₂ → LoopStepU h₀ env.locals [s.heap.objs.size] own (J (i + 1)) { s with heap := h₁, toks := tk₁ } .next s₂ := by
      rintro s₂ ⟨_, h', tk, m₂, news₂, rfl, F₃, N₃, ha, hJ₂⟩
      refine ⟨rfl, h', tk, m₂, news₂, rfl, F₃, fun p hp => ?_, ha, hJ₂⟩
      rcases List.mem_append.mp hp with hp | hp
      · have e2 := hget p hp
        rcases List.mem_cons.mp (hsub p hp) with e1 | e1
        · rw [e1] at e2
          have e4 : p = (s.heap.objs.size, oI) := Prod.ext e1 (Option.some.inj (e2.symm.trans hoI))
          rw [e4]; exact N₃ _ (List.mem_append_left _ (List.mem_singleton.mpr rfl))
        · have e1' : p.1 = d := List.mem_singleton.mp e1
          have k1 := N₃ _ (List.mem_append_right _ (hJl _ _ _ hJ₂))
          have k0 := (N₁ _ (List.mem_append_right own (hJl _ _ _ hJ))).1
          rw [e1'] at e2
          have e4 : p = (d, od) := Prod.ext e1' (Option.some.inj (e2.symm.trans k0))
          rw [e4]; exact k1
      · exact N₃ p (List.mem_append_right _ hp)
    cases f with
    | ret v => exact h₂'
    | brk => exact h₂'
    | cont => exact conv _ h₂'
    | next => exact conv _ h₂'
  · intro h' tk m' news' F' N' hoff hJ
    exact done h' tk m' news' F' N' hJ
end
end Mine
end
section
open PySem PySem.W PySem.Spec PySem.Calls PyProof.Rows PyProof.Rows.LCg
set_option maxRecDepth 100000
set_option maxHeartbeats 1000000
namespace Mine
section
variable {prog : Program} {w : World} {A : Around} {E : Value → Shared → Prop} {s : Shared}
/-- what stands behind a clause's tests, one at most -/
noncomputable def Tests (prog : Program) (w : World) (A : Around) (ifs : List Expr) (env : Env) (k : Bool → Shared → Prop) (E : Value → Shared → Prop) (s : Shared) : Prop := match ifs with
  | [] => k true s
  | c :: _ => wpAny (model prog w) A (isTrue c env (eval c env)) k E s
theorem Tests.go {ifs : List Expr} {env : Env} {k : Bool → Shared → Prop} (hl : ifs.length ≤ 1) (h : Tests prog w A ifs env k E s) :
    wpAny (model prog w) A (forIn ifs true fun c r => if r = true then do let ok ← isTrue c env (eval c env); pure (ForInStep.yield ok) else pure (ForInStep.yield r)) k E s := by
  rcases ifs with _ | ⟨c, _ | ⟨d, r⟩⟩
  · exact wpAny_tests_nil h
  · exact wpAny_tests_one h
  · simp only [List.length_cons] at hl; omega
theorem Tests.mono {ifs : List Expr} {env : Env} {k k' : Bool → Shared → Prop} {E' : Value → Shared → Prop} (h : Tests prog w A ifs env k E' s) (hk : ∀ b s, k b s → k' b s) (hE : ∀ e s, E' e s → E e s) : Tests prog w A ifs env k' E s := by
  cases ifs with
  | nil => exact hk _ _ h
  | cons c r => exact wpAny_mono h hk hE
theorem comp_loop {elt target iter : Expr} {ifs : List Expr} {scope : Scope} {pos : Pos} {it acc : Value} {env : Env} {R : Result → Shared → Prop} (hl : ifs.length ≤ 1) (I : Nat → Shared → Prop)
    (turn : ∀ n s, I n s → wpAny (model prog w) A (pyNext it) (fun r s₁ => match r with
      | none => R (.ok .next) s₁
      | some v => wpAny (model prog w) A (letOwnedTupleGo target it v) (fun _ s₀ => wpAny (model prog w) A (assign target env v) (fun _ s₂ =>
          Tests prog w A ifs env (fun ok s₃ => if ok = true then wpAny (model prog w) A (eval elt env) (fun x s₄ =>
            wpAny (model prog w) A (call (.builtin "list.append") [acc, x]) (fun _ s₅ => ∃ m, m < n ∧ I m s₅) (notedBy (model prog w) A env fun e s' => R (.error e) s') s₄) (notedBy (model prog w) A env fun e s' => R (.error e) s') s₃ else ∃ m, m < n ∧ I m s₃) (notedBy (model prog w) A env fun e s' => R (.error e) s') s₂)
          (notedBy (model prog w) A env fun e s' => R (.error e) s') s₀) (notedBy (model prog w) A env fun e s' => R (.error e) s') s₁) (notedBy (model prog w) A env fun e s' => R (.error e) s') s)
    (n : Nat) (h : I n s) : codeAny (model prog w) A (.compLoop (.ListComp elt [⟨target, iter, ifs, 0⟩] scope pos) 0 it acc env) R s := by
  refine codeAny_loop rfl I (fun n s hI => ?_) n h
  show wpAny _ A ((compTurn (.ListComp elt [⟨target, iter, ifs, 0⟩] scope pos) 0 it acc env).onRaise (fun x => do noteFrame x env; theTreesLotGoes x)) _ _ s
  refine wpAny_noted ?_
  rw [compTurn_list]
  refine wpAny_bind (wpAny_standAt (wpAny_bind (wpAny_mono (turn n s hI) (fun r s₁ h₁ => ?_) fun _ _ h' => h')))
  cases r with
  | none => exact wpAny_pure h₁
  | some v =>
    refine wpAny_bind (wpAny_mono h₁ (fun _ s₀ h₀' => ?_) fun _ _ h' => h')
    refine wpAny_bind (wpAny_mono h₀' (fun _ s₂ h₂ => ?_) fun _ _ h' => h')
    refine wpAny_bind (wpAny_mono (Tests.go hl h₂) (fun ok s₃ h₃ => ?_) fun _ _ h' => h')
    cases ok with
    | true =>
      have h₃' := h₃
      simp only [if_true] at h₃' ⊢
      exact wpAny_bind (wpAny_bind (wpAny_mono h₃' (fun x s₄ h₄ => wpAny_bind (wpAny_mono h₄ (fun _ s₅ h₅ => wpAny_pure (wpAny_pure ⟨rfl, h₅⟩)) fun _ _ h' => h')) fun _ _ h' => h'))
    | false =>
      have h₃' := h₃
      simp only [Bool.false_eq_true, if_false] at h₃' ⊢
      first | exact wpAny_pure ⟨rfl, h₃'⟩ | exact wpAny_bind (wpAny_pure (wpAny_pure ⟨rfl, h₃'⟩))
end
end Mine
end
section
open PySem PySem.W PySem.Spec PySem.Calls PyProof.Rows PyProof.Rows.LCg
set_option maxRecDepth 100000
set_option maxHeartbeats 1000000
namespace Mine
noncomputable def CEnd (h₀ : Heap) (L : Addr) (m : Str → Option Value) (s₁ : Shared) (own : List (Addr × Obj)) (Jn : List (Addr × Obj) → Prop) (s₂ : Shared) : Prop :=
  ∃ h' tk news', s₂ = { s₁ with heap := h', toks := tk } ∧ Fr h₀ L h' m ∧ News h₀ L h' (own ++ news') ∧ (∀ p ∈ news', ∀ q ∈ own, p.1 ≠ q.1) ∧ Jn news'
theorem CEnd.intro {h₀ h' : Heap} {L : Addr} {m : Str → Option Value} {s₁ : Shared} {own all : List (Addr × Obj)} {Jn : List (Addr × Obj) → Prop} {tk : Nat} (F : Fr h₀ L h' m) (N : News h₀ L h' all) (news' : List (Addr × Obj)) (hs : ∀ p ∈ own ++ news', p ∈ all) (off : ∀ p ∈ news', ∀ q ∈ own, p.1 ≠ q.1) (hJ : Jn news') :
    CEnd h₀ L m s₁ own Jn { s₁ with heap := h', toks := tk } := ⟨h', tk, news', rfl, F, fun p hp => N p (hs p hp), off, hJ⟩
/-- one turn of a comprehension -/
noncomputable def Turn (prog : Program) (w : World) (A : Around) (h₀ : Heap) (L : Addr) (m : Str → Option Value) (env : Env) (elt : Expr) (ifs : List Expr) (scope : Scope) (cl : List (Str × Addr)) (s : Shared) (n : Nat) (B : Nat → (Str → Option Value) → Prop) (J : Nat → List Value → List (Addr × Obj) → Prop) (wr : List Addr) : Prop :=
  ∀ (i : Nat) (ys : List Value) (news₁ : List (Addr × Obj)) (C : Addr) (oC : Obj) (D : Addr) (m₂ : Str → Option Value) (h : Heap) (tk : Nat) (its : List (Addr × Obj)) (E' : Value → Shared → Prop), i < n → J i ys news₁ → its.map (·.1) = wr → NsObj oC m₂ → B i m₂ → Fr h₀ L h m → News h₀ L h (its ++ [(C, oC), (D, lst ys)] ++ news₁) →
    (∀ p ∈ news₁, ∀ q ∈ its ++ [(C, oC), (D, lst ys)], p.1 ≠ q.1) → C ∉ wr → D ∉ wr → @Ne Nat C D →
    Tests prog w A ifs (compEnvC scope cl C env) (fun ok s₃ => if ok = true then wpAny (model prog w) A (eval elt (compEnvC scope cl C env)) (fun y s₄ => CEnd h₀ L m { s with heap := h, toks := tk } (its ++ [(C, oC), (D, lst ys)]) (J (i + 1) (ys ++ [y])) s₄) E' s₃
      else CEnd h₀ L m { s with heap := h, toks := tk } (its ++ [(C, oC), (D, lst ys)]) (J (i + 1) ys) s₃) E' { s with heap := h, toks := tk }
theorem its_of {h : Heap} : ∀ (wr : List Addr), (∀ b ∈ wr, ∃ o, h.get? b = some o) → ∃ its : List (Addr × Obj), its.map (·.1) = wr ∧ ∀ p ∈ its, h.get? p.1 = some p.2
  | [], _ => ⟨[], rfl, fun p hp => nomatch hp⟩
  | b :: r, hob => by
    obtain ⟨its, h1, h2⟩ := its_of r fun b hb => hob b (.tail _ hb)
    obtain ⟨o, e⟩ := hob b (.head _)
    refine ⟨(b, o) :: its, by rw [List.map_cons, h1], fun p hp => ?_⟩
    rcases List.mem_cons.mp hp with rfl | hp
    · exact e
    · exact h2 p hp
theorem off1_of {D : Addr} : ∀ {l : List (Addr × Obj)}, (∀ p ∈ l, p.1 ≠ D) → Off1 D l
  | [], _ => trivial
  | p :: r, h => ⟨h p (.head _), off1_of fun q hq => h q (.tail _ hq)⟩
theorem off1_at {D : Addr} : ∀ {l : List (Addr × Obj)}, Off1 D l → ∀ p ∈ l, p.1 ≠ D
  | [], _, _, hp => nomatch hp
  | p :: r, h, q, hq => by
    rcases List.mem_cons.mp hq with rfl | hq
    · exact h.1
    · exact off1_at h.2 q hq
section
variable {prog : Program} {w : World} {A : Around} {E : Value → Shared → Prop} {s : Shared} {h₀ : Heap} {L : Addr} {m : Str → Option Value} {env : Env}
theorem comp_block {elt target iter : PySem.Expr} {ifs : List Expr} {scope : Scope} {cl : List (Str × Addr)} {pos : Pos} {s₂ : Shared} {I : Addr} {fp wr : List Addr} {n : Nat} {P Md : Nat → Value → Heap → Prop} {St : Nat → Heap → Prop} {lo news : List (Addr × Obj)}
    {B : Nat → (Str → Option Value) → Prop} {J : Nat → List Value → List (Addr × Obj) → Prop} {RR : Value → Addr → Result → Shared → Prop} (hl : ifs.length ≤ 1)
    (W : KTurns prog w A target I fp wr n P Md St) (hself : ∀ (s : Shared) (Q : Value → Shared → Prop) (E : Value → Shared → Prop), St 0 s.heap → Q (.ref I) s → wpAny (model prog w) A (pyIter (.ref I)) Q E s)
    (hasg : ∀ i v (s : Shared) (Q : Unit → Shared → Prop) (E : Value → Shared → Prop) C m₂, P i v s.heap → s.heap.Ns C m₂ → (∀ h' tk m₃, h'.Ns C m₃ → B i m₃ → (∀ c o, c ≠ C → s.heap.get? c = some o → h'.get? c = some o) → Q () { s with heap := h', toks := tk }) → wpAny (model prog w) A (assign target (compEnvC scope cl C env) v) Q E s)
    (hobj : ∀ i h, St i h → ∀ b ∈ wr, ∃ o, h.get? b = some o) (hfp : ∀ b ∈ fp, b ∈ wr ∨ ∃ o, (b, o) ∈ lo) (hn : n ≤ sizeLine)
    (hcell : ∀ y ∈ scope.names, y.2 ≠ .cell) (hkind : scope.kind = .function) (hst : St 0 s₂.heap)
    (F : Fr h₀ L s₂.heap m) (N : News h₀ L s₂.heap news) (hLw : L ∉ wr) (hw₀ : ∀ b ∈ wr, h₀.get? b = none) (off : ∀ p ∈ news, p.1 ∉ wr)
    (h0 : J 0 [] news) (hJl : ∀ i ys nw, J i ys nw → ∀ p ∈ lo, p ∈ nw) (R : Turn prog w A h₀ L m env elt ifs scope cl s₂ n B J wr)
    (hRR : ∀ D C h tk m' ys news', Fr h₀ L h m → News h₀ L h ((D, lst ys) :: news') → Off1 D news' → h.Ns C m' → h₀.get? C = none → h₀.get? D = none → C ≠ L → D ≠ L → C ≠ D → (∀ p ∈ news', p.1 ≠ C) → J n ys news' → RR (.ref D) C (.ok .next) { s₂ with heap := h, toks := tk }) :
    wpAny (model prog w) A (newList []) (fun acc s₃ => wpAny (model prog w) A (newFunctionEnv scope env.globals cl [] env.qual none .none (some env)) (fun cenv s₄ =>
      codeAny (model prog w) A (.compStart (.ListComp elt [⟨target, iter, ifs, 0⟩] scope pos) 0 (.ref I) acc { cenv with scope := relabel scope env }) (RR acc cenv.locals) s₄) E s₃) E s₂ := by
  refine wpAny_newObj_type (wpAny_newFunctionEnv hcell (by intro y hy; simp at hy) (fun h₁ hns₁ hsb₁ => ?_) hkind)
  dsimp only at hns₁ hsb₁ ⊢
  generalize hH2 : s₂.heap.push { cls := .type "list", dict := none, data := .seq ([] : List Value).toArray } = H2 at hns₁ hsb₁ ⊢
  have hC : H2.objs.size = s₂.heap.objs.size + 1 := by rw [← hH2, Heap.size_push]
  have hDC : s₂.heap.objs.size ≠ H2.objs.size := by rw [hC]; exact Nat.ne_of_lt (Nat.lt_succ_self _)
  have below : ∀ b, b < s₂.heap.objs.size → b ≠ H2.objs.size ∧ b ≠ s₂.heap.objs.size := fun b hb => ⟨by rw [hC]; exact Nat.ne_of_lt (Nat.lt_succ_of_lt hb), Nat.ne_of_lt hb⟩
  have hwlt : ∀ b ∈ wr, b < s₂.heap.objs.size := fun b hb => by obtain ⟨o, e⟩ := hobj 0 _ hst b hb; exact Heap.lt_size e
  have old : ∀ b o, s₂.heap.get? b = some o → h₁.get? b = some o := fun b o e => hsb₁.extBut b o (below b (Heap.lt_size e)).1 (Heap.get?_push_of_some _ (hH2 ▸ Heap.get?_push_of_some _ e))
  have hacc : h₁.get? s₂.heap.objs.size = some (lst []) := hsb₁.extBut _ _ hDC (Heap.get?_push_of_some _ (hH2 ▸ Heap.get?_push_size _ rfl))
  have hst₁ : St 0 h₁ := W.frame 0 _ _ hst fun b _ o e => old b o e
  have fresh₀ : ∀ a, s₂.heap.objs.size ≤ a → h₀.get? a = none := fun a ha => by
    cases e : h₀.get? a with
    | none => rfl
    | some o' => exact absurd (Heap.lt_size (F.keep a o' e)) (Nat.not_lt.mpr ha)
  have hD₀ : h₀.get? s₂.heap.objs.size = none := fresh₀ _ (Nat.le_refl _)
  have hC₀ : h₀.get? H2.objs.size = none := fresh₀ _ (by rw [hC]; exact Nat.le_succ _)
  have hLlt : L < s₂.heap.objs.size := F.ns.lt
  have hDL : s₂.heap.objs.size ≠ L := Ne.symm (below L hLlt).2
  have hCL : H2.objs.size ≠ L := Ne.symm (below L hLlt).1
  have hCw : H2.objs.size ∉ wr := fun h => (below _ (hwlt _ h)).1 rfl
  have hDw : s₂.heap.objs.size ∉ wr := fun h => (below _ (hwlt _ h)).2 rfl
  have hwr₀ : ∀ b o, h₀.get? b = some o → b ∉ wr := fun b o e hb => by rw [hw₀ b hb] at e; cases e
  have loop : ∀ s₃ : Shared, s₃ = { s₂ with heap := h₁, toks := s₂.toks + ([] : List (Str × Value)).length } →
      codeAny (model prog w) A (.compLoop (.ListComp elt [⟨target, iter, ifs, 0⟩] scope pos) 0 (.ref I) (.ref s₂.heap.objs.size) (compEnvC scope cl H2.objs.size env))
        (RR (.ref s₂.heap.objs.size) H2.objs.size) s₃ := by
    rintro s₃ rfl
    refine comp_loop hl
      (fun k s' => ∃ h' tk i ys m' news', s' = { s₂ with heap := h', toks := tk } ∧ i ≤ n ∧ k = n + 1 - i ∧ ys.length ≤ i ∧ St i h' ∧ Fr h₀ L h' m ∧ h'.Ns H2.objs.size m' ∧
        News h₀ L h' ((s₂.heap.objs.size, lst ys) :: news') ∧ (∀ p ∈ news', p.1 ∉ wr ∧ p.1 ≠ H2.objs.size ∧ p.1 ≠ s₂.heap.objs.size) ∧ J i ys news') ?_ (n + 1)
      ⟨h₁, _, 0, [], _, news, rfl, Nat.zero_le _, rfl, Nat.le_refl _, hst₁, F.keeps old, hns₁, fun p hp => ?_, fun p hp => ⟨off p hp, below _ (Heap.lt_size (N p hp).1)⟩, h0⟩
    · rintro k s' ⟨h', tk, i, ys, m', news', rfl, hi, rfl, hyl, hst', F', hn', N', off', hJ⟩
      by_cases hlt : i < n
      · refine W.item i _ _ _ hlt hst' fun v h₂ tk₂ hMd hk₂ => ?_
        refine W.go i v _ _ _ hMd fun h₃ hP hst₃ hk₃ => ?_
        have up₃ : ∀ c o, c ∉ wr → h'.get? c = some o → h₃.get? c = some o := fun c o hc e => hk₃ c o hc (hk₂ c o hc e)
        refine hasg i v _ _ _ H2.objs.size m' hP (hn'.at' fun o e => up₃ _ o hCw e) fun h₄ tk₄ m₃ hn₄ hB hs₄ => ?_
        have up : ∀ c o, c ∉ wr → c ≠ H2.objs.size → h'.get? c = some o → h₄.get? c = some o := fun c o h1 h2 e => hs₄ c o h2 (up₃ c o h1 e)
        obtain ⟨oC, heC, hoC⟩ := ns_obj hn₄
        have F₄ : Fr h₀ L h₄ m := ⟨F'.ns.at' fun o e => up _ o hLw (Ne.symm hCL) e, fun c o e => up c o (hwr₀ c o e) (fun q => by rw [q, hC₀] at e; cases e) (F'.keep c o e), F'.above⟩
        obtain ⟨its, hits, hitg⟩ := its_of (h := h₄) wr fun b hb => by
          obtain ⟨o, e⟩ := hobj _ _ hst₃ b hb
          exact ⟨o, hs₄ b o (fun q => hCw (q ▸ hb)) e⟩
        have hiw : ∀ p ∈ its, p.1 ∈ wr := fun p hp => hits ▸ List.mem_map.mpr ⟨p, hp, rfl⟩
        have N₄ : News h₀ L h₄ (its ++ [(H2.objs.size, oC), (s₂.heap.objs.size, lst ys)] ++ news') := fun q hq => by
          simp only [List.mem_append, List.mem_cons, List.not_mem_nil, or_false] at hq
          rcases hq with (hq | rfl | rfl) | hq
          · exact ⟨hitg q hq, fun e => hLw (e ▸ hiw q hq), hw₀ _ (hiw q hq)⟩
          · exact ⟨heC, hCL, hC₀⟩
          · have z := N' _ (.head _)
            exact ⟨up _ _ hDw hDC z.1, z.2⟩
          · have z := N' q (.tail _ hq)
            exact ⟨up _ _ (off' q hq).1 (off' q hq).2.1 z.1, z.2⟩
        have offT : ∀ p ∈ news', ∀ q ∈ its ++ [(H2.objs.size, oC), (s₂.heap.objs.size, lst ys)], p.1 ≠ q.1 := fun p hp q hq e => by
          simp only [List.mem_append, List.mem_cons, List.not_mem_nil, or_false] at hq
          rcases hq with hq | rfl | rfl
          · exact (off' p hp).1 (e ▸ hiw q hq)
          · exact (off' p hp).2.1 e
          · exact (off' p hp).2.2 e
        have fin : ∀ (zs : List Value) (s₅ : Shared), zs.length ≤ i + 1 → CEnd h₀ L m { s₂ with heap := h₄, toks := tk₄ } (its ++ [(H2.objs.size, oC), (s₂.heap.objs.size, lst ys)]) (J (i + 1) zs) s₅ →
            ∀ (h₆ : Heap) (tk₆ : Nat), (∀ b o, b ≠ s₂.heap.objs.size → s₅.heap.get? b = some o → h₆.get? b = some o) → Heap.SameBut s₂.heap.objs.size s₅.heap h₆ → h₆.get? s₂.heap.objs.size = some (lst zs) →
            ∃ k', k' < n + 1 - i ∧ ∃ h' tk i ys m' news', ({ s₅ with heap := h₆, toks := tk₆ } : Shared) = { s₂ with heap := h', toks := tk } ∧ i ≤ n ∧ k' = n + 1 - i ∧ ys.length ≤ i ∧ St i h' ∧ Fr h₀ L h' m ∧ h'.Ns H2.objs.size m' ∧
              News h₀ L h' ((s₂.heap.objs.size, lst ys) :: news') ∧ (∀ p ∈ news', p.1 ∉ wr ∧ p.1 ≠ H2.objs.size ∧ p.1 ≠ s₂.heap.objs.size) ∧ J i ys news' := by
          rintro zs s₅ hzl ⟨h₅, tk₅, news₅, rfl, F₅, N₅, off₅, hJ₅⟩ h₆ tk₆ hk₆ hs₆ hD₆
          have zC := (N₅ (H2.objs.size, oC) (by simp)).1
          have N₅' : ∀ q ∈ news₅, _ := fun q hq => N₅ q (List.mem_append_right _ hq)
          have offD : ∀ q ∈ news₅, q.1 ≠ s₂.heap.objs.size := fun q hq => off₅ q hq (s₂.heap.objs.size, lst ys) (by simp)
          have offC : ∀ q ∈ news₅, q.1 ≠ H2.objs.size := fun q hq => off₅ q hq (H2.objs.size, oC) (by simp)
          refine ⟨n + 1 - (i + 1), by omega, h₆, tk₆, i + 1, zs, m₃, news₅, rfl, hlt, rfl, hzl, ?_, F₅.change hs₆ hDL hD₀, (hoC.ns zC).sameBut hs₆ (Ne.symm hDC), fun q hq => ?_, fun q hq => ⟨fun hw => ?_, offC q hq, offD q hq⟩, hJ₅⟩
          · refine W.frame _ _ _ hst₃ fun b hb o e => ?_
            rcases hfp b hb with hbw | ⟨ob, hbl⟩
            · have e4 : h₄.get? b = some o := hs₄ b o (fun q => hCw (q ▸ hbw)) e
              obtain ⟨q, hq, hqe⟩ := List.mem_map.mp (hits ▸ hbw)
              have e5 := hitg q hq
              rw [hqe] at e5
              have e6 : q.2 = o := Option.some.inj (e5.symm.trans e4)
              have e7 := (N₅ q (by simp [hq])).1
              rw [hqe, e6] at e7
              exact hs₆.extBut b o (fun q => hDw (q ▸ hbw)) e7
            · have l1 := hJl _ _ _ hJ _ hbl
              have l2 := hJl _ _ _ hJ₅ _ hbl
              have e4 : h₄.get? b = some o := hs₄ b o (off' _ l1).2.1 e
              have e5 := (N₄ _ (List.mem_append_right _ l1)).1
              have e6 : ob = o := Option.some.inj (e5.symm.trans e4)
              have e7 := (N₅' _ l2).1
              rw [e6] at e7
              exact hs₆.extBut b o (offD _ l2) e7
          · rcases List.mem_cons.mp hq with rfl | hq
            · exact ⟨hD₆, hDL, hD₀⟩
            · exact ⟨hs₆.extBut _ _ (offD q hq) (N₅' q hq).1, (N₅' q hq).2⟩
          · obtain ⟨p, hp, hpe⟩ := List.mem_map.mp (hits ▸ hw)
            exact off₅ q hq p (by simp [hp]) hpe.symm
        refine Tests.mono (R i ys news' H2.objs.size oC s₂.heap.objs.size m₃ h₄ tk₄ its _ hlt hJ hits hoC hB F₄ N₄ offT hCw hDw (Ne.symm hDC)) (fun ok s₅ h₅ => ?_) fun _ _ e => e
        cases ok with
        | true =>
          simp only [if_true] at h₅ ⊢
          refine wpAny_mono h₅ (fun y s₅ h₅ => ?_) fun _ _ e => e
          have hh := h₅
          obtain ⟨h₅', tk₅, news₅, rfl, F₅, N₅, off₅, hJ₅⟩ := h₅
          have zD := (N₅ (s₂.heap.objs.size, lst ys) (by simp)).1
          refine append_at (hsz := by show ys.toArray.size ≤ sizeLine; rw [List.size_toArray]; omega) zD fun h₆ hs₆ hD₆ => ?_
          exact fin (ys ++ [y]) _ (by simp; omega) hh h₆ _ (fun b o hb e => hs₆.extBut b o hb e) hs₆ (hD₆.trans (congrArg some (lst_snoc ys y)))
        | false =>
          simp only [Bool.false_eq_true, if_false] at h₅ ⊢
          have hh := h₅
          obtain ⟨h₅', tk₅, news₅, rfl, F₅, N₅, off₅, hJ₅⟩ := h₅
          have zD := (N₅ (s₂.heap.objs.size, lst ys) (by simp)).1
          exact fin ys _ (by omega) hh h₅' _ (fun b o _ e => e) (Heap.SameBut.refl _ _) zD
      · have hin : i = n := Nat.le_antisymm hi (Nat.not_lt.mp hlt)
        subst hin
        refine W.done _ _ _ hst' fun h₂ tk₂ hk₂ => ?_
        refine hRR _ _ h₂ tk₂ _ ys news' ⟨F'.ns.at' fun o e => hk₂ _ o hLw e, fun b o e => hk₂ b o (hwr₀ b o e) (F'.keep b o e), F'.above⟩ (fun q hq => ?_) (off1_of fun q hq => (off' q hq).2.2) (hn'.at' fun o e => hk₂ _ o hCw e) hC₀ hD₀ hCL hDL (Ne.symm hDC) (fun p hp => (off' p hp).2.1) hJ
        have z := N' q hq
        rcases List.mem_cons.mp hq with rfl | hq
        · exact ⟨hk₂ _ _ hDw z.1, z.2⟩
        · exact ⟨hk₂ _ _ (off' q hq).1 z.1, z.2⟩
    · rcases List.mem_cons.mp hp with rfl | hp
      · exact ⟨hacc, hDL, hD₀⟩
      · exact ⟨old _ _ (N p hp).1, (N p hp).2⟩
  exact codeAny_compStart_list (loop _ rfl) (hself _ _ _ hst₁ (loop _ rfl))
end
end Mine
end
section
open PySem PySem.W PySem.Spec PySem.Calls PyProof.Rows PyProof.Rows.LCg
set_option maxRecDepth 100000
set_option maxHeartbeats 1000000
namespace Mine
/-- where a comprehension's iterator stands -/
structure CompAt (prog : Program) (w : World) (A : Around) (h₀ : Heap) (L : Addr) (m : Str → Option Value) (env : Env) (target elt : Expr) (ifs : List Expr) (scope : Scope) (cl : List (Str × Addr)) (Q : Value → Shared → Prop) (I : Addr) (s₂ : Shared) (fp wr : List Addr) (n : Nat) (P Md : Nat → Value → Heap → Prop) (St : Nat → Heap → Prop) (lo news : List (Addr × Obj))
    (B : Nat → (Str → Option Value) → Prop) (J : Nat → List Value → List (Addr × Obj) → Prop) : Prop where
  walk : KTurns prog w A target I fp wr n P Md St
  self : ∀ (s : Shared) (Q : Value → Shared → Prop) (E : Value → Shared → Prop), St 0 s.heap → Q (.ref I) s → wpAny (model prog w) A (pyIter (.ref I)) Q E s
  asg : ∀ i v (s : Shared) (Q : Unit → Shared → Prop) (E : Value → Shared → Prop) C m₂, P i v s.heap → s.heap.Ns C m₂ → (∀ h' tk m₃, h'.Ns C m₃ → B i m₃ → (∀ c o, c ≠ C → s.heap.get? c = some o → h'.get? c = some o) → Q () { s with heap := h', toks := tk }) → wpAny (model prog w) A (assign target (compEnvC scope cl C env) v) Q E s
  obj : ∀ i h, St i h → ∀ b ∈ wr, ∃ o, h.get? b = some o
  cov : ∀ b ∈ fp, b ∈ wr ∨ ∃ o, (b, o) ∈ lo
  size : n ≤ sizeLine
  start : St 0 s₂.heap
  fr : Fr h₀ L s₂.heap m
  nw : News h₀ L s₂.heap news
  wr₀ : ∀ b ∈ wr, h₀.get? b = none
  offL : L ∉ wr
  off : ∀ p ∈ news, p.1 ∉ wr
  j0 : J 0 [] news
  jl : ∀ i ys nw, J i ys nw → ∀ p ∈ lo, p ∈ nw
  turn : Turn prog w A h₀ L m env elt ifs scope cl s₂ n B J wr
  fin : ∀ D h tk ys news', Fr h₀ L h m → News h₀ L h ((D, lst ys) :: news') → (∀ p ∈ news', p.1 ≠ D) → J n ys news' → Q (.ref D) { s₂ with heap := h, toks := tk }
noncomputable def CompHere (prog : Program) (w : World) (A : Around) (h₀ : Heap) (L : Addr) (m : Str → Option Value) (env : Env) (target elt : Expr) (ifs : List Expr) (scope : Scope) (cl : List (Str × Addr)) (Q : Value → Shared → Prop) (it : Value) (s₂ : Shared) : Prop :=
  ∃ I fp wr n P Md St lo news B J, it = .ref I ∧ CompAt prog w A h₀ L m env target elt ifs scope cl Q I s₂ fp wr n P Md St lo news B J
section
variable {prog : Program} {w : World} {A : Around} {E : Value → Shared → Prop} {s : Shared} {h₀ : Heap} {L : Addr} {m : Str → Option Value} {env : Env}
theorem CompAt.here {target elt : Expr} {ifs : List Expr} {scope : Scope} {cl : List (Str × Addr)} {Q : Value → Shared → Prop} {I : Addr} {s₂ : Shared} {fp wr : List Addr} {n : Nat} {P Md : Nat → Value → Heap → Prop} {St : Nat → Heap → Prop} {lo news : List (Addr × Obj)}
    {B : Nat → (Str → Option Value) → Prop} {J : Nat → List Value → List (Addr × Obj) → Prop} (X : CompAt prog w A h₀ L m env target elt ifs scope cl Q I s₂ fp wr n P Md St lo news B J) : CompHere prog w A h₀ L m env target elt ifs scope cl Q (.ref I) s₂ :=
  ⟨I, fp, wr, n, P, Md, St, lo, news, B, J, rfl, X⟩
theorem comp_J {elt target iter : PySem.Expr} {ifs : List Expr} {scope : Scope} {cl : List (Str × Addr)} {pos : Pos} {Q : Value → Shared → Prop} (_F₀ : Fr h₀ L s.heap m) (hl : ifs.length ≤ 1)
    (hclos : closureFor scope env = pure cl) (hcell : ∀ y ∈ scope.names, y.2 ≠ .cell) (hkind : scope.kind = .function)
    (hnames : ∀ y ∈ scope.names, y.2 = .local → scope.names.lookup y.1 = some .local)
    (h : wpAny (model prog w) A (eval iter env) (fun xv s₁ => wpAny (model prog w) A (pyIter xv) (fun it s₂ => CompHere prog w A h₀ L m env target elt ifs scope cl Q it s₂) E s₁) E s)
    (hs : ∀ x, foldedSetIterable iter env x = pure x := by intro _; rfl) :
    wpAny (model prog w) A (eval (.ListComp elt [⟨target, iter, ifs, 0⟩] scope pos) env) Q E s := by
  rw [eval_ListComp]
  refine wpAny_comprehension_free (use := none) rfl hs hclos hkind hnames (wpAny_mono h (fun xv s₁ h₁ => wpAny_mono h₁ (fun it s₂ h₂ => ?_) fun _ _ e => e) fun _ _ e => e)
  obtain ⟨I, fp, wr, n, P, Md, St, lo, news, B, J, rfl, X⟩ := h₂
  refine comp_block hl X.walk X.self X.asg X.obj X.cov X.size hcell hkind X.start X.fr X.nw X.offL X.wr₀ X.off X.j0 X.jl X.turn ?_
  intro D C h tk m' ys news' F' N' o1 hn hC₀ hD₀ hCL hDL hCD offC fin
  refine ⟨m', hn, fun h'' hs'' => X.fin D h'' tk ys news' (F'.change hs'' hCL hC₀) (fun p hp => ?_) (off1_at o1) fin⟩
  refine ⟨hs''.extBut _ _ ?_ (N' p hp).1, (N' p hp).2⟩
  rcases List.mem_cons.mp hp with rfl | hp
  · exact Ne.symm hCD
  · exact offC p hp
theorem go_name {x : Str} {p : Pos} {it v : Value} {Q : Unit → Shared → Prop} (h : Q () s) : wpAny (model prog w) A (letOwnedTupleGo (.Name x p) it v) Q E s := by
  unfold letOwnedTupleGo
  exact wpAny_pure h
theorem asg_name {x : Str} {p : Pos} {scope : Scope} {cl : List (Str × Addr)} {C : Addr} {v : Value} {m₂ : Str → Option Value} {Q : Unit → Shared → Prop} (hkind : scope.kind = .function) (hx : scope.names.lookup x = some .local) (hn : s.heap.Ns C m₂)
    (h : ∀ h' tk, h'.Ns C (fun z => if z = x then some v else m₂ z) → (∀ c o, c ≠ C → s.heap.get? c = some o → h'.get? c = some o) → Q () { s with heap := h', toks := tk }) : wpAny (model prog w) A (assign (.Name x p) (compEnvC scope cl C env) v) Q E s := by
  refine wpAny_assign_Name (wpAny_storeName_local (env := compEnvC scope cl C env) (lookup_relabel_local hx) hn (fun h' hn' hs' => ?_) (by simp [compEnvC, relabel, hkind]))
  exact h h' _ hn' fun c o hc e => hs'.extBut c o hc e
theorem comp_core {elt : PySem.Expr} {ifs : List Expr} {x : Str} {px : Pos} {scope : Scope} {cl : List (Str × Addr)} {Q : Value → Shared → Prop} {n : Nat} {P : Nat → Value → Prop} {St : Nat → Heap → Prop} {lo news : List (Addr × Obj)} (o : Obj) (hkind : scope.kind = .function) (hx : scope.names.lookup x = some .local)
    (W : Walks prog w A s.heap.objs.size (s.heap.objs.size :: lo.map (·.1)) [s.heap.objs.size] n P St) (hSt : ∀ i h, St i h → ∃ o, h.get? s.heap.objs.size = some o) (hst : St 0 (s.heap.push o)) (hn : n ≤ sizeLine)
    (F : Fr h₀ L s.heap m) (N : News h₀ L s.heap news) (J : Nat → List Value → List (Addr × Obj) → Prop) (h0 : J 0 [] news) (hJl : ∀ i ys nw, J i ys nw → ∀ p ∈ lo, p ∈ nw)
    (turn : ∀ (I : Addr) (g : Heap), (∀ p ∈ news, p.1 < I) → Turn prog w A h₀ L m env elt ifs scope cl { s with heap := g } n (fun i m₂ => ∃ v, m₂ x = some v ∧ P i v) J [I])
    (fin : ∀ D h tk ys news', Fr h₀ L h m → News h₀ L h ((D, lst ys) :: news') → (∀ p ∈ news', p.1 ≠ D) → J n ys news' → Q (.ref D) { s with heap := h, toks := tk }) :
    CompHere prog w A h₀ L m env (.Name x px) elt ifs scope cl Q (.ref s.heap.objs.size) { s with heap := s.heap.push o } := by
  have hIL : L ≠ s.heap.objs.size := Nat.ne_of_lt F.ns.lt
  exact CompAt.here (fp := s.heap.objs.size :: lo.map (·.1)) (wr := [s.heap.objs.size]) (n := n) (P := fun i v _ => P i v) (Md := fun i v h => P i v ∧ St (i + 1) h) (St := St) (lo := lo) (news := news) (B := fun i m₂ => ∃ v, m₂ x = some v ∧ P i v) (J := J) {
    walk := KTurns.ofWalks W fun i v s Q E st q => go_name q
    self := fun s Q E st q => W.self 0 s Q E st q
    asg := fun i v s' Q' E' C m₂ hP hns hq => asg_name hkind hx hns fun h' tk hn' hs' => hq h' tk _ hn' ⟨v, by rw [if_pos rfl], hP⟩ hs'
    obj := fun i h st b hb => by rw [List.mem_singleton.mp hb]; exact hSt i h st
    cov := fun b hb => by
      rcases List.mem_cons.mp hb with h | h
      · exact .inl (List.mem_singleton.mpr h)
      · obtain ⟨p, hp, e⟩ := List.mem_map.mp h
        exact .inr ⟨p.2, e ▸ hp⟩
    size := hn
    start := hst
    fr := F.push _
    nw := fun p hp => ⟨Heap.get?_push_of_some _ (N p hp).1, (N p hp).2⟩
    wr₀ := fun b hb => by rw [List.mem_singleton.mp hb]; exact next_is_new F
    offL := by simpa using hIL
    off := fun p hp hw => absurd (Heap.lt_size (N p hp).1) ((List.mem_singleton.mp hw) ▸ Nat.lt_irrefl _)
    j0 := h0
    jl := hJl
    turn := turn _ _ fun p hp => Heap.lt_size (N p hp).1
    fin := fin }
/-- over range(n) -/
theorem comp_range {elt : PySem.Expr} {ifs : List Expr} {x : Str} {px : Pos} {scope : Scope} {cl : List (Str × Addr)} {Q : Value → Shared → Prop} {n : Nat} {t : Tok} {news : List (Addr × Obj)} (hh : A.handled = none) (hkind : scope.kind = .function) (hx : scope.names.lookup x = some .local)
    (F : Fr h₀ L s.heap m) (N : News h₀ L s.heap news) (hn : n < 10000) (JF : List (Addr × Obj) → Nat → List Value → List (Addr × Obj) → Prop) (h0 : JF news 0 [] news)
    (turn : ∀ (I : Addr) (g : Heap), (∀ p ∈ news, p.1 < I) → Turn prog w A h₀ L m env elt ifs scope cl { s with heap := g } n (fun i m₂ => ∃ v, m₂ x = some v ∧ ∃ u : Tok, v = .int (0 + (i : Int)) u) (JF news) [I])
    (fin : ∀ D h tk ys news', Fr h₀ L h m → News h₀ L h ((D, lst ys) :: news') → (∀ p ∈ news', p.1 ≠ D) → JF news n ys news' → Q (.ref D) { s with heap := h, toks := tk }) :
    wpAny (model prog w) A (call (.type "range") [.int n t]) (fun xv s₁ => wpAny (model prog w) A (pyIter xv) (fun it s₂ => CompHere prog w A h₀ L m env (.Name x px) elt ifs scope cl Q it s₂) E s₁) E s := by
  refine call_range_1 (wpAny_pyIter_range (IsRange.new ..) (small_one (by omega) (by omega) (by omega) (by omega)) ?_)
  have e : (Builtin.Range.rangeSize 0 (n : Int) 1) = (n : Int) := by
    have := rangeSize_nat 0 (n : Int)
    rw [this]; omega
  rw [e]
  refine comp_core (s := { s with heap := _, toks := _ }) (lo := []) _ hkind hx (range_w hh 0 n) (fun i h st => ⟨_, st⟩) ?_ (by rw [sizeLine_eq]; omega) (F.push _) (fun p hp => ⟨Heap.get?_push_of_some _ (N p hp).1, (N p hp).2⟩) (JF news) h0 (fun _ _ _ _ p hp => (nomatch hp)) (fun I g hI => turn I g hI) fin
  have e1 : (0 : Int) + ((0 : Nat) : Int) * 1 = 0 := by omega
  have e2 : ((n : Int) - ((0 : Nat) : Int)) = n := by omega
  show IsRangeIter _ _ (0 + ((0 : Nat) : Int) * 1) ((n : Int) - ((0 : Nat) : Int)) 1
  rw [e1, e2]
  exact Heap.get?_push_size _ rfl
/-- over a text -/
theorem comp_str {elt : PySem.Expr} {ifs : List Expr} {x : Str} {px : Pos} {scope : Scope} {cl : List (Str × Addr)} {Q : Value → Shared → Prop} {y : List Nat} {t : Tok} {news : List (Addr × Obj)} (hh : A.handled = none) (hkind : scope.kind = .function) (hx : scope.names.lookup x = some .local)
    (F : Fr h₀ L s.heap m) (N : News h₀ L s.heap news) (hn : y.length ≤ 100000) (JF : List (Addr × Obj) → Nat → List Value → List (Addr × Obj) → Prop) (h0 : JF news 0 [] news)
    (turn : ∀ (I : Addr) (g : Heap), (∀ p ∈ news, p.1 < I) → Turn prog w A h₀ L m env elt ifs scope cl { s with heap := g } y.length (fun i m₂ => ∃ v, m₂ x = some v ∧ ∃ c u, y[i]? = some c ∧ v = .str ⟨#[c]⟩ u) (JF news) [I])
    (fin : ∀ D h tk ys news', Fr h₀ L h m → News h₀ L h ((D, lst ys) :: news') → (∀ p ∈ news', p.1 ≠ D) → JF news y.length ys news' → Q (.ref D) { s with heap := h, toks := tk }) :
    wpAny (model prog w) A (pyIter (.str ⟨y.toArray⟩ t)) (fun it s₂ => CompHere prog w A h₀ L m env (.Name x px) elt ifs scope cl Q it s₂) E s := by
  have go : ∀ (St : Nat → Heap → Prop) (o : Obj), Walks prog w A s.heap.objs.size [s.heap.objs.size] [s.heap.objs.size] (⟨y.toArray⟩ : Str).cps.size (SignAt ⟨y.toArray⟩) St → (∀ i h, St i h → ∃ o, h.get? s.heap.objs.size = some o) → St 0 (s.heap.push o) →
      CompHere prog w A h₀ L m env (.Name x px) elt ifs scope cl Q (.ref s.heap.objs.size) { s with heap := s.heap.push o } := fun St o W hS hst => by
    have hsz : (⟨y.toArray⟩ : Str).cps.size = y.length := by simp
    rw [hsz] at W
    refine comp_core (lo := []) o hkind hx W hS hst (by rw [sizeLine_eq]; omega) F N (JF news) h0 (fun _ _ _ _ p hp => (nomatch hp)) (fun I g hI => ?_) fin
    have T := turn I g hI
    intro i ys news₁ C oC D m₂ h tk its E' a b c d e
    obtain ⟨v, hv, hP⟩ := e
    refine T i ys news₁ C oC D m₂ h tk its E' a b c d ⟨v, hv, ?_⟩
    obtain ⟨c, u, hc, rfl⟩ := hP
    exact ⟨c, u, by simpa using hc, rfl⟩
  cases ha : (⟨y.toArray⟩ : Str).cps.all (· < 128)
  · exact wpAny_pyIter_wide ha (go _ _ (Walks.strWide hh _ _ t) (fun i h hs => let ⟨o, ho, _⟩ := hs; ⟨o, ho⟩) ⟨_, Heap.get?_push_size _ rfl, rfl, rfl⟩)
  · exact wpAny_pyIter_ascii ha (go _ _ (Walks.strAscii hh _ _ t) (fun i h hs => let ⟨o, ho, _⟩ := hs; ⟨o, ho⟩) ⟨_, Heap.get?_push_size _ rfl, rfl, rfl⟩)
/-- over enumerate(list) -/
theorem comp_enum {elt : PySem.Expr} {ifs : List Expr} {a b : Str} {pa pb tp : Pos} {kk : Nat} {scope : Scope} {cl : List (Str × Addr)} {Q : Value → Shared → Prop} {l : Addr} {vs : List Value} {ep : Nat} {news : List (Addr × Obj)} (hh : A.handled = none) (hkind : scope.kind = .function) (hxa : scope.names.lookup a = some .local) (hxb : scope.names.lookup b = some .local) (hab : ¬ a = b)
    (F : Fr h₀ L s.heap m) (N : News h₀ L s.heap news) (hm : (l, W.listOf vs.toArray ep) ∈ news) (hn : vs.length ≤ 100000) (JF : List (Addr × Obj) → Nat → List Value → List (Addr × Obj) → Prop) (h0 : JF news 0 [] news) (hJs : ∀ i ys nw, JF news i ys nw → Sub news nw)
    (turn : ∀ (I : Addr) (g : Heap), (∀ p ∈ news, p.1 < I) → Turn prog w A h₀ L m env elt ifs scope cl { s with heap := g } vs.length (fun i m₂ => ∃ v u, vs[i]? = some v ∧ m₂ a = some (.int (i : Int) u) ∧ m₂ b = some v) (JF news) [I + 1, I])
    (fin : ∀ D h tk ys news', Fr h₀ L h m → News h₀ L h ((D, lst ys) :: news') → (∀ p ∈ news', p.1 ≠ D) → JF news vs.length ys news' → Q (.ref D) { s with heap := h, toks := tk }) :
    wpAny (model prog w) A (call (.type "enumerate") [.ref l]) (fun xv s₁ => wpAny (model prog w) A (pyIter xv) (fun it s₂ => CompHere prog w A h₀ L m env (.Tuple [.Name a pa, .Name b pb] kk tp) elt ifs scope cl Q it s₂) E s₁) E s := by
  have hJl : ∀ i ys nw, JF news i ys nw → (l, W.listOf vs.toArray ep) ∈ nw := fun i ys nw j => (hJs i ys nw j).h _ hm
  have hl := lst_is N (hJl _ _ _ h0)
  have hax := N _ (hJl _ _ _ h0)
  have hlt : l < s.heap.objs.size := Heap.lt_size hax.1
  have hLs : L < s.heap.objs.size := F.ns.lt
  refine call_enumerate_list hl fun h' hE hI hsz hk => wpAny_pyIter_enum hE ?_
  have WW := (WalksT.enumerate (prog := prog) (w := w) hh (s.heap.objs.size + 1) s.heap.objs.size l (Nat.succ_ne_self _) (ktu_ne 1 hlt) (Nat.ne_of_lt hlt) vs.toArray).toU
  have hvz : vs.toArray.size = vs.length := by simp
  rw [hvz] at WW
  have WK := KTurns.ofWalksU (elts := [.Name a pa, .Name b pb]) (k := kk) (pos := tp) WW
  have mem2 : ∀ {c : Addr}, c ∈ [s.heap.objs.size + 1, s.heap.objs.size] → c = s.heap.objs.size + 1 ∨ c = s.heap.objs.size := fun h => by simpa using h
  exact CompAt.here (lo := [(l, W.listOf vs.toArray ep)]) (news := news) (B := fun i m₂ => ∃ v u, vs[i]? = some v ∧ m₂ a = some (.int (i : Int) u) ∧ m₂ b = some v) (J := JF news) {
    walk := WK
    self := fun s Q E st q => WW.self 0 s Q E st q
    asg := fun i v s' Q' E' C m₂ hP hns hq => by
      obtain ⟨T, vals, rfl, ⟨t, x, hx, rfl⟩, hT⟩ := hP
      refine kcp_assign (env := compEnvC scope cl C env) hh hT (lookup_relabel_local hxa) (lookup_relabel_local hxb) (by simp [compEnvC, relabel, hkind]) hns fun h' tk hn' hs' => ?_
      exact hq h' tk _ hn' ⟨x, t, by simpa using hx, by simp [hab], by simp⟩ hs'
    obj := fun i h st c hc => by
      obtain ⟨⟨old, he⟩, ⟨oi, hoi, _⟩, _⟩ := st
      rcases mem2 hc with rfl | rfl
      · exact ⟨_, he⟩
      · exact ⟨_, hoi⟩
    cov := fun c hc => by
      have hc' : c = s.heap.objs.size + 1 ∨ c = s.heap.objs.size ∨ c = l := by simpa using hc
      rcases hc' with rfl | rfl | rfl
      · exact .inl (by simp)
      · exact .inl (by simp)
      · exact .inr ⟨_, .head _⟩
    size := by rw [sizeLine_eq]; omega
    start := ⟨⟨_, hE⟩, hI, hl.at fun o e => hk _ o e⟩
    fr := F.keeps hk
    nw := N.grown hk
    wr₀ := fun c hc => by
      rcases mem2 hc with rfl | rfl
      · exact ktu_new F (Nat.le_add_right _ _)
      · exact ktu_new F (Nat.le_refl _)
    offL := fun h => by
      rcases mem2 h with e | e
      · exact ktu_ne 1 hLs e
      · exact Nat.ne_of_lt hLs e
    off := fun p hp h => by
      have hp' := Heap.lt_size (N p hp).1
      rcases mem2 h with e | e
      · exact ktu_ne 1 hp' e
      · exact Nat.ne_of_lt hp' e
    j0 := h0
    jl := fun i ys nw j p hp => by rw [List.mem_singleton.mp hp]; exact hJl _ _ _ j
    turn := turn _ _ fun p hp => Heap.lt_size (N p hp).1
    fin := fin }
end
end Mine
end
section
open PySem PySem.W PySem.Spec PySem.Calls PyProof.Rows
set_option maxRecDepth 100000
set_option maxHeartbeats 1000000
namespace Mine
theorem laW09 : True := by
  k_with_none
  k_with "execs cons" => (k_here; first | k_gentoks | (with_reducible refine exq ?_; intro Q9 hQ9))
  k_with "k_unfold" => (with_reducible refine hQ9 _ _ ?_; clear hQ9)
  trivial
section
structure WS where
  cnt : List Nat
  b : Nat
  n : Nat
  nt : Nat
noncomputable def WS.tab (s : WS) : WS := ⟨(if s.b ≥ s.cnt.length then s.cnt ++ List.replicate (s.b - s.cnt.length + 1) 0 else s.cnt).modify s.b (· + 1), 0, s.n + 1, s.nt + 1⟩
noncomputable def WS.sp (s : WS) : WS := ⟨s.cnt, s.b + 1, s.n + 1, s.nt⟩
noncomputable def wsGo : List Nat → WS → WS
  | [], s => s
  | c :: r, s => if c = 32 then wsGo r s.sp else if c = 9 then wsGo r s.tab else s
noncomputable def natInts (l : List Nat) : List Int := List.map (fun n : Nat => (n : Int)) l
noncomputable def JW (x : List Nat) (x' : Addr) (base : List (Addr × Obj)) (i : Nat) (m₁ : Str → Option Value) (news₁ : List (Addr × Obj)) : Prop :=
  ∃ (st : WS) (lc : Addr) (vs : List Value) (ep : Nat) (tb tn tt : Tok),
    m₁ (PySem.Str.ofString "count") = some (.ref lc) ∧ m₁ (PySem.Str.ofString "b") = some (.int st.b tb) ∧ m₁ (PySem.Str.ofString "n") = some (.int st.n tn) ∧ m₁ (PySem.Str.ofString "nt") = some (.int st.nt tt) ∧
    m₁ (PySem.Str.ofString "S") = some (.str (PySem.Str.ofString " ") 253) ∧ m₁ (PySem.Str.ofString "T") = some (.str (PySem.Str.ofString "\t") 254) ∧ m₁ (PySem.Str.ofString "self") = some (.ref x') ∧
    news₁ = (lc, W.listOf vs.toArray ep) :: base ∧ AllLt lc base ∧ IntsAre vs (natInts st.cnt) ∧ wsGo x ⟨[], 0, 0, 0⟩ = wsGo (x.drop i) st ∧ st.b + st.n + st.nt + st.cnt.length ≤ 4 * i
theorem drop_at {α : Type} {x : List α} {i : Nat} {c : α} (h : x[i]? = some c) : x.drop i = c :: x.drop (i + 1) := by
  obtain ⟨hi, e⟩ := List.getElem?_eq_some_iff.mp h
  rw [List.drop_eq_getElem_cons hi, e]
theorem ln61 : True := by
  k_with "tb_start" => first | with_reducible assumption | with_reducible exact List.mem_cons_self | (refine' List.mem_cons_of_mem _ ?_; tb_start) | ((with_reducible apply Sub.mem); (with_reducible assumption); tb_start)
  trivial
theorem ln62 : True := by
  k_with "k_all" => first | with_reducible assumption | exact fun p hp => Nat.ne_of_lt ((by with_reducible assumption : ∀ q ∈ _, q.1 < _) p hp) | exact allLt_to (by with_reducible assumption) | exact allLt_to (And.right (by with_reducible assumption))
  trivial
theorem ln63 : True := by
  k_with "call builtin:len" => (k_here; (try dsimp only); (with_reducible show wpAny _ _ (call (Value.builtin _) [Value.ref _]) _ _ _); k_dflt (refine' lst_len ?z62k1 ?z62k2 ?z62k3 ?_; (case z62k1 => k_asm); (case z62k2 => tb_start); (case z62k3 => ((try simp only [List.length_append, List.length_cons, List.length_nil]); omega)); k_whole; intro _ _))
  trivial
theorem eq_no32 {prog : Program} {w : World} {A : Around} {E : Value → Shared → Prop} {s : Shared} {Q : Value → Shared → Prop} {c : Nat} {u t : Tok} (h : ¬ c = 32) (hq : Q (.bool false) s) : wpAny (model prog w) A (compareOp .Eq (.str ⟨#[c]⟩ u) (.str (PySem.Str.ofString " ") t)) Q E s := by
  refine PyProof.Rows.eq_str ?_
  have e : ((⟨#[c]⟩ : Str) == PySem.Str.ofString " ") = false := by
    have e1 : PySem.Str.ofString " " = ⟨#[32]⟩ := by decide +kernel
    rw [e1]; simpa using h
  rw [e]; exact hq
theorem eq_no9 {prog : Program} {w : World} {A : Around} {E : Value → Shared → Prop} {s : Shared} {Q : Value → Shared → Prop} {c : Nat} {u t : Tok} (h : ¬ c = 9) (hq : Q (.bool false) s) : wpAny (model prog w) A (compareOp .Eq (.str ⟨#[c]⟩ u) (.str (PySem.Str.ofString "\t") t)) Q E s := by
  refine PyProof.Rows.eq_str ?_
  have e : ((⟨#[c]⟩ : Str) == PySem.Str.ofString "\t") = false := by
    have e1 : PySem.Str.ofString "\t" = ⟨#[9]⟩ := by decide +kernel
    rw [e1]; simpa using h
  rw [e]; exact hq
theorem ln64 : True := by
  k_with "compareOp Eq str str" => (k_here; first | ((with_reducible refine' eq_no32 ?_ ?_); (with_reducible assumption)) | ((with_reducible refine' eq_no9 ?_ ?_); (with_reducible assumption)))
  trivial
theorem setL_at {v : Value} : ∀ {l : List Value} {k : Nat}, k < l.length → W.ki_setL l k v = some (l.set k v)
  | [], _, h => absurd h (Nat.not_lt_zero _)
  | x :: r, 0, _ => rfl
  | x :: r, k + 1, h => by
    unfold W.ki_setL
    rw [setL_at (l := r) (k := k) (by simpa using h)]
    rfl
theorem ints_at {k : Nat} : ∀ {vs : List Value} {ns : List Int}, IntsAre vs ns → k < ns.length → ∃ c t, vs[k]? = some (.int c t) ∧ ns[k]? = some c
  | _, _, .nil, h => absurd h (Nat.not_lt_zero _)
  | _, _, .cons x t r, h => by
    cases k with
    | zero => exact ⟨x, t, rfl, rfl⟩
    | succ k => exact ints_at (k := k) r (by simpa using h)
theorem ints_set {c : Int} {t : Tok} : ∀ {k : Nat} {vs : List Value} {ns : List Int}, IntsAre vs ns → IntsAre (vs.set k (.int c t)) (ns.set k c)
  | _, _, _, .nil => .nil
  | 0, _, _, .cons x u r => .cons c t r
  | k + 1, _, _, .cons x u r => .cons x u (ints_set r)
theorem ints_app {ws : List Value} {ms : List Int} (h2 : IntsAre ws ms) : ∀ {vs : List Value} {ns : List Int}, IntsAre vs ns → IntsAre (vs ++ ws) (ns ++ ms)
  | _, _, .nil => h2
  | _, _, .cons x u r => .cons x u (ints_app h2 r)
section
variable {prog : Program} {w : World} {A : Around} {E : Value → Shared → Prop} {s : Shared} {h₀ : Heap} {L l l2 D : Addr} {m : Str → Option Value} {news news' : List (Addr × Obj)} {vs ws : List Value} {n n2 : Nat} {value slice : PySem.Expr} {v : Value}
theorem lst_setN {k : Nat} {t : Tok} {Q : Unit → Shared → Prop} (F : Fr h₀ L s.heap m) (N : News h₀ L s.heap news) (U : Upd D (W.listOf vs.toArray n) (W.listOf (vs.set k v).toArray n) news news') (hk : k < vs.length) (hz : vs.length ≤ 100000)
    (h : ∀ h', Fr h₀ L h' m → News h₀ L h' news' → Q () { s with heap := h' }) : wpAny (model prog w) A (setItem (.ref D) (.int k t) v) Q E s :=
  W.ki_set F N (by omega) (by omega) (setL_at hk) U h
theorem lst_itemN {k : Nat} {u : Tok} {Q : Value → Shared → Prop} (N : News h₀ L s.heap news) (hm : (l, W.listOf vs.toArray n) ∈ news) (hx : vs[k]? = some v) (hz : vs.length ≤ 100000) (h : Q v s)
    (hs : subscripted slice false (.ref l) (.int k u) = operate [.ref l, .int k u] (getItem (.ref l) (.int k u)) := by with_unfolding_all rfl) : wpAny (model prog w) A (subscriptTail value slice (.ref l) (.int k u)) Q E s :=
  lst_item N hm (by omega) (by have := (List.getElem?_eq_some_iff.mp hx).1; omega) (by simpa using hx) h hs
theorem lst_addO {Q : Value → Shared → Prop} (F : Fr h₀ L s.heap m) (N : News h₀ L s.heap news) (hm : (l, W.listOf vs.toArray n) ∈ news) (hm2 : (l2, W.listOf ws.toArray n2) ∈ news) (hz : vs.length + ws.length ≤ 100000)
    (h : ∀ x h', Fr h₀ L h' m → News h₀ L h' ((x, W.listOf (vs ++ ws).toArray 0) :: news) → (∀ p ∈ news, p.1 < x) → Q (.ref x) { s with heap := h' }) : wpAny (model prog w) A (binaryOp .Add (.ref l) (.ref l2)) Q E s :=
  add_lists F N (lst_is N hm) (lst_is N hm2) (fun h' F' N' => h _ h' F' N' fun p hp => Heap.lt_size (N p hp).1) (by rw [sizeLine_eq]; omega)
theorem lst_mul0 {x : Int} {t u : Tok} {Q : Value → Shared → Prop} (F : Fr h₀ L s.heap m) (N : News h₀ L s.heap news) (hm : (l, W.listOf [.int 0 t].toArray n) ∈ news) (hlo : -100000 ≤ x) (hhi : x ≤ 100000)
    (h : ∀ D zs h', Fr h₀ L h' m → News h₀ L h' ((D, W.listOf zs.toArray 0) :: news) → (∀ p ∈ news, p.1 < D) → IntsAre zs (List.replicate x.toNat 0) → Q (.ref D) { s with heap := h' }) : wpAny (model prog w) A (binaryOp .Mult (.ref l) (.int x u)) Q E s := by
  refine W.KM.mul F N (lst_is (vs := [.int 0 t]) N hm) (.cons 0 t .nil) (by omega) (by omega) (by simp only [List.length_cons, List.length_nil]; omega) fun D h' F' N' l1 hI _ _ _ _ _ => h D _ h' F' N' l1 ?_
  have e : (List.replicate x.toNat [(0 : Int)]).flatten = List.replicate x.toNat 0 := by
    generalize x.toNat = k
    induction k with
    | zero => rfl
    | succ k ih => rw [List.replicate_succ, List.replicate_succ, List.flatten_cons, ih]; rfl
  rw [e] at hI; exact hI
end
theorem ln65 : True := by
  k_with "binaryOp Mult ref int" => (k_here; k_dflt (refine' lst_mul0 ?z64k1 ?z64k2 ?z64k3 ?z64k4 ?z64k5 ?_; (case z64k1 => k_asm); (case z64k2 => k_asm); (case z64k3 => tb_start); (case z64k4 => omega); (case z64k5 => omega); k_whole; intro D' zs' h' F' N' l1' hz'))
  trivial
theorem ln66 : True := by
  k_with "binaryOp Add ref ref" => (k_here; k_dflt (refine' lst_addO ?z65k1 ?z65k2 ?z65k3 ?z65k4 ?z65k5 ?_; (case z65k1 => k_asm); (case z65k2 => k_asm); (case z65k3 => tb_start); (case z65k4 => tb_start); (case z65k5 => ((have hz9 := IntsAre.length (by with_reducible assumption)); (simp only [List.length_replicate] at hz9); omega)); k_whole; intro x' h' F' N' l1'))
  trivial
theorem ln67 : True := by
  k_with "subscriptTail Name Name ref int" => (k_here; k_dflt (refine' lst_itemN ?z66k1 ?z66k2 ?z66k3 ?z66k4 ?_ ?z66k5; (case z66k1 => k_asm); (case z66k2 => tb_start); (case z66k3 => with_reducible assumption); (case z66k4 => ((try simp only [List.length_append]); omega)); (case z66k5 => with_unfolding_all rfl); k_whole))
  trivial
theorem ln68 : True := by
  k_with "setItem ref int" => (k_here; k_dflt (refine' lst_setN ?z67k1 ?z67k2 ?z67k3 ?z67k4 ?z67k5 ?_; (case z67k1 => k_asm); (case z67k2 => k_asm); (case z67k3 => k_upd); (case z67k4 => ((try simp only [List.length_append]); omega)); (case z67k5 => ((try simp only [List.length_append]); omega)); k_whole; intro h' F' N'))
  trivial
theorem nat_mod {c : Int} : ∀ {l : List Nat} {k : Nat}, (natInts l)[k]? = some c → natInts (l.modify k (· + 1)) = (natInts l).set k (c + 1)
  | [], _, _ => by simp [natInts]
  | x :: r, 0, h => by
    have h' : (x : Int) = c := by simpa [natInts] using h
    subst h'; simp [natInts]
  | x :: r, k + 1, h => by
    have ih := nat_mod (l := r) (k := k) (by simpa [natInts] using h)
    simp only [natInts, List.modify_succ_cons, List.map_cons, List.set_cons_succ] at ih ⊢
    rw [ih]
theorem tab_lt {st : WS} (h : st.b < st.cnt.length) : st.tab = ⟨st.cnt.modify st.b (· + 1), 0, st.n + 1, st.nt + 1⟩ := by
  unfold WS.tab; rw [if_neg (by omega)]
theorem tab_ge {st : WS} (h : st.cnt.length ≤ st.b) : st.tab = ⟨(st.cnt ++ List.replicate (st.b - st.cnt.length + 1) 0).modify st.b (· + 1), 0, st.n + 1, st.nt + 1⟩ := by
  unfold WS.tab; rw [if_pos (by omega)]
theorem nat_app (l : List Nat) (k : Nat) : natInts (l ++ List.replicate k 0) = natInts l ++ List.replicate k 0 := by simp [natInts]
theorem stepJ {h₀ h' : Heap} {L I lc : Addr} {oI o o' : Obj} {base all : List (Addr × Obj)} {Jn : (Str → Option Value) → List (Addr × Obj) → Prop} {s₁ : Shared} {tk : Nat} {m₂ : Str → Option Value}
    (F : Fr h₀ L h' m₂) (N : News h₀ L h' all) (hs : ∀ p ∈ (I, oI) :: (lc, o') :: base, p ∈ all) (hb : ∀ p ∈ (lc, o) :: base, p.1 ≠ I) (hJ : Jn m₂ ((lc, o') :: base)) : LoopStepU h₀ L [I] [(I, oI)] Jn s₁ .next { s₁ with heap := h', toks := tk } :=
  LoopStepU.intro F (fun p hp => N p (hs p hp)) (fun p hp => by
    rcases List.mem_cons.mp hp with rfl | hp
    · simpa using hb (lc, o) (.head _)
    · simpa using hb p (.tail _ hp)) hJ
theorem sub5 {α : Type} {i n x y o : α} {b : List α} : ∀ p, p ∈ i :: n :: b → p ∈ n :: x :: y :: i :: o :: b := fun p h => by
  simp only [List.mem_cons] at h ⊢
  rcases h with h | h | h
  · exact .inr (.inr (.inr (.inl h)))
  · exact .inl h
  · exact .inr (.inr (.inr (.inr (.inr h))))
theorem offNew {I lc' : Addr} {o x y : Addr × Obj} {o' : Obj} {base : List (Addr × Obj)} {nb : Obj} (l1 : ∀ p ∈ x :: y :: (I, nb) :: o :: base, p.1 < lc') (h : ∀ p ∈ o :: base, p.1 ≠ I) : ∀ p ∈ (lc', o') :: base, p.1 ≠ I := fun p hp => by
  rcases List.mem_cons.mp hp with rfl | hp
  · exact Ne.symm (Nat.ne_of_lt (l1 (I, nb) (.tail _ (.tail _ (.head _)))))
  · exact h p (.tail _ hp)
noncomputable def AfterW (h₀ : Heap) (L : Addr) (s : Shared) (x : List Nat) (x' : Addr) (base : List (Addr × Obj)) (f : Flow) (s' : Shared) : Prop :=
  f = .next ∧ ∃ (h' : Heap) (tk : Nat) (m' : Str → Option Value) (lc : Addr) (vs : List Value) (ep : Nat) (tb tn tt : Tok),
    s' = { s with heap := h', toks := tk } ∧ Fr h₀ L h' m' ∧ News h₀ L h' ((lc, W.listOf vs.toArray ep) :: base) ∧
    m' (PySem.Str.ofString "count") = some (.ref lc) ∧ m' (PySem.Str.ofString "b") = some (.int (wsGo x ⟨[], 0, 0, 0⟩).b tb) ∧ m' (PySem.Str.ofString "n") = some (.int (wsGo x ⟨[], 0, 0, 0⟩).n tn) ∧ m' (PySem.Str.ofString "nt") = some (.int (wsGo x ⟨[], 0, 0, 0⟩).nt tt) ∧
    m' (PySem.Str.ofString "S") = some (.str (PySem.Str.ofString " ") 253) ∧ m' (PySem.Str.ofString "T") = some (.str (PySem.Str.ofString "\t") 254) ∧ m' (PySem.Str.ofString "self") = some (.ref x') ∧
    AllLt lc base ∧ IntsAre vs (natInts (wsGo x ⟨[], 0, 0, 0⟩).cnt)
theorem afterW_rule {M : Model} {A : Around} {c : Sem Flow} {E : Value → Shared → Prop} {s : Shared} {h₀ : Heap} {L x' l : Addr} {o : Obj} {m : Str → Option Value} {x : List Nat} {base : List (Addr × Obj)} {Q : Flow → Shared → Prop} (_F : Fr h₀ L s.heap m) (_N : News h₀ L s.heap ((l, o) :: base))
    (h : wpAny M A c (AfterW h₀ L s x x' base) E s) (k : ∀ f s', AfterW h₀ L s x x' base f s' → Q f s') : wpAny M A c Q E s := wpAny_mono h k fun _ _ e => e
theorem tup_of {prog : Program} {w : World} {A : Around} {E : Value → Shared → Prop} {s : Shared} {h₀ : Heap} {L l : Addr} {m : Str → Option Value} {news : List (Addr × Obj)} {vs : List Value} {n : Nat} {Q : Value → Shared → Prop} (F : Fr h₀ L s.heap m) (N : News h₀ L s.heap news) (hm : (l, W.listOf vs.toArray n) ∈ news) (hz : vs.length ≤ 10000)
    (h : ∀ D h', Fr h₀ L h' m → News h₀ L h' ((D, tupO vs) :: news) → (∀ p ∈ news, p.1 < D) → Q (.ref D) { s with heap := h' }) : wpAny (model prog w) A (call (.type "tuple") [.ref l]) Q E s :=
  W.kde_tupleOf F N (lst_is N hm) (by simp only [List.size_toArray]; omega) (by simp) h
theorem ln69 : True := by
  k_with "call type:tuple" => (k_here; k_dflt (refine' tup_of ?z68k1 ?z68k2 ?z68k3 ?z68k4 ?_; (case z68k1 => k_asm); (case z68k2 => k_asm); (case z68k3 => tb_start); (case z68k4 => omega); k_whole); intro D' h' F' N' l1; (try k_lt l1); (try k_sweep))
  trivial
theorem wsGo_brk {c : Nat} {r : List Nat} {s : WS} (h32 : ¬ c = 32) (h9 : ¬ c = 9) : wsGo (c :: r) s = s := by simp [wsGo, h32, h9]
theorem cnt_le : ∀ (x : List Nat) (st : WS), (wsGo x st).b + (wsGo x st).cnt.length + (wsGo x st).n + (wsGo x st).nt ≤ 4 * x.length + (st.b + st.cnt.length + st.n + st.nt)
  | [], st => by simp [wsGo]
  | c :: r, st => by
    unfold wsGo
    split
    · have := cnt_le r st.sp
      simp only [WS.sp, List.length_cons] at this ⊢; omega
    · split
      · have := cnt_le r st.tab
        by_cases h : st.b < st.cnt.length
        · rw [tab_lt h] at this ⊢; simp only [List.length_modify, List.length_cons] at this ⊢; omega
        · rw [tab_ge (by omega)] at this ⊢; simp only [List.length_modify, List.length_append, List.length_replicate, List.length_cons] at this ⊢; omega
      · simp only [List.length_cons]; omega
/-- a lead's measure, as the object bears it -/
noncomputable def WsAt (w : World) (lg : List (Addr × Obj)) (a : Addr) (st : WS) : Prop :=
  ∃ (d dn dt : Addr) (vs : List Value) (raw : Value) (tb tn tt : Tok) (k0 k1 k2 k3 k4 : Tok),
    (a, instObj 125 d) ∈ lg ∧
    (d, dictOf [⟨PyData.keyHash w.params (PySem.Str.ofString "raw"), .str (PySem.Str.ofString "raw") k0, raw⟩, ⟨PyData.keyHash w.params (PySem.Str.ofString "n"), .str (PySem.Str.ofString "n") k1, .int st.n tn⟩, ⟨PyData.keyHash w.params (PySem.Str.ofString "nt"), .str (PySem.Str.ofString "nt") k2, .int st.nt tt⟩,
      ⟨PyData.keyHash w.params (PySem.Str.ofString "norm"), .str (PySem.Str.ofString "norm") k3, .ref dn⟩, ⟨PyData.keyHash w.params (PySem.Str.ofString "is_simple"), .str (PySem.Str.ofString "is_simple") k4, .bool (decide ((vs.length : Int) ≤ 1))⟩] 5) ∈ lg ∧
    (dn, tupO [.ref dt, .int st.b tb]) ∈ lg ∧ (dt, tupO vs) ∈ lg ∧ IntsAre vs (natInts st.cnt)
theorem ws_ (w : World) (x : List Nat) (t : Tok) (news) (hl : x.length ≤ 1000) : Con w 125 [.str ⟨x.toArray⟩ t] news 4 40 (fun tl r => ∃ a, r = .ref a ∧ WsAt w tl a (wsGo x ⟨[], 0, 0, 0⟩)) := by
  unfold Con
  intro mean mg mb dp un gd cn cs a ccd cl outer A₀ base h₀ L m s Q E B F X N T hk hd hu hret
  w_on
  w_strict (
  refine' call_cls ?k1 ?k2 ?k3 ?k4 ?k5 ?k6 ?_
  case k1 => k_asm
  case k2 => k_asm
  case k3 => k_asm
  case k4 => k_is
  case k5 => k_is
  case k6 => k_is
  k_whole; intro x' d' h' F' N' l1 l2; have l0 := l1; have l3 : @LT.lt Nat _ d' x' := l2; (try k_lt l1); (try k_lt2 l2); (try k_sweep)
  k_dflt ktr_enter
  repeat' ((fail_if_success (with_reducible show wpAny _ _ (exec (Stmt.For _ _ _ _ _) _) _ _ _)); first | (k_unfold; (try dsimp only)) | (k_end; kc_close) | walk1 | (dsimp only; walk1) | (leave1; walk_say "STEP leave1"; (try dsimp only)) | fail "no step")
  (with_reducible rename Fr _ _ _ _ => FF)
  (with_reducible rename News _ _ _ _ => NN0)
  refine afterW_rule (x := x) (x' := x') FF NN0 ?loop (fun f9 s9 h9 => ?cont)
  case loop =>
   refine For_invVF FF (by rfl) (by rfl) ?_
   repeat' ((fail_if_success (with_reducible show wpAny _ _ (pyIter _) _ _ _)); first | (k_unfold; (try dsimp only)) | (k_end; kc_close) | walk1 | (dsimp only; walk1) | (leave1; walk_say "STEP leave1"; (try dsimp only)) | fail "no step")
   (with_reducible rename Fr _ _ _ _ => FF2)
   (with_reducible rename News _ _ _ _ => NN)
   refine iter_strJ (by rfl) FF2 NN (JW x x' _) (exI7 (⟨[], 0, 0, 0⟩) _ ([]) 0 _ _ _ ⟨rfl, rfl, rfl, rfl, rfl, rfl, rfl, rfl, (by assumption), .nil, rfl, Nat.le_refl _⟩) ?_ ?_
   · intro i c u m₁ news₁ I oI h₁ tk₁ hc J₁ hoff F₁ N₁
     refine ex7 J₁ ?_
     intro st lc vs ep tb tn tt hX9
     refine an12 hX9 ?_
     intro e1 e2 e3 e4 e5 e6 e7 e8 hlt hI hgo hsz
     clear hX9 J₁
     first | refine canon7G e1 e2 e3 e4 e5 e6 e7 F₁ ?_ | refine canon7H e1 e2 e3 e4 e5 e6 e7 F₁ ?_
     clear e1 e2 e3 e4 e5 e6 e7 F₁
     intro rest F₁
     subst e8
     have hxd := drop_at hc
     have hil : i < x.length := (List.getElem?_eq_some_iff.mp hc).1
     have hIl : @Ne Nat lc I := hoff _ (.head _)
     have hlen := IntsAre.length hI
     simp only [natInts, List.length_map] at hlen
     by_cases h32 : c = 32
     · subst h32
       k_steps
       exact stepJ (by k_asm) (by k_asm) (fun p hp => hp) hoff (exI7 st.sp _ vs ep _ _ _ ⟨rfl, rfl, rfl, rfl, rfl, rfl, rfl, rfl, hlt, hI, by rw [hgo, hxd]; rfl, by simp only [WS.sp]; omega⟩)
     · by_cases h9 : c = 9
       · subst h9
         repeat' ((fail_if_success (with_reducible show wpAny _ _ (subscriptTail _ _ _ _) _ _ _)); first | (k_unfold; (try dsimp only)) | (k_end; kc_close) | walk1 | (dsimp only; walk1) | (leave1; walk_say "STEP leave1"; (try dsimp only)) | fail "no step")
         · (with_reducible rename IntsAre _ (List.replicate _ _) => hz)
           have hI2 := ints_app hz hI
           have hzl := IntsAre.length hz
           simp only [List.length_replicate] at hzl
           have hbl : st.cnt.length ≤ st.b := by omega
           have hlt2 : st.b < (natInts st.cnt ++ List.replicate ((st.b : Int) - (vs.length : Int) + 1).toNat 0).length := by simp only [natInts, List.length_append, List.length_map, List.length_replicate]; omega
           obtain ⟨c, t', hv, hn⟩ := ints_at hI2 hlt2
           have e0 : ((st.b : Int) - (vs.length : Int) + 1).toNat = st.b - st.cnt.length + 1 := by omega
           rw [e0] at hn hI2
           rw [← nat_app] at hn hI2
           k_steps
           (with_reducible rename (∀ p ∈ (_, W.listOf (List.toArray _) 0) :: _, p.1 < _) => l1)
           exact stepJ (by k_asm) (by k_asm) sub5 (offNew (o' := oI) l1 hoff) (exI7 st.tab _ _ 0 _ _ _ ⟨rfl, rfl, rfl, rfl, rfl, rfl, rfl, rfl, allLt_of fun p hp => l1 p (.tail _ (.tail _ (.tail _ (.tail _ hp)))), (by rw [tab_ge hbl, nat_mod hn]; exact ints_set hI2), by rw [hgo, hxd]; rfl, by rw [tab_ge hbl]; simp only [List.length_modify, List.length_append, List.length_replicate]; omega⟩)
         · have hbl : st.b < st.cnt.length := by omega
           obtain ⟨c, t', hv, hn⟩ := ints_at hI (by simp only [natInts, List.length_map]; exact hbl)
           k_steps
           exact stepJ (by k_asm) (by k_asm) (fun p hp => hp) hoff (exI7 st.tab _ _ ep _ _ _ ⟨rfl, rfl, rfl, rfl, rfl, rfl, rfl, rfl, hlt, (by rw [tab_lt hbl, nat_mod hn]; exact ints_set hI), by rw [hgo, hxd]; rfl, by rw [tab_lt hbl]; simp only [List.length_modify]; omega⟩)
       · k_steps
         have hst : wsGo x ⟨[], 0, 0, 0⟩ = st := by rw [hgo, hxd, wsGo_brk h32 h9]
         exact ⟨rfl, _, _, _, lc, vs, ep, tb, tn, tt, rfl, by k_asm, News.drop1 (by k_asm), rfl, (by rw [hst]; first | done | rfl), (by rw [hst]; first | done | rfl), (by rw [hst]; first | done | rfl), rfl, rfl, rfl, hlt, by rw [hst]; exact hI⟩
   · intro h' tk m' news' F' N' J'
     refine ex7 J' ?_
     intro st lc vs ep tb tn tt hX9
     refine an12 hX9 ?_
     intro e1 e2 e3 e4 e5 e6 e7 e8 hlt hI hgo hsz
     clear hX9 J'
     subst e8
     have hst : wsGo x ⟨[], 0, 0, 0⟩ = st := by rw [hgo, List.drop_length]; rfl
     refine ⟨rfl, h', tk, m', lc, vs, ep, tb, tn, tt, rfl, F', N', e1, ?_, ?_, ?_, e5, e6, e7, hlt, ?_⟩
     · rw [hst]; exact e2
     · rw [hst]; exact e3
     · rw [hst]; exact e4
     · rw [hst]; exact hI
  case cont =>
    obtain ⟨rfl, h₁, tk₁, m₁, lc, vs, ep, tb, tn, tt, rfl, F₁, N₁, e1, e2, e3, e4, e5, e6, e7, hlt, hI⟩ := h9
    first | refine canon7G e1 e2 e3 e4 e5 e6 e7 F₁ ?_ | refine canon7H e1 e2 e3 e4 e5 e6 e7 F₁ ?_
    clear e1 e2 e3 e4 e5 e6 e7 F₁
    intro rest F₁
    have hlt2 : _ ∧ _ ∧ _ ∧ _ := hlt
    have hcl := cnt_le x ⟨[], 0, 0, 0⟩
    have hlen := IntsAre.length hI
    simp only [natInts, List.length_map] at hlen
    simp only [List.length_nil] at hcl
    k_steps
    refine hret _ [_, _, _, _, _, _] _ _ (by k_asm) (by k_asm) ?_ ⟨_, rfl, ?_⟩
    · intro q hq p hp
      have hq' : @LT.lt Nat _ q.1 d' := l0 q hq
      simp only [List.mem_cons, List.not_mem_nil, or_false] at hp
      rcases hp with rfl | rfl | rfl | rfl | rfl | rfl <;> (refine ltN ?_; dsimp only; omega)
    · exact ⟨_, _, _, vs, _, _, _, _, _, _, _, _, _, .tail _ (.tail _ (.tail _ (.tail _ (.head _)))), .tail _ (.tail _ (.tail _ (.tail _ (.tail _ (.head _))))), .head _, .tail _ (.head _), hI⟩)
end
end Mine
end
section
open PySem PySem.W PySem.Spec PySem.Calls PyProof.Rows
set_option maxRecDepth 100000
set_option maxHeartbeats 1000000
namespace Mine
theorem laW10 : True := by
  k_with_none
  k_with "execs cons" => (k_here; first | k_gentoks | (with_reducible refine exq ?_; intro Q9 hQ9))
  k_with "k_unfold" => (with_reducible refine hQ9 _ _ ?_; clear hQ9)
  trivial
section
theorem ln71 : True := by
  k_with "tb_start" => first | with_reducible assumption | with_reducible exact List.mem_cons_self | (refine' List.mem_cons_of_mem _ ?_; tb_start) | ((with_reducible apply Sub.mem); (with_reducible assumption); tb_start)
  trivial
theorem ln72 : True := by
  k_with "k_all" => first | with_reducible assumption | exact fun p hp => Nat.ne_of_lt ((by with_reducible assumption : ∀ q ∈ _, q.1 < _) p hp) | exact allLt_to (by with_reducible assumption) | exact allLt_to (And.right (by with_reducible assumption))
  trivial
noncomputable def lng (st : WS) : Int := if (st.cnt.length : Int) - 1 < (st.b : Int) then (st.b : Int) else (st.cnt.length : Int) - 1
noncomputable def IntOut (k : Int) : List (Addr × Obj) → Value → Prop := fun tl r => tl = [] ∧ ∃ t', r = .int k t'
section
variable {prog : Program} {w : World} {A : Around} {E : Value → Shared → Prop} {s : Shared} {h₀ : Heap} {L l : Addr} {news : List (Addr × Obj)} {vs : List Value} {value slice : PySem.Expr} {v : Value} {Q : Value → Shared → Prop}
theorem tup_len (N : News h₀ L s.heap news) (hm : (l, tupO vs) ∈ news) (hz : vs.length ≤ 100000) (h : ∀ t tk, Q (.int vs.length t) { s with toks := tk }) : wpAny (model prog w) A (call (.builtin "len") [.ref l]) Q E s := by
  refine len_tuple (items := vs.toArray) ⟨_, (N _ hm).1, rfl, 0, rfl⟩ (by simp only [List.size_toArray]; omega) ?_
  rw [List.size_toArray]; exact h _ _
theorem tup_itemN {k : Nat} {u : Tok} (N : News h₀ L s.heap news) (hm : (l, tupO vs) ∈ news) (hx : vs[k]? = some v) (hz : vs.length ≤ 100000) (h : Q v s)
    (hs : subscripted slice false (.ref l) (.int k u) = operate [.ref l, .int k u] (getItem (.ref l) (.int k u)) := by with_unfolding_all rfl) : wpAny (model prog w) A (subscriptTail value slice (.ref l) (.int k u)) Q E s := by
  have hk := (List.getElem?_eq_some_iff.mp hx).1
  refine item_tupleT (j := k) ⟨_, (N _ hm).1, rfl, 0, rfl⟩ (by omega) (by omega) ?_ hx h hs
  unfold seqIndex?
  simp only [show ¬ ((k : Int) < 0) by omega, if_false]
  simp [hk]
end
theorem ln73 : True := by
  k_with "call builtin:len" => (k_here; (try dsimp only); (with_reducible show wpAny _ _ (call (Value.builtin _) [Value.ref _]) _ _ _); k_dflt (refine' tup_len ?z72k1 ?z72k2 ?z72k3 ?_; (case z72k1 => k_asm); (case z72k2 => tb_start); (case z72k3 => omega); k_whole; intro _ _))
  trivial
theorem ln74 : True := by
  k_with "subscriptTail Name Name ref int" => (k_here; k_dflt (refine' tup_itemN ?z73k1 ?z73k2 ?z73k3 ?z73k4 ?_ ?z73k5; (case z73k1 => k_asm); (case z73k2 => tb_start); (case z73k3 => with_reducible assumption); (case z73k4 => omega); (case z73k5 => with_unfolding_all rfl); k_whole))
  trivial
theorem longest_ (w : World) {a : Addr} {st : WS} {news : List (Addr × Obj)} (h : WsAt w news a st) (hb : st.cnt.length ≤ 10000) (hb2 : st.b ≤ 10000) : Con w 87 [.ref a] news 4 40 (IntOut (lng st)) := by
  refine ex8 h ?_
  intro d dn dt vs raw tb tn tt hX9
  refine ex5 hX9 ?_
  intro k0 k1 k2 k3 k4 hY9
  refine an5 hY9 ?_
  intro m1 m2 m3 m4 hI
  clear hY9 hX9 h
  have hlen := IntsAre.length hI
  simp only [natInts, List.length_map] at hlen
  unfold Con
  intro mean mg mb dp un gd cn cs a' ccd cl outer A₀ base h₀ L m s Q E B F X N T hk hd hu hret
  w_on
  w_strict (
  refine wpAny_call ?_
  k_dflt ktr_enter
  k_steps
  exact hret _ [] _ _ (by k_asm) (by k_asm) (fun _ _ _ h => nomatch h) ⟨rfl, _, by rw [lng, ← hlen]⟩)
noncomputable def ilS (cnt : List Int) (ts : Nat) : Nat → Int
  | 0 => 0
  | i + 1 => ilS cnt ts i + Int.fdiv ((ts + i : Nat) : Int) (ts : Int) * cnt.getD (ts + i) 0
noncomputable def lvl (st : WS) (ts : Nat) : Int := (st.b : Int) + (ts : Int) * (ilS (natInts st.cnt) ts (st.cnt.length - ts) + (st.nt : Int))
noncomputable def JI (cnt : List Int) (ts : Nat) (a dt : Addr) (b : Int) (big : List (Addr × Obj)) (i : Nat) (m₁ : Str → Option Value) (news₁ : List (Addr × Obj)) : Prop :=
  ∃ (tb t2 t3 : Tok), m₁ (PySem.Str.ofString "self") = some (.ref a) ∧ m₁ (PySem.Str.ofString "tabsize") = some (.int ts tb) ∧ m₁ (PySem.Str.ofString "count") = some (.ref dt) ∧ m₁ (PySem.Str.ofString "trailing") = some (.int b t2) ∧ m₁ (PySem.Str.ofString "il") = some (.int (ilS cnt ts i) t3) ∧ news₁ = big
theorem level_ (w : World) {a : Addr} {st : WS} {news : List (Addr × Obj)} (ts : Nat) (u : Tok) (h : WsAt w news a st) (hb : st.cnt.length ≤ 5000) (hb2 : st.b ≤ 5000) (hts : 1 ≤ ts) (hts2 : ts ≤ 9000) : Con w 94 [.ref a, .int ts u] news 4 40 (IntOut (lvl st ts)) := by
  refine ex8 h ?_
  intro d dn dt vs raw tb tn tt hX9
  refine ex5 hX9 ?_
  intro k0 k1 k2 k3 k4 hY9
  refine an5 hY9 ?_
  intro m1 m2 m3 m4 hI
  clear hY9 hX9 h
  have hlen := IntsAre.length hI
  simp only [natInts, List.length_map] at hlen
  unfold Con
  intro mean mg mb dp un gd cn cs a' ccd cl outer A₀ base h₀ L m s Q E B F X N T hk hd hu hret
  w_on
  w_strict (
  refine wpAny_call ?_
  k_dflt ktr_enter
  repeat' ((fail_if_success (with_reducible show wpAny _ _ (exec (Stmt.For _ _ _ _ _) _) _ _ _)); first | (k_unfold; (try dsimp only)) | (k_end; kc_close) | walk1 | (dsimp only; walk1) | (leave1; walk_say "STEP leave1"; (try dsimp only)) | fail "no step")
  (with_reducible rename Fr _ _ _ _ => FF)
  refine For_invVF FF (by rfl) (by rfl) ?_
  repeat' ((fail_if_success (with_reducible show wpAny _ _ (call (Value.type "range") _) _ _ _)); first | (k_unfold; (try dsimp only)) | (k_end; kc_close) | walk1 | (dsimp only; walk1) | (leave1; walk_say "STEP leave1"; (try dsimp only)) | fail "no step")
  (with_reducible rename Fr _ _ _ _ => FF2)
  (with_reducible rename News _ _ _ _ => NN)
  refine iter_rangeJ (by rfl) FF2 NN (by omega) (by omega) (by omega) (by omega) (JI (natInts st.cnt) ts a dt st.b _) ⟨_, _, _, rfl, rfl, rfl, rfl, rfl, rfl⟩ ?_ ?_
  · intro i t' m₁ news₁ I oI h₁ tk₁ hi J₁ hoff F₁ N₁
    refine ex3 J₁ ?_
    intro t1 t2 t3 hX9
    refine an6 hX9 ?_
    intro e1 e2 e3 e4 e5 e6
    clear hX9 J₁
    first | refine canon5G e1 e2 e3 e4 e5 F₁ ?_ | refine canon5H e1 e2 e3 e4 e5 F₁ ?_
    clear e1 e2 e3 e4 e5 F₁
    intro rest F₁
    subst e6
    obtain ⟨c, tc, hv, hc⟩ := ints_at (k := ts + i) hI (by simp only [natInts, List.length_map]; omega)
    rw [show ((ts : Int) + (i : Int)) = ((ts + i : Nat) : Int) by omega] at F₁
    have hq0 : 0 ≤ ((ts + i : Nat) : Int).fdiv (ts : Int) := Int.fdiv_nonneg (by omega) (by omega)
    have hq1 : ((ts + i : Nat) : Int).fdiv (ts : Int) ≤ 10000 := by
      rw [Int.fdiv_eq_ediv_of_nonneg _ (by omega)]
      have := Int.ediv_le_self (a := ((ts + i : Nat) : Int)) (ts : Int) (by omega)
      omega
    have hgd : (natInts st.cnt).getD (ts + i) 0 = c := by rw [List.getD_eq_getElem?_getD, hc]; rfl
    k_steps
    exact LoopStepU.intro (by k_asm) (by k_asm) (fun p hp => by simpa using hoff p hp) ⟨_, _, _, rfl, rfl, rfl, rfl, (by simp only [ilS]; rw [hgd]; rfl), rfl⟩
  · intro h' tk m' news' F' N' J'
    refine ex3 J' ?_
    intro t1 t2 t3 hX9
    refine an6 hX9 ?_
    intro e1 e2 e3 e4 e5 e6
    clear hX9 J'
    first | refine canon5G e1 e2 e3 e4 e5 F' ?_ | refine canon5H e1 e2 e3 e4 e5 F' ?_
    clear e1 e2 e3 e4 e5 F'
    intro rest F'
    subst e6
    k_steps
    exact hret _ [] _ _ (by k_asm) (by k_asm) (fun _ _ _ h => nomatch h) ⟨rfl, _, by rw [lvl, ← hlen, show ((vs.length : Int) - (ts : Int)).toNat = vs.length - ts by omega]⟩)
end
end Mine
end
section
open PySem PySem.W PySem.Spec PySem.Calls PyProof.Rows
set_option maxRecDepth 100000
set_option maxHeartbeats 1000000
namespace Mine
theorem laW11 : True := by
  k_with_none
  k_with "execs cons" => (k_here; first | k_gentoks | (with_reducible refine exq ?_; intro Q9 hQ9))
  k_with "k_unfold" => (with_reducible refine hQ9 _ _ ?_; clear hQ9)
  trivial
section
theorem ln76 : True := by
  k_with "tb_start" => first | with_reducible assumption | with_reducible exact List.mem_cons_self | (refine' List.mem_cons_of_mem _ ?_; tb_start) | ((with_reducible apply Sub.mem); (with_reducible assumption); tb_start)
  trivial
theorem ln77 : True := by
  k_with "k_all" => first | with_reducible assumption | exact fun p hp => Nat.ne_of_lt ((by with_reducible assumption : ∀ q ∈ _, q.1 < _) p hp) | exact allLt_to (by with_reducible assumption) | exact allLt_to (And.right (by with_reducible assumption))
  trivial

noncomputable def BoolOut (b : Bool) : List (Addr × Obj) → Value → Prop := fun tl r => tl = [] ∧ r = .bool b
theorem lng_le {st : WS} (hb : st.cnt.length ≤ 5000) (hb2 : st.b ≤ 5000) : 0 ≤ lng st ∧ lng st ≤ 5000 := by
  unfold lng; split <;> omega
theorem WsAt.mono {w : World} {lg lg' : List (Addr × Obj)} {a : Addr} {st : WS} (h : WsAt w lg a st) (hs : ∀ p ∈ lg, p ∈ lg') : WsAt w lg' a st := by
  refine ex8 h ?_
  intro d dn dt vs raw tb tn tt hX9
  refine ex5 hX9 ?_
  intro k0 k1 k2 k3 k4 hY9
  refine an5 hY9 ?_
  intro m1 m2 m3 m4 hI
  clear hY9 hX9 h
  exact ⟨d, dn, dt, vs, raw, tb, tn, tt, k0, k1, k2, k3, k4, hs _ m1, hs _ m2, hs _ m3, hs _ m4, hI⟩
theorem ln78 : True := by
  k_with "call ref" => (k_here; (try dsimp only [List.cons_append, List.nil_append]); (with_reducible show wpAny _ _ (call (Value.ref 87) _) _ _ _); k_dflt (refine' Con.use0 (longest_ _ (WsAt.mono ?z77kW ?z77kS) ?z77kA ?z77kB) ?z77k1 ?z77k2 ?z77k3 ?z77k4 ?z77k5 ?z77k6 ?z77k7 ?z77k8 ?_; (case z77k1 => k_asm); (case z77k2 => k_asm); (case z77k3 => k_asm); (case z77k4 => k_asm); (case z77k5 => k_asm); (case z77k6 => first | exact rfl | assumption); (case z77k7 => ktr_room); (case z77k8 => ktr_units); (case z77kW => with_reducible assumption); (case z77kS => (intro p9 hp9; tb_start)); (case z77kA => omega); (case z77kB => omega);  k_whole; intro t9 h9 tk9 F9 N9; (try dsimp only); (try k_fold)))
  trivial
theorem ln79 : True := by
  k_with "call ref" => (k_here; (try dsimp only [List.cons_append, List.nil_append]); (with_reducible show wpAny _ _ (call (Value.ref 94) _) _ _ _); k_dflt (refine' Con.use0 (level_ _ _ _ (WsAt.mono ?z78kW ?z78kS) ?z78kA ?z78kB ?z78kC ?z78kD) ?z78k1 ?z78k2 ?z78k3 ?z78k4 ?z78k5 ?z78k6 ?z78k7 ?z78k8 ?_; (case z78k1 => k_asm); (case z78k2 => k_asm); (case z78k3 => k_asm); (case z78k4 => k_asm); (case z78k5 => k_asm); (case z78k6 => first | exact rfl | assumption); (case z78k7 => ktr_room); (case z78k8 => ktr_units); (case z78kW => with_reducible assumption); (case z78kS => (intro p9 hp9; tb_start)); (case z78kA => omega); (case z78kB => omega); (case z78kC => omega); (case z78kD => omega); k_whole; intro t9 h9 tk9 F9 N9; (try dsimp only); (try k_fold)))
  trivial
theorem less_no (w : World) {a b : Addr} {st su : WS} {news : List (Addr × Obj)} (h : WsAt w news a st) (h' : WsAt w news b su) (hn : su.n ≤ st.n) : Con w 115 [.ref a, .ref b] news 10 120 (BoolOut false) := by
  refine ex8 h ?_
  intro d dn dt vs raw tb tn tt hX9
  refine ex5 hX9 ?_
  intro k0 k1 k2 k3 k4 hY9
  refine an5 hY9 ?_
  intro m1 m2 m3 m4 hI
  clear hY9 hX9 h
  refine ex8 h' ?_
  intro d' dn' dt' vs' raw' tb' tn' tt' hX9
  refine ex5 hX9 ?_
  intro k0' k1' k2' k3' k4' hY9
  refine an5 hY9 ?_
  intro m1' m2' m3' m4' hI'
  clear hY9 hX9 h'
  unfold Con
  intro mean mg mb dp un gd cn cs a' ccd cl outer A₀ base h₀ L m s Q E B F X N T hk hd hu hret
  w_on
  w_strict (
  refine wpAny_call ?_
  k_dflt ktr_enter
  k_steps
  exact hret _ [] _ _ (by k_asm) (by k_asm) (fun _ _ _ h => nomatch h) ⟨rfl, rfl⟩)
noncomputable def JL (a b : Addr) (big : List (Addr × Obj)) (_ : Nat) (m₁ : Str → Option Value) (news₁ : List (Addr × Obj)) : Prop := m₁ (PySem.Str.ofString "self") = some (.ref a) ∧ m₁ (PySem.Str.ofString "other") = some (.ref b) ∧ news₁ = big
theorem less_yes (w : World) {a b : Addr} {st su : WS} {news : List (Addr × Obj)} (h : WsAt w news a st) (h' : WsAt w news b su) (hn : st.n < su.n) (hnt : st.nt ≤ su.nt) (hlv : ∀ ts, 2 ≤ ts → lvl st ts < lvl su ts)
    (hb : st.cnt.length ≤ 5000) (hb2 : st.b ≤ 5000) (hc : su.cnt.length ≤ 5000) (hc2 : su.b ≤ 5000) : Con w 115 [.ref a, .ref b] news 10 120 (BoolOut true) := by
  have W1 := h
  have W2 := h'
  refine ex8 h ?_
  intro d dn dt vs raw tb tn tt hX9
  refine ex5 hX9 ?_
  intro k0 k1 k2 k3 k4 hY9
  refine an5 hY9 ?_
  intro m1 m2 m3 m4 hI
  clear hY9 hX9 h
  refine ex8 h' ?_
  intro d' dn' dt' vs' raw' tb' tn' tt' hX9
  refine ex5 hX9 ?_
  intro k0' k1' k2' k3' k4' hY9
  refine an5 hY9 ?_
  intro m1' m2' m3' m4' hI'
  clear hY9 hX9 h'
  have hq1 := lng_le hb hb2
  have hq2 := lng_le hc hc2
  unfold Con
  intro mean mg mb dp un gd cn cs a' ccd cl outer A₀ base h₀ L m s Q E B F X N T hk hd hu hret
  w_on
  w_strict (
  refine wpAny_call ?_
  k_dflt ktr_enter
  repeat' ((fail_if_success (with_reducible show wpAny _ _ (exec (Stmt.For _ _ _ _ _) _) _ _ _)); first | (k_unfold; (try dsimp only)) | (k_end; kc_close) | walk1 | (dsimp only; walk1) | (leave1; walk_say "STEP leave1"; (try dsimp only)) | fail "no step")
  · exact hret _ [] _ _ (by k_asm) (by k_asm) (fun _ _ _ h => nomatch h) ⟨rfl, by rw [decide_eq_true (by omega)]⟩
  all_goals (
  (with_reducible rename Fr _ _ _ _ => FF)
  refine For_invVF FF (by rfl) (by rfl) ?_
  repeat' ((fail_if_success (with_reducible show wpAny _ _ (call (Value.type "range") _) _ _ _)); first | (k_unfold; (try dsimp only)) | (k_end; kc_close) | walk1 | (dsimp only; walk1) | (leave1; walk_say "STEP leave1"; (try dsimp only)) | fail "no step")
  (with_reducible rename Fr _ _ _ _ => FF2)
  (with_reducible rename News _ _ _ _ => NN)
  refine iter_rangeJ (by rfl) FF2 NN (by omega) (by omega) (by split <;> omega) (by split <;> omega) (JL a b _) ⟨rfl, rfl, rfl⟩ ?_ ?_
  · intro i t' m₁ news₁ I oI h₁ tk₁ hi J₁ hoff F₁ N₁
    obtain ⟨e1, e2, e6⟩ := J₁
    first | refine canon2G e1 e2 F₁ ?_ | refine canon2H e1 e2 F₁ ?_
    clear e1 e2 F₁
    intro rest F₁
    subst e6
    rw [show ((2 : Int) + (i : Int)) = ((2 + i : Nat) : Int) by omega] at F₁ hi
    have hi2 : (2 + i : Nat) < 5003 := by
      have h5 : ((2 + i : Nat) : Int) < 5003 := Int.lt_of_lt_of_le hi (by split <;> omega)
      omega
    have hlt := hlv (2 + i) (by omega)
    have hle : ¬ (lvl su (2 + i) ≤ lvl st (2 + i)) := by omega
    have q1 := List.mem_cons_of_mem (I, oI) m1
    have q2 := List.mem_cons_of_mem (I, oI) m2
    have q3 := List.mem_cons_of_mem (I, oI) m1'
    have q4 := List.mem_cons_of_mem (I, oI) m2'
    k_steps
    exact LoopStepU.intro (by k_asm) (by k_asm) (fun p hp => by simpa using hoff p hp) ⟨rfl, rfl, rfl⟩
  · intro h' tk m' news' F' N' J'
    obtain ⟨e1, e2, e6⟩ := J'
    first | refine canon2G e1 e2 F' ?_ | refine canon2H e1 e2 F' ?_
    clear e1 e2 F'
    intro rest F'
    subst e6
    k_steps
    exact hret _ [] _ _ (by k_asm) (by k_asm) (fun _ _ _ h => nomatch h) ⟨rfl, rfl⟩))
end
end Mine
end
section
open PySem PySem.W PySem.Spec PySem.Calls PyProof.Rows
set_option maxRecDepth 100000
set_option maxHeartbeats 1000000
namespace Mine
theorem laW12 : True := by
  k_with_none
  k_with "execs cons" => (k_here; first | k_gentoks | (with_reducible refine exq ?_; intro Q9 hQ9))
  k_with "k_unfold" => (with_reducible refine hQ9 _ _ ?_; clear hQ9)
  trivial
section
theorem ln81 : True := by
  k_with "tb_start" => first | with_reducible assumption | with_reducible exact List.mem_cons_self | (refine' List.mem_cons_of_mem _ ?_; tb_start) | ((with_reducible apply Sub.mem); (with_reducible assumption); tb_start)
  trivial
theorem ln82 : True := by
  k_with "k_all" => first | with_reducible assumption | exact fun p hp => Nat.ne_of_lt ((by with_reducible assumption : ∀ q ∈ _, q.1 < _) p hp) | exact allLt_to (by with_reducible assumption) | exact allLt_to (And.right (by with_reducible assumption))
  trivial
theorem ln83 : True := by
  k_with "ite" => (k_here; with_reducible first | refine ite_tt ?_ | refine ite_ff ?_ | refine ite_no (beq_eq_false_iff_ne.mpr (by assumption)) ?_ | refine ite_yes (bne_iff_ne.mpr (by assumption)) ?_)
  trivial
theorem ln84 : True := by
  k_with "subscriptTail Name UnaryOp ref int" => (k_here; k_dflt (refine' lst_last ?z83k1 ?z83k2 ?z83k3 ?_ ?z83k4; (case z83k1 => k_asm); (case z83k2 => tb_start); (case z83k3 => ((try simp only [List.length_append, List.length_cons, List.length_nil]); omega)); (case z83k4 => with_unfolding_all rfl); k_whole))
  trivial
theorem ln85 : True := by
  k_with "truthy ref" => (k_here; k_dflt (first
  | (refine' lst_true ?z84k1 ?z84k2 ?z84k3 ?_; (case z84k1 => k_asm); (case z84k2 => tb_start); (case z84k3 => omega); k_whole; intro _)
  | (refine' lst_false ?z84k1 ?z84k2 ?_; (case z84k1 => k_asm); (case z84k2 => tb_start); k_whole; intro _)))
  trivial
theorem ln86 : True := by
  k_with "subscriptTail Name Constant ref int" => (k_here; (with_reducible show wpAny _ _ (subscriptTail _ _ (Value.ref _) (Value.int _ _)) _ _ _); k_dflt (first | (refine' tup_item ?z85k1 ?z85k2 ?z85k3 ?z85k4 ?z85k5 ?z85k6 ?_ ?z85k7; (case z85k1 => k_asm); (case z85k2 => tb_start); (case z85k3 => exact rfl); (case z85k4 => exact rfl); (case z85k5 => decide); (case z85k6 => decide); (case z85k7 => with_unfolding_all rfl); k_whole) | (refine' lst_item ?z85k1 ?z85k2 ?z85k3 ?z85k4 ?z85k5 ?_ ?z85k6; (case z85k1 => k_asm); (case z85k2 => tb_start); (case z85k3 => decide); (case z85k4 => decide); (case z85k5 => exact rfl); (case z85k6 => with_unfolding_all rfl); k_whole) | (refine' lcg_item ?z85k1 ?z85k2 ?z85k3 ?z85k4 ?z85k5 ?_ ?z85k6; (case z85k1 => k_asm); (case z85k2 => tb_start); (case z85k3 => decide); (case z85k4 => decide); (case z85k5 => exact rfl); (case z85k6 => with_unfolding_all rfl); k_whole)))
  trivial
/-- a line as it is read: its depth, its text, the text's value -/
structure Ln where
  x : List Nat
  d : Nat
  txt : List Nat
  v : Int
noncomputable abbrev Pl := List (Nat × Int × Int)
noncomputable def popGE (e : Nat) (p : Pl) : Pl := p.dropWhile fun q => decide (e ≤ q.1)
noncomputable def leafOk (e : Nat) : Pl → Prop
  | [] => True
  | q :: _ => e ≤ q.1 → q.2.1 = q.2.2
noncomputable def toldAt (e : Nat) (t : Int) : Pl → Int
  | [] => t
  | q :: _ => if e ≤ q.1 then Builtin.bitOr t q.2.2 else t
noncomputable def topOf : Pl → Int × Int
  | [] => (255, 255)
  | q :: _ => q.2
noncomputable def pushLn (ln : Ln) (p : Pl) : Pl :=
  if ln.txt = [] then p else (ln.d, Builtin.bitAnd (topOf p).1 ln.v, if ln.txt.length < 3 then Builtin.bitAnd (topOf p).2 ln.v else (topOf p).2) :: p
/-- what the reading tells of the lines -/
inductive Told : List Ln → Pl → Int → Int → Prop
  | nil {p : Pl} {t : Int} : Told [] p t t
  | cons {ln : Ln} {r : List Ln} {p : Pl} {t u : Int} : leafOk ln.d p → Told r (pushLn ln (popGE ln.d p)) (toldAt ln.d t p) u → Told (ln :: r) p t u
structure Leads (sd : Nat → WS) : Prop where
  small : ∀ d, d ≤ 20 → (sd d).cnt.length ≤ 5000 ∧ (sd d).b ≤ 5000 ∧ (sd d).n ≤ 900
  up : ∀ d e, d < e → e ≤ 20 → (sd d).n < (sd e).n ∧ (sd d).nt ≤ (sd e).nt ∧ ∀ ts, 2 ≤ ts → lvl (sd d) ts < lvl (sd e) ts
  down : ∀ d e, e ≤ d → d ≤ 20 → (sd e).n ≤ (sd d).n
structure LnOk (sd : Nat → WS) (ln : Ln) : Prop where
  len : ln.x.length ≤ 1000
  dep : ln.d ≤ 20
  ws : wsGo ln.x ⟨[], 0, 0, 0⟩ = sd ln.d
  cut : ln.x.drop (sd ln.d).n = ln.txt
  val : ln.txt ≠ [] → ∃ ts fin, ln.txt = flatT ts ∧ runT ts [] = some fin ∧ okT ts ∧ fin ≠ [] ∧ resV fin = ln.v
inductive PIs (w : World) (sd : Nat → WS) (lg : List (Addr × Obj)) : List Value → Pl → Prop
  | nil : PIs w sd lg [] []
  | snoc {vs : List Value} {p : Pl} {d : Nat} {m al : Int} {T wa : Addr} {t u : Tok} : PIs w sd lg vs p → (T, tupO [.ref wa, .int m t, .int al u]) ∈ lg → WsAt w lg wa (sd d) → d ≤ 20 → PIs w sd lg (vs ++ [.ref T]) ((d, m, al) :: p)
inductive LIs : List Value → List Ln → Prop
  | nil : LIs [] []
  | cons {vs : List Value} {ls : List Ln} {ln : Ln} {t : Tok} : LIs vs ls → LIs (.str ⟨ln.x.toArray⟩ t :: vs) (ln :: ls)
noncomputable def JT (w : World) (sd : Nat → WS) (lns : List Ln) (T : Int) (news0 : List (Addr × Obj)) (ll : Addr) (lo : Obj) (i : Nat) (m₁ : Str → Option Value) (news₁ : List (Addr × Obj)) : Prop :=
  ∃ (pl : Addr) (p : Pl) (told : Int) (vs : List Value) (ep : Nat) (lg : List (Addr × Obj)) (tt : Tok), m₁ (PySem.Str.ofString "pile") = some (.ref pl) ∧ m₁ (PySem.Str.ofString "told") = some (.int told tt) ∧
    news₁ = (pl, W.listOf vs.toArray ep) :: lg ∧ (∀ q ∈ lg, q.1 ≠ pl) ∧ (ll, lo) ∈ lg ∧ PIs w sd lg vs p ∧ Told (lns.drop i) p told T ∧ vs.length ≤ i ∧ Sub news0 lg
theorem ln87 : True := by
  k_with "binaryOp Add ref ref" => (k_here; k_dflt (refine' lst_addO ?z86k1 ?z86k2 ?z86k3 ?z86k4 ?z86k5 ?_; (case z86k1 => k_asm); (case z86k2 => k_asm); (case z86k3 => tb_start); (case z86k4 => tb_start); (case z86k5 => ((try simp only [List.length_cons, List.length_nil]); omega)); k_whole; intro x' h' F' N' l1'))
  trivial
theorem LIs.length : ∀ {vs : List Value} {ls : List Ln}, LIs vs ls → vs.length = ls.length
  | _, _, .nil => rfl
  | _, _, .cons r => by rw [List.length_cons, List.length_cons, LIs.length r]
theorem LIs.at {i : Nat} {v : Value} : ∀ {vs : List Value} {ls : List Ln}, LIs vs ls → vs[i]? = some v → ∃ ln t, ls[i]? = some ln ∧ v = .str ⟨ln.x.toArray⟩ t
  | _, _, .nil, h => by simp at h
  | _, _, .cons (ln := ln) (t := t) r, h => by
    cases i with
    | zero => exact ⟨ln, t, rfl, by simpa using h.symm⟩
    | succ i => exact LIs.at (i := i) r (by simpa using h)
theorem LIs.snoc {ln : Ln} {t : Tok} : ∀ {vs : List Value} {ls : List Ln}, LIs vs ls → LIs (vs ++ [.str ⟨ln.x.toArray⟩ t]) (ls ++ [ln])
  | _, _, .nil => .cons .nil
  | _, _, .cons r => .cons (LIs.snoc r)
theorem perm4 {α : Type} {a b x y : α} {n : List α} : ∀ p, p ∈ b :: a :: n → p ∈ a :: x :: y :: b :: n := fun p h => by
  simp only [List.mem_cons] at h ⊢
  rcases h with h | h | h
  · exact .inr (.inr (.inr (.inl h)))
  · exact .inl h
  · exact .inr (.inr (.inr (.inr h)))
theorem News.sub {h₀ h : Heap} {L : Addr} {a b : List (Addr × Obj)} (N : News h₀ L h a) (hs : ∀ p, p ∈ b → p ∈ a) : News h₀ L h b := fun p hp => N p (hs p hp)
theorem PIs.mono {w : World} {sd : Nat → WS} {lg lg' : List (Addr × Obj)} (hs : ∀ p ∈ lg, p ∈ lg') {vs : List Value} {p : Pl} (h : PIs w sd lg vs p) : PIs w sd lg' vs p := by
  induction h with
  | nil => exact .nil
  | snoc _ hm hw hd ih => exact .snoc ih (hs _ hm) (hw.mono hs) hd
theorem told_open {vs : List Value} {lns : List Ln} {ln0 : Ln} {t : Tok} {h₀ h : Heap} {L x' pl : Addr} {o : Obj} {a b : Addr × Obj} {news : List (Addr × Obj)} (hv : LIs vs lns) (h0 : ln0.x = []) (N : News h₀ L h ((x', W.listOf (vs ++ [Value.str (PySem.Str.ofString "") t]).toArray 0) :: a :: b :: (pl, o) :: news)) :
    ∃ wsl, LIs wsl (lns ++ [ln0]) ∧ News h₀ L h ((pl, o) :: (x', W.listOf wsl.toArray 0) :: news) := by
  have e : PySem.Str.ofString "" = ⟨([] : List Nat).toArray⟩ := by decide +kernel
  have hL := LIs.snoc (ln := ln0) (t := t) hv
  rw [h0, ← e] at hL
  exact ⟨_, hL, News.sub N perm4⟩
theorem told_open2 {w : World} {h₀ h : Heap} {L I pl wa : Addr} {oI o : Obj} {tl lg : List (Addr × Obj)} {st : WS} (hl : ∀ q ∈ (I, oI) :: (pl, o) :: lg, ∀ p ∈ tl, q.1 < p.1) (hoff : ∀ q ∈ lg, q.1 ≠ pl) (hI : ∀ q ∈ (pl, o) :: lg, q.1 ≠ I) (hW : WsAt w tl wa st) (N : News h₀ L h (tl ++ ((I, oI) :: (pl, o) :: lg))) :
    ∃ lg', Sub lg lg' ∧ WsAt w lg' wa st ∧ (∀ q ∈ lg', q.1 ≠ pl) ∧ (∀ q ∈ lg', q.1 ≠ I) ∧ News h₀ L h ((I, oI) :: (pl, o) :: lg') := by
  refine ⟨tl ++ lg, ⟨fun p hp => List.mem_append_right _ hp⟩, hW.mono fun p hp => List.mem_append_left _ hp, fun q hq => ?_, fun q hq => ?_, fun p hp => N p ?_⟩
  · rcases List.mem_append.mp hq with hq | hq
    · exact Ne.symm (Nat.ne_of_lt (hl (pl, o) (.tail _ (.head _)) q hq))
    · exact hoff q hq
  · rcases List.mem_append.mp hq with hq | hq
    · exact Ne.symm (Nat.ne_of_lt (hl (I, oI) (.head _) q hq))
    · exact hI q (.tail _ hq)
  · simp only [List.mem_cons, List.mem_append] at hp ⊢
    rcases hp with h | h | h | h
    · exact .inr (.inl h)
    · exact .inr (.inr (.inl h))
    · exact .inl h
    · exact .inr (.inr (.inr h))
theorem nl2 {h₀ h : Heap} {L : Addr} {a b p : Addr × Obj} {lg : List (Addr × Obj)} (_N : News h₀ L h (a :: b :: lg)) (hm : p ∈ lg) : p ∈ a :: b :: lg := .tail _ (.tail _ hm)
theorem slice_fr (l : List Nat) (i : Nat) (hi : i ≤ l.length) : Txt.slice ⟨l.toArray⟩ (some (i : Int)) none = ⟨(l.drop i).toArray⟩ := by
  have e : Builtin.Str.strSliceIndices (some (i : Int)) none 1 l.length = Builtin.Str.strSliceIndices (some (i : Int)) (some ((l.length : Nat) : Int)) 1 l.length := by
    unfold Builtin.Str.strSliceIndices
    have h2 : ¬ ((l.length : Int) < 0) := by omega
    have e1 : min (l.length : Int) (l.length : Int) = l.length := by omega
    simp only [h2, if_false, e1, show ((1 : Int) > 0) = True from by simp, if_true]
    first | done | rfl | simp
  have e2 : Txt.slice ⟨l.toArray⟩ (some (i : Int)) none = Txt.slice ⟨l.toArray⟩ (some (i : Int)) (some ((l.length : Nat) : Int)) := by
    unfold Txt.slice
    simp only [Str.length, List.size_toArray]
    rw [e]
  rw [e2, slice_dt l i l.length hi hi, List.take_of_length_le (by simp)]
theorem slice_frW {prog : Program} {w : World} {A : Around} {E : Value → Shared → Prop} {s : Shared} {value slice : PySem.Expr} {x y : List Nat} {i : Nat} {t : Tok} {h₀ : Heap} {L : Addr} {m : Str → Option Value} {news : List (Addr × Obj)} {Q : Value → Shared → Prop} {ui : Tok}
    (F : Fr h₀ L s.heap m) (N : News h₀ L s.heap news) (hx : x.drop i = y) (hi : i ≤ x.length) (hl : x.length ≤ 1000)
    (h : ∀ h' t' tk, Fr h₀ L h' m → News h₀ L h' news → Q (.str ⟨y.toArray⟩ t') { s with heap := h', toks := tk })
    (hs : subscripted slice false (.str ⟨x.toArray⟩ t) (.ref s.heap.objs.size) = operate [.ref s.heap.objs.size, .str ⟨x.toArray⟩ t] (getItem (.str ⟨x.toArray⟩ t) (.ref s.heap.objs.size)))
    (ht : ∀ v, letTemporaryGo value (.str ⟨x.toArray⟩ t) v = pure ()) :
    wpAny (model prog w) A (subscriptTail value slice (.str ⟨x.toArray⟩ t) (.ref s.heap.objs.size)) Q E { s with heap := s.heap.push { cls := .type "slice", data := .fields #[.int i ui, .none, .none] } } := by
  subst hx
  refine slice_strN_sn F N (fun h' t' tk F' N' => ?_) hs ht (by simp only [Str.length, List.size_toArray, sizeLine_eq]; omega)
  rw [slice_fr x i hi]
  exact h h' t' tk F' N'
theorem ln88 : True := by
  k_with "subscriptTail Name Slice str ref" => (k_here; (with_reducible show wpAny _ _ (subscriptTail _ (Expr.Slice (some _) none none _) _ _) _ _ _); k_dflt (refine' slice_frW (s := ⟨_, _, _, _, _⟩) ?z87k1 ?z87k2 ?z87k3 ?z87k4 ?z87k5 ?_ ?z87k6 ?z87k7; (case z87k1 => k_asm); (case z87k2 => k_asm); (case z87k3 => with_reducible assumption); (case z87k4 => with_reducible assumption); (case z87k5 => with_reducible assumption); (case z87k6 => with_unfolding_all rfl); (case z87k7 => intro _; with_unfolding_all rfl); k_whole; intro h' t' k' F' N'))
  trivial
theorem n_le' : ∀ (x : List Nat) (st : WS), (wsGo x st).n ≤ x.length + st.n
  | [], st => by simp [wsGo]
  | c :: r, st => by
    unfold wsGo
    split
    · have := n_le' r st.sp; simp only [WS.sp, List.length_cons] at this ⊢; omega
    · split
      · have := n_le' r st.tab
        simp only [WS.tab, List.length_cons] at this ⊢; omega
      · simp only [List.length_cons]; omega
theorem n_le (x : List Nat) : (wsGo x ⟨[], 0, 0, 0⟩).n ≤ x.length := by have := n_le' x ⟨[], 0, 0, 0⟩; simpa using this
noncomputable def PIf (pl wa : Addr) (told : Int) (txt : List Nat) (l0 : List (Addr × Obj)) (m' : Str → Option Value) (nw : List (Addr × Obj)) : Prop :=
  ∃ (tt tx : Tok), nw = l0 ∧ m' (PySem.Str.ofString "pile") = some (.ref pl) ∧ m' (PySem.Str.ofString "told") = some (.int told tt) ∧ m' (PySem.Str.ofString "white") = some (.ref wa) ∧ m' (PySem.Str.ofString "text") = some (.str ⟨txt.toArray⟩ tx)
theorem lst_trueS {prog : Program} {w : World} {A : Around} {E : Value → Shared → Prop} {s : Shared} {h₀ : Heap} {L l : Addr} {news : List (Addr × Obj)} {vs : List Value} {n : Nat} {v : Value} {Q : Bool → Shared → Prop} (N : News h₀ L s.heap news) (hm : (l, W.listOf (vs ++ [v]).toArray n) ∈ news) (hz : vs.length ≤ 100000) (h : ∀ tk, Q true { s with toks := tk }) : wpAny (model prog w) A (truthy (.ref l)) Q E s := by
  have e := wpAny_truthy_list (prog := prog) (w := w) (A := A) (E := E) (Q := Q) (lst_is N hm) (by simp only [List.size_toArray, List.length_append, List.length_cons, List.length_nil]; omega)
  refine e ?_
  have e2 : (!(vs ++ [v]).toArray.isEmpty) = true := by simp
  first | exact h _ | (rw [e2]; exact h _) | (simp; exact h _)
theorem ln89 : True := by
  k_with "truthy ref" => (k_here; k_dflt (refine' lst_trueS ?z88k1 ?z88k2 ?z88k3 ?_; (case z88k1 => k_asm); (case z88k2 => tb_start); (case z88k3 => omega); k_whole; intro _))
  trivial
theorem less_sdY (w : World) {sd : Nat → WS} {a b : Addr} {d e : Nat} {news : List (Addr × Obj)} (hsd : Leads sd) (h : WsAt w news a (sd d)) (h' : WsAt w news b (sd e)) (hde : d < e) (_hd : d ≤ 20) (he : e ≤ 20) : Con w 115 [.ref a, .ref b] news 10 120 (BoolOut true) := by
  obtain ⟨u1, u2, u3⟩ := hsd.up d e hde he
  obtain ⟨s1, s2, _⟩ := hsd.small d (by omega)
  obtain ⟨s3, s4, _⟩ := hsd.small e he
  exact less_yes w h h' u1 u2 u3 s1 s2 s3 s4
theorem less_sdN (w : World) {sd : Nat → WS} {a b : Addr} {d e : Nat} {news : List (Addr × Obj)} (hsd : Leads sd) (h : WsAt w news a (sd d)) (h' : WsAt w news b (sd e)) (hde : ¬ d < e) (hd : d ≤ 20) (_he : e ≤ 20) : Con w 115 [.ref a, .ref b] news 10 120 (BoolOut false) :=
  less_no w h h' (hsd.down d e (by omega) hd)
theorem ln90 : True := by
  k_with "call ref" => (k_here; (try dsimp only [List.cons_append, List.nil_append]); (with_reducible show wpAny _ _ (call (Value.ref 115) _) _ _ _); k_dflt (first | (refine' Con.use (less_sdY _ ?z89kA (WsAt.mono ?z89kW ?z89kS) (WsAt.mono ?z89kV ?z89kT) ?z89kB ?z89kC ?z89kD) ?z89k1 ?z89k2 ?z89k3 ?z89k4 ?z89k5 ?z89k6 ?z89k7 ?z89k8 ?_; (case z89k1 => k_asm); (case z89k2 => k_asm); (case z89k3 => k_asm); (case z89k4 => k_asm); (case z89k5 => k_asm); (case z89k6 => first | exact rfl | assumption); (case z89k7 => ktr_room); (case z89k8 => ktr_units); (case z89kW => with_reducible assumption); (case z89kS => (intro p9 hp9; tb_start)); (case z89kV => with_reducible assumption); (case z89kT => (intro p9 hp9; tb_start)); (case z89kA => with_reducible assumption); (case z89kB => with_reducible assumption); (case z89kC => with_reducible assumption); (case z89kD => with_reducible assumption); k_whole; intro r9 tl9 h9 tk9 F9 N9 hl9 ho9; obtain ⟨e9, e9'⟩ := ho9; subst e9; subst e9'; (replace N9 := News.nilL N9); (try dsimp only); (try k_fold)) | (refine' Con.use (less_sdN _ ?z89kA (WsAt.mono ?z89kW ?z89kS) (WsAt.mono ?z89kV ?z89kT) ?z89kB ?z89kC ?z89kD) ?z89k1 ?z89k2 ?z89k3 ?z89k4 ?z89k5 ?z89k6 ?z89k7 ?z89k8 ?_; (case z89k1 => k_asm); (case z89k2 => k_asm); (case z89k3 => k_asm); (case z89k4 => k_asm); (case z89k5 => k_asm); (case z89k6 => first | exact rfl | assumption); (case z89k7 => ktr_room); (case z89k8 => ktr_units); (case z89kW => with_reducible assumption); (case z89kS => (intro p9 hp9; tb_start)); (case z89kV => with_reducible assumption); (case z89kT => (intro p9 hp9; tb_start)); (case z89kA => with_reducible assumption); (case z89kB => with_reducible assumption); (case z89kC => with_reducible assumption); (case z89kD => with_reducible assumption); k_whole; intro r9 tl9 h9 tk9 F9 N9 hl9 ho9; obtain ⟨e9, e9'⟩ := ho9; subst e9; subst e9'; (replace N9 := News.nilL N9); (try dsimp only); (try k_fold))))
  trivial
theorem toldAt_no {e d : Nat} {t a b : Int} {p : Pl} (h : d < e) : toldAt e t ((d, a, b) :: p) = t := if_neg (Nat.not_le_of_lt h)
theorem toldAt_yes {e d : Nat} {t a b : Int} {p : Pl} (h : ¬ d < e) : toldAt e t ((d, a, b) :: p) = Builtin.bitOr t b := if_pos (Nat.le_of_not_lt h)
theorem ite_ns {a : Int} {P Q : Prop} (h : Q) : if (a != a) = true then P else Q := ite_no (by simp) h
theorem ln91 : True := by
  k_with "ite" => (k_here; with_reducible refine ite_ns ?_)
  trivial
noncomputable def PWh (w : World) (sd : Nat → WS) (pl wa : Addr) (told : Int) (txt : List Nat) (q : Pl) (a : Addr × Obj) (lg : List (Addr × Obj)) (i : Nat) (m' : Str → Option Value) (nw : List (Addr × Obj)) : Prop :=
  ∃ (vs : List Value) (ep : Nat) (tt tx : Tok), nw = a :: (pl, W.listOf vs.toArray ep) :: lg ∧ m' (PySem.Str.ofString "pile") = some (.ref pl) ∧ m' (PySem.Str.ofString "told") = some (.int told tt) ∧ m' (PySem.Str.ofString "white") = some (.ref wa) ∧ m' (PySem.Str.ofString "text") = some (.str ⟨txt.toArray⟩ tx) ∧ PIs w sd lg vs q ∧ vs.length ≤ i
noncomputable def JWh (w : World) (sd : Nat → WS) (pl wa : Addr) (told : Int) (txt : List Nat) (e : Nat) (p : Pl) (a : Addr × Obj) (lg : List (Addr × Obj)) (i : Nat) (n : Nat) (m' : Str → Option Value) (nw : List (Addr × Obj)) : Prop :=
  ∃ (q : Pl) (vs : List Value) (ep : Nat) (tt tx : Tok), nw = a :: (pl, W.listOf vs.toArray ep) :: lg ∧ m' (PySem.Str.ofString "pile") = some (.ref pl) ∧ m' (PySem.Str.ofString "told") = some (.int told tt) ∧ m' (PySem.Str.ofString "white") = some (.ref wa) ∧ m' (PySem.Str.ofString "text") = some (.str ⟨txt.toArray⟩ tx) ∧ PIs w sd lg vs q ∧ popGE e p = popGE e q ∧ n = q.length ∧ vs.length ≤ i
theorem ln92 : True := by
  k_with "call builtin:list.pop" => (k_here; (try dsimp only [List.cons_append, List.nil_append]); k_dflt (refine' pile_pop ?z91k1 ?z91k2 ?z91k3 ?z91k4 ?_; (case z91k1 => k_asm); (case z91k2 => k_asm); (case z91k3 => k_upd); (case z91k4 => omega); k_whole; intro h' F' N'; (try k_sweep)))
  trivial
theorem ln93 : True := by
  k_with "call builtin:list.append" => (k_here; (try dsimp only [List.cons_append, List.nil_append]); k_dflt (refine' pile_push ?z92k1 ?z92k2 ?z92k3 ?z92k4 ?_; (case z92k1 => k_asm); (case z92k2 => k_asm); (case z92k3 => k_upd); (case z92k4 => ((try simp only [List.length_append, List.length_cons, List.length_nil]); omega)); k_whole; intro h' F' N'; (try k_sweep)))
  trivial
theorem popGE_no {e d : Nat} {a b : Int} {p : Pl} (h : d < e) : popGE e ((d, a, b) :: p) = (d, a, b) :: p := by
  have : decide (e ≤ d) = false := by simpa using h
  simp [popGE, List.dropWhile, this]
theorem popGE_yes {e d : Nat} {a b : Int} {p : Pl} (h : ¬ d < e) : popGE e ((d, a, b) :: p) = popGE e p := by
  have : decide (e ≤ d) = true := by simpa using h
  simp [popGE, List.dropWhile, this]
theorem truthy_ne {prog : Program} {w : World} {A : Around} {E : Value → Shared → Prop} {s : Shared} {l : List Nat} {t : Tok} {Q : Bool → Shared → Prop} (hl : ¬ l = []) (hz : l.length ≤ 1000) (h : ∀ tk, Q true { s with toks := tk }) : wpAny (model prog w) A (truthy (.str ⟨l.toArray⟩ t)) Q E s := by
  have e0 : (⟨l.toArray⟩ : Str).length = l.length := by simp [Str.length]
  refine PySem.P.truthy_str (by rw [e0]; omega) ?_
  have e : (((⟨l.toArray⟩ : Str).length : Int) != 0) = true := by
    rw [e0]
    have : l.length ≠ 0 := by simpa using hl
    simp [this, hl]
  rw [e]; exact h _
theorem ln94 : True := by
  k_with "truthy str" => (k_here; k_dflt (refine' truthy_ne ?z93k1 ?z93k2 ?_; (case z93k1 => with_reducible assumption); (case z93k2 => with_reducible assumption); k_whole; intro _))
  trivial
theorem ln95 : True := by
  k_with "call ref" => (k_here; (try dsimp only [List.cons_append, List.nil_append]); (with_reducible show wpAny _ _ (call (Value.ref 191) _) _ _ _); k_dflt (refine' Con.use0 (value_ _ _ _ _ _ _ ?z94kA ?z94kB ?z94kC ?z94kD ?z94kE) ?z94k1 ?z94k2 ?z94k3 ?z94k4 ?z94k5 ?z94k6 ?z94k7 ?z94k8 ?_; (case z94k1 => k_asm); (case z94k2 => k_asm); (case z94k3 => k_asm); (case z94k4 => k_asm); (case z94k5 => k_asm); (case z94k6 => first | exact rfl | assumption); (case z94k7 => ktr_room); (case z94k8 => ktr_units); (case z94kA => with_reducible assumption); (case z94kB => with_reducible assumption); (case z94kC => with_reducible assumption); (case z94kD => with_reducible assumption); (case z94kE => with_reducible assumption); k_whole; intro t9 h9 tk9 F9 N9; (try dsimp only); (try k_fold)))
  trivial
theorem offI2 {I pl : Addr} {o : Obj} {lg : List (Addr × Obj)} (h1 : @Ne Nat pl I) (h2 : ∀ q ∈ lg, q.1 ≠ I) : ∀ p ∈ (pl, o) :: lg, p.1 ∉ [I] := fun p hp => by
  rcases List.mem_cons.mp hp with rfl | hp
  · simpa using h1
  · simpa using h2 p hp
theorem ln96 : True := by
  k_with "call builtin:len" => (k_here; (with_reducible show wpAny _ _ (call (Value.builtin "len") [Value.str _ _]) _ _ _); k_dflt (refine' len_strL ?z95k1 ?_; (case z95k1 => omega); k_whole; intro _ _))
  trivial
theorem told_push {h₀ h' : Heap} {L I pl T' : Addr} {oI o ob : Obj} {lg' all : List (Addr × Obj)} {Jn : (Str → Option Value) → List (Addr × Obj) → Prop} {s₁ : Shared} {tk : Nat} {m₂ : Str → Option Value}
    (F : Fr h₀ L h' m₂) (N : News h₀ L h' all) (hs : ∀ p, p ∈ (I, oI) :: (pl, o) :: (T', ob) :: lg' → p ∈ all) (hTI : @Ne Nat T' I) (hplI : @Ne Nat pl I) (hoffI' : ∀ q ∈ lg', q.1 ≠ I) (hJ : Jn m₂ ((pl, o) :: (T', ob) :: lg')) : LoopStepU h₀ L [I] [(I, oI)] Jn s₁ .next { s₁ with heap := h', toks := tk } :=
  LoopStepU.intro F (fun p hp => N p (hs p hp)) (fun p hp => by
    rcases List.mem_cons.mp hp with rfl | hp
    · simpa using hplI
    · rcases List.mem_cons.mp hp with rfl | hp
      · simpa using hTI
      · simpa using hoffI' p hp) hJ
theorem sub3 {α : Type} {a b c : α} {l : List α} : ∀ p, p ∈ a :: b :: c :: l → p ∈ c :: a :: b :: l := fun p h => by
  simp only [List.mem_cons] at h ⊢
  rcases h with h | h | h | h
  · exact .inr (.inl h)
  · exact .inr (.inr (.inl h))
  · exact .inl h
  · exact .inr (.inr (.inr h))
theorem sub4 {α : Type} {a b c x : α} {l : List α} : ∀ p, p ∈ a :: b :: c :: l → p ∈ c :: x :: a :: b :: l := fun p h => by
  simp only [List.mem_cons] at h ⊢
  rcases h with h | h | h | h
  · exact .inr (.inr (.inl h))
  · exact .inr (.inr (.inr (.inl h)))
  · exact .inl h
  · exact .inr (.inr (.inr (.inr h)))
theorem off1 {T' pl : Addr} {ob : Obj} {lg : List (Addr × Obj)} (h1 : @Ne Nat T' pl) (h2 : ∀ q ∈ lg, q.1 ≠ pl) : ∀ q ∈ (T', ob) :: lg, q.1 ≠ pl := fun q hq => by
  rcases List.mem_cons.mp hq with rfl | hq
  · exact h1
  · exact h2 q hq
theorem told_ (w : World) {sd : Nat → WS} (hsd : Leads sd) {l : Addr} {vs : List Value} {ep : Nat} {news : List (Addr × Obj)} (lns : List Ln) (ln0 : Ln) (Tv : Int) (hm : (l, W.listOf vs.toArray ep) ∈ news) (hv : LIs vs lns) (h0 : ln0.x = []) (hok : ∀ ln ∈ lns ++ [ln0], LnOk sd ln) (hlen : lns.length ≤ 500) (ht : Told (lns ++ [ln0]) [] 0 Tv) : ConU w 198 [.ref l] news 20 200 (fun _ r => ∃ t', r = .int Tv t') := by
  have hvl := hv.length
  unfold ConU
  intro mean mg mb dp un gd cn cs a' ccd cl outer A₀ base h₀ L m s Q E B F X N T hk hd hu hret
  w_on
  w_strict (
  refine wpAny_call ?_
  k_dflt ktr_enter
  repeat' ((fail_if_success (with_reducible show wpAny _ _ (exec (Stmt.For _ _ _ _ _) _) _ _ _)); first | (k_unfold; (try dsimp only)) | (k_end; kc_close) | walk1 | (dsimp only; walk1) | (leave1; walk_say "STEP leave1"; (try dsimp only)) | fail "no step")
  (with_reducible rename Fr _ _ _ _ => FF)
  refine For_invVF FF (by rfl) (by rfl) ?_
  repeat' ((fail_if_success (with_reducible show wpAny _ _ (pyIter _) _ _ _)); first | (k_unfold; (try dsimp only)) | (k_end; kc_close) | walk1 | (dsimp only; walk1) | (leave1; walk_say "STEP leave1"; (try dsimp only)) | fail "no step")
  (with_reducible rename Fr _ _ _ _ => FF2)
  (with_reducible rename News _ _ _ ((_, W.listOf (List.toArray (_ ++ _)) 0) :: _) => NN)
  (with_reducible rename (∀ p ∈ (_, W.listOf (List.toArray _) 0) :: _, p.1 < _) => l1x)
  (with_reducible rename (∀ p ∈ news, p.1 < _) => l1p)
  obtain ⟨wsl, hwsl, NN2⟩ := told_open hv h0 NN
  refine iter_listJ (vs := wsl) (ep := 0) (by rfl) FF2 NN2 (JT w sd (lns ++ [ln0]) Tv news _ _) (exI7 _ ([]) 0 ([]) 0 _ _ ⟨rfl, rfl, rfl, ?off, .head _, .nil, ht, Nat.le_refl _, ⟨fun _ h => .tail _ h⟩⟩) ?hJl ?turn ?done
  case off =>
    intro q hq
    rcases List.mem_cons.mp hq with rfl | hq
    · exact Ne.symm (Nat.ne_of_lt (l1x _ (.tail _ (.tail _ (.head _)))))
    · exact Nat.ne_of_lt (l1p q hq)
  case hJl =>
    intro i m nw hJ
    refine ex7 hJ ?_
    intro pl p told vs' ep' lg tt hX9
    refine an9 hX9 ?_
    intro e1 e2 e3 hoff hll hP hT hz hsb
    clear hX9 hJ
    rw [e3]
    exact .tail _ hll
  case turn =>
    intro i v m₁ news₁ I oI h₁ tk₁ hi hJ hoffI F₁ N₁
    refine ex7 hJ ?_
    intro pl p told vs' ep' lg tt hX9
    refine an9 hX9 ?_
    intro e1 e2 e3 hoff hll hP hT hz hsb
    clear hX9 hJ
    obtain ⟨ln, tln, hln, rfl⟩ := LIs.at hwsl hi
    have hdr := drop_at hln
    rw [hdr] at hT
    have hlnok := hok ln (List.mem_of_getElem? hln)
    rcases hT with _ | ⟨hleaf, hT⟩
    first | refine canon2G e1 e2 F₁ ?_ | refine canon2H e1 e2 F₁ ?_
    clear e1 e2 F₁
    intro rest F₁
    subst e3
    have hplI : @Ne Nat pl I := hoffI (pl, _) (.head _)
    obtain ⟨hx1, hx2, hx3, hx4, hx5⟩ := hlnok
    repeat' ((fail_if_success (with_reducible show wpAny _ _ (call (Value.ref _) _) _ _ _)); first | (k_unfold; (try dsimp only)) | (k_end; kc_close) | walk1 | (dsimp only; walk1) | (leave1; walk_say "STEP leave1"; (try dsimp only)) | fail "no step")
    refine' Con.use (ws_ w ln.x tln _ hx1) ?k1 ?k2 ?k3 ?k4 ?k5 ?k6 ?k7 ?k8 ?_
    case k1 => k_asm
    case k2 => k_asm
    case k3 => k_asm
    case k4 => k_asm
    case k5 => k_asm
    case k6 => first | exact rfl | assumption
    case k7 => ktr_room
    case k8 => ktr_units
    k_whole
    intro r9 tl9 h9 tk9 F9 N9 hl9 ho9
    obtain ⟨wa, e9, hW⟩ := ho9
    subst e9
    rw [hx3] at hW
    obtain ⟨lg', hsub, hW', hoff', hoffI', N9'⟩ := told_open2 hl9 hoff hoffI hW N9
    clear N9 hl9 hW
    have hP' := PIs.mono hsub.h hP
    refine ex8 hW' ?_
    intro d dn dt wvs raw tb tn tt' hX9
    refine ex5 hX9 ?_
    intro k0 k1 k2 k3 k4 hY9
    refine an5 hY9 ?_
    intro m1 m2 m3 m4 hIw
    clear hY9 hX9
    have q1 := nl2 N9' m1
    have q2 := nl2 N9' m2
    have hnx : (sd ln.d).n ≤ ln.x.length := by rw [← hx3]; exact n_le ln.x
    try dsimp only
    try k_fold
    repeat' ((fail_if_success (with_reducible show wpAny _ _ (exec (Stmt.If _ _ _ _) _) _ _ _)); first | (k_unfold; (try dsimp only)) | (k_end; kc_close) | walk1 | (dsimp only; walk1) | (leave1; walk_say "STEP leave1"; (try dsimp only)) | fail "no step")
    (with_reducible rename Fr _ _ _ _ => FF3)
    (with_reducible rename News _ _ _ _ => NN3)
    refine aft_then (PIf pl wa (toldAt ln.d told p) ln.txt ((I, oI) :: (pl, W.listOf vs'.toArray ep') :: lg')) FF3 ?cIf ?cAf
    case cIf =>
      rcases hP' with _ | @⟨vs1, p1, d1, ma, al, T1, wa1, t1, u1, hP1, hT1, hW1, hd1⟩
      · k_steps
        exact Aft.intro (by k_asm) (by k_asm) ⟨_, _, rfl, rfl, rfl, rfl, rfl⟩
      · have hvs1 : vs1.length ≤ 600 := by
          have g1 := hwsl.length
          have g2 := (List.getElem?_eq_some_iff.mp hi).1
          have g3 : vs1.length + 1 ≤ i := by simpa using hz
          simp only [List.length_append, List.length_cons, List.length_nil] at g1
          omega
        have q3 := nl2 NN3 hT1
        refine ex8 hW1 ?_
        intro d' dn' dt'' vs'' raw' tb' tn' tt'' hX9
        refine ex5 hX9 ?_
        intro k0' k1' k2' k3' k4' hY9
        refine an5 hY9 ?_
        intro m1' m2' m3' m4' hI'
        clear hY9 hX9
        have q4 := nl2 NN3 m1'
        have q5 := nl2 NN3 m2'
        by_cases hde : d1 < ln.d
        · k_steps
          exact Aft.intro (by k_asm) (by k_asm) ⟨_, _, rfl, rfl, by rw [toldAt_no hde]; rfl, rfl, rfl⟩
        · have hma : ma = al := hleaf (Nat.le_of_not_lt hde)
          subst hma
          k_steps
          exact Aft.intro (by k_asm) (by k_asm) ⟨_, _, rfl, rfl, by rw [toldAt_yes hde]; rfl, rfl, rfl⟩
    case cAf =>
      intro h₂ tk₂ m₂ nw₂ F₂ N₂ hX9
      obtain ⟨tt2, tx2, hY9⟩ := hX9
      refine an5 hY9 ?_
      intro f0 f1 f2 f3 f4
      replace N₂ := News.of N₂ f0
      first | refine canon4G f1 f2 f3 f4 F₂ ?_ | refine canon4H f1 f2 f3 f4 F₂ ?_
      clear hY9 f0 f1 f2 f3 f4 F₂
      intro rest2 F₂
      repeat' ((fail_if_success (with_reducible show wpAny _ _ (exec (Stmt.While _ _ _ _) _) _ _ _)); first | (k_unfold; (try dsimp only)) | (k_end; kc_close) | walk1 | (dsimp only; walk1) | (leave1; walk_say "STEP leave1"; (try dsimp only)) | fail "no step")
      (with_reducible rename Fr _ _ _ _ => FF4)
      (with_reducible rename News _ _ _ _ => NN4)
      refine aft_then (PWh w sd pl wa (toldAt ln.d told p) ln.txt (popGE ln.d p) (I, oI) lg' i) FF4 ?cWh ?cAg
      case cWh =>
        refine While_inv (JWh w sd pl wa (toldAt ln.d told p) ln.txt ln.d p (I, oI) lg' i) FF4 NN4 (exI5 p vs' ep' _ _ ⟨rfl, rfl, rfl, rfl, rfl, hP', rfl, rfl, hz⟩) ?_
        intro n m₁ news₁ h₁' tk₁' F₁' N₁' J₁
        refine ex5 J₁ ?_
        intro p2 vs2 ep2 tt3 tx3 hX9
        refine an9 hX9 ?_
        intro g0 g1 g2 g3 g4 hP2 hpop hn2 hz2
        clear hX9 J₁
        first | refine canon4G g1 g2 g3 g4 F₁' ?_ | refine canon4H g1 g2 g3 g4 F₁' ?_
        clear g1 g2 g3 g4 F₁'
        intro rest3 F₁'
        subst g0
        rcases hP2 with _ | @⟨vs1, p1, d1, ma, al, T1, wa1, t1, u1, hP1, hT1, hW1, hd1⟩
        · k_steps
          exact Aft.intro (by k_asm) (by k_asm) (exI4 ([]) ep2 _ _ ⟨rfl, rfl, rfl, rfl, rfl, (by rw [hpop]; exact .nil), Nat.zero_le _⟩)
        · have hvs1 : vs1.length ≤ 600 := by
            have g1 := hwsl.length
            have g2 := (List.getElem?_eq_some_iff.mp hi).1
            have g3 : vs1.length + 1 ≤ i := by simpa using hz2
            simp only [List.length_append, List.length_cons, List.length_nil] at g1
            omega
          have q3 := nl2 N₁' hT1
          refine ex8 hW1 ?_
          intro d' dn' dt'' vs'' raw' tb' tn' tt'' hX9
          refine ex5 hX9 ?_
          intro k0' k1' k2' k3' k4' hY9
          refine an5 hY9 ?_
          intro m1' m2' m3' m4' hI'
          clear hY9 hX9
          have q4 := nl2 N₁' m1'
          have q5 := nl2 N₁' m2'
          by_cases hde : d1 < ln.d
          · k_steps
            exact Aft.intro (by k_asm) (by k_asm) (exI4 _ _ _ _ ⟨rfl, rfl, rfl, rfl, rfl, (by rw [hpop, popGE_no hde]; exact .snoc hP1 hT1 hW1 hd1), hz2⟩)
          · k_steps
            exact WhileStep.intro (by k_asm) (by k_asm) (by rw [hn2]; exact Nat.lt_succ_self _) (exI5 p1 vs1 _ _ _ ⟨rfl, rfl, rfl, rfl, rfl, hP1, (by rw [hpop, popGE_yes hde]), rfl, (by simp only [List.length_append, List.length_cons, List.length_nil] at hz2; omega)⟩)
      case cAg =>
        intro h₃ tk₃ m₃ nw₃ F₃ N₃ hX9
        refine ex4 hX9 ?_
        intro vs3 ep3 tt3 tx3 hY9
        refine an7 hY9 ?_
        intro f0 f1 f2 f3 f4 hP3 hz3
        replace N₃ := News.of N₃ f0
        first | refine canon4G f1 f2 f3 f4 F₃ ?_ | refine canon4H f1 f2 f3 f4 F₃ ?_
        clear hX9 hY9 f0 f1 f2 f3 f4 F₃
        intro rest3 F₃
        by_cases htx : ln.txt = []
        · rw [htx] at F₃
          k_steps
          exact LoopStepU.intro (by k_asm) (by k_asm) (offI2 hplI hoffI') (exI7 pl _ _ vs3 ep3 lg' _ ⟨rfl, rfl, rfl, hoff', hsub.h _ hll, hP3, (by rw [pushLn, if_pos htx] at hT; exact hT), Nat.le_succ_of_le hz3, ⟨fun q h => hsub.h q (hsb.h q h)⟩⟩)
        · obtain ⟨ts, fin, v1, v2, v3, v4, v5⟩ := hx5 htx
          have htl : ln.txt.length ≤ 1000 := by rw [← hx4]; simp only [List.length_drop]; omega
          generalize popGE ln.d p = pq at hP3 hT
          by_cases hlit : ln.txt.length < 3
          · rw [pushLn, if_neg htx, if_pos hlit, ← v5] at hT
            rcases hP3 with _ | @⟨vs1, p1, d1, ma, al, T1, wa1, t1, u1, hP1, hT1, hW1, hd1⟩
            · k_steps
              exact told_push (by k_asm) (by k_asm) sub4 (by refine neN ?_; omega) hplI hoffI' (exI7 pl _ _ _ _ _ _ ⟨rfl, rfl, rfl, off1 (by refine neN ?_; omega) hoff', .tail _ (hsub.h _ hll), PIs.snoc .nil (.head _) (WsAt.mono hW' fun _ h => .tail _ h) hx2, hT, Nat.succ_le_succ (Nat.zero_le _), ⟨fun q h => .tail _ (hsub.h q (hsb.h q h))⟩⟩)
            · have hvs1 : vs1.length ≤ 600 := by
                have g1 := hwsl.length
                have g2 := (List.getElem?_eq_some_iff.mp hi).1
                simp only [List.length_append, List.length_cons, List.length_nil] at g1 hz3
                omega
              have q3 := nl2 N₃ hT1
              have hP4 := PIs.snoc hP1 hT1 hW1 hd1
              k_steps
              exact told_push (by k_asm) (by k_asm) sub3 (by refine neN ?_; omega) hplI hoffI' (exI7 pl _ _ _ _ _ _ ⟨rfl, rfl, rfl, off1 (by refine neN ?_; omega) hoff', .tail _ (hsub.h _ hll), PIs.snoc (PIs.mono (fun _ h => .tail _ h) hP4) (.head _) (WsAt.mono hW' fun _ h => .tail _ h) hx2, hT, (by rw [List.length_append]; exact Nat.succ_le_succ hz3), ⟨fun q h => .tail _ (hsub.h q (hsb.h q h))⟩⟩)
          · rw [pushLn, if_neg htx, if_neg hlit, ← v5] at hT
            rcases hP3 with _ | @⟨vs1, p1, d1, ma, al, T1, wa1, t1, u1, hP1, hT1, hW1, hd1⟩
            · k_steps
              exact told_push (by k_asm) (by k_asm) sub4 (by refine neN ?_; omega) hplI hoffI' (exI7 pl _ _ _ _ _ _ ⟨rfl, rfl, rfl, off1 (by refine neN ?_; omega) hoff', .tail _ (hsub.h _ hll), PIs.snoc .nil (.head _) (WsAt.mono hW' fun _ h => .tail _ h) hx2, hT, Nat.succ_le_succ (Nat.zero_le _), ⟨fun q h => .tail _ (hsub.h q (hsb.h q h))⟩⟩)
            · have hvs1 : vs1.length ≤ 600 := by
                have g1 := hwsl.length
                have g2 := (List.getElem?_eq_some_iff.mp hi).1
                simp only [List.length_append, List.length_cons, List.length_nil] at g1 hz3
                omega
              have q3 := nl2 N₃ hT1
              have hP4 := PIs.snoc hP1 hT1 hW1 hd1
              k_steps
              exact told_push (by k_asm) (by k_asm) sub3 (by refine neN ?_; omega) hplI hoffI' (exI7 pl _ _ _ _ _ _ ⟨rfl, rfl, rfl, off1 (by refine neN ?_; omega) hoff', .tail _ (hsub.h _ hll), PIs.snoc (PIs.mono (fun _ h => .tail _ h) hP4) (.head _) (WsAt.mono hW' fun _ h => .tail _ h) hx2, hT, (by rw [List.length_append]; exact Nat.succ_le_succ hz3), ⟨fun q h => .tail _ (hsub.h q (hsb.h q h))⟩⟩)
  case done =>
    intro h' tk m' news' F' N' hJ
    refine ex7 hJ ?_
    intro pl p told vs' ep' lg tt hX9
    refine an9 hX9 ?_
    intro e1 e2 e3 hoff hll hP hT hz hsb
    clear hX9 hJ
    rw [hwsl.length, List.drop_length] at hT
    cases hT
    first | refine canon2G e1 e2 F' ?_ | refine canon2H e1 e2 F' ?_
    clear e1 e2 F'
    intro rest F'
    subst e3
    k_steps
    exact hret _ _ _ _ (by k_asm) (by k_asm) (fun q h => .tail _ (hsb.h q h)) ⟨_, rfl⟩)
end
end Mine
end
section
open PySem PySem.W PySem.Spec PySem.Calls PyProof.Rows
set_option maxRecDepth 100000
set_option maxHeartbeats 1000000
namespace Mine
theorem lzP01 : True := by
  k_with_none
  trivial
/-- the rows in which f is so, as a number -/
noncomputable def b8 (f : Nat → Bool) : Nat := (f 0).toNat + (2 * (f 1).toNat + (4 * (f 2).toNat + (8 * (f 3).toNat + (16 * (f 4).toNat + (32 * (f 5).toNat + (64 * (f 6).toNat + 128 * (f 7).toNat))))))
theorem band_nat (a b : Nat) : Builtin.bitAnd (a : Int) (b : Int) = ((a &&& b : Nat) : Int) := by
  first | rfl | simp [Builtin.bitAnd]
theorem bor_nat (a b : Nat) : Builtin.bitOr (a : Int) (b : Int) = ((a ||| b : Nat) : Int) := by
  have h1 : ¬ (0 ≤ -(a : Int) - 1) := by omega
  have h2 : ¬ (0 ≤ -(b : Int) - 1) := by omega
  have e1 : (-(-(a : Int) - 1) - 1).toNat = a := by omega
  have e2 : (-(-(b : Int) - 1) - 1).toNat = b := by omega
  simp only [Builtin.bitOr, Builtin.bitAnd, Builtin.bitNot, h1, h2, decide_false, e1, e2]
  omega
theorem two_and (a b : Bool) (m n : Nat) : (a.toNat + 2 * m) &&& (b.toNat + 2 * n) = (a && b).toNat + 2 * (m &&& n) := by
  apply Nat.eq_of_testBit_eq
  intro i
  cases i with
  | zero => cases a <;> cases b <;> simp [Nat.testBit_and] <;> omega
  | succ i =>
    rw [Nat.testBit_and, Nat.testBit_succ, Nat.testBit_succ, Nat.testBit_succ]
    have e1 : (a.toNat + 2 * m) / 2 = m := by cases a <;> simp <;> omega
    have e2 : (b.toNat + 2 * n) / 2 = n := by cases b <;> simp <;> omega
    have e3 : ((a && b).toNat + 2 * (m &&& n)) / 2 = (m &&& n) := by cases a <;> cases b <;> simp <;> omega
    rw [e1, e2, e3, Nat.testBit_and]
theorem two_or (a b : Bool) (m n : Nat) : (a.toNat + 2 * m) ||| (b.toNat + 2 * n) = (a || b).toNat + 2 * (m ||| n) := by
  apply Nat.eq_of_testBit_eq
  intro i
  cases i with
  | zero => cases a <;> cases b <;> simp [Nat.testBit_or] <;> omega
  | succ i =>
    rw [Nat.testBit_or, Nat.testBit_succ, Nat.testBit_succ, Nat.testBit_succ]
    have e1 : (a.toNat + 2 * m) / 2 = m := by cases a <;> simp <;> omega
    have e2 : (b.toNat + 2 * n) / 2 = n := by cases b <;> simp <;> omega
    have e3 : ((a || b).toNat + 2 * (m ||| n)) / 2 = (m ||| n) := by cases a <;> cases b <;> simp <;> omega
    rw [e1, e2, e3, Nat.testBit_or]
theorem b8_form (f : Nat → Bool) : b8 f = (f 0).toNat + 2 * ((f 1).toNat + 2 * ((f 2).toNat + 2 * ((f 3).toNat + 2 * ((f 4).toNat + 2 * ((f 5).toNat + 2 * ((f 6).toNat + 2 * ((f 7).toNat + 2 * 0))))))) := by
  unfold b8; omega
theorem b8_and (f g : Nat → Bool) : Builtin.bitAnd (b8 f : Int) (b8 g : Int) = (b8 (fun i => f i && g i) : Nat) := by
  rw [band_nat, b8_form f, b8_form g, b8_form]
  simp only [two_and, Nat.and_self]
theorem b8_or (f g : Nat → Bool) : Builtin.bitOr (b8 f : Int) (b8 g : Int) = (b8 (fun i => f i || g i) : Nat) := by
  rw [bor_nat, b8_form f, b8_form g, b8_form]
  simp only [two_or, Nat.or_self]
theorem not8 : ∀ a b c d e f g h : Bool, (255 : Int) - (((a).toNat + (2 * (b).toNat + (4 * (c).toNat + (8 * (d).toNat + (16 * (e).toNat + (32 * (f).toNat + (64 * (g).toNat + 128 * (h).toNat)))))) : Nat) : Int) = (((!a).toNat + (2 * (!b).toNat + (4 * (!c).toNat + (8 * (!d).toNat + (16 * (!e).toNat + (32 * (!f).toNat + (64 * (!g).toNat + 128 * (!h).toNat)))))) : Nat) : Int) := by decide +kernel
theorem b8_not (f : Nat → Bool) : (255 : Int) - (b8 f : Int) = (b8 (fun i => !f i) : Nat) := not8 _ _ _ _ _ _ _ _
theorem b8_all : ((b8 fun _ => true : Nat) : Int) = 255 := rfl
theorem b8_none : ((b8 fun _ => false : Nat) : Int) = 0 := rfl
theorem b8_ext {f g : Nat → Bool} (h : ∀ i, i < 8 → f i = g i) : b8 f = b8 g := by
  unfold b8
  rw [h 0 (by omega), h 1 (by omega), h 2 (by omega), h 3 (by omega), h 4 (by omega), h 5 (by omega), h 6 (by omega), h 7 (by omega)]
theorem letV_b8 (k : Nat) : letV k = (b8 (letB k) : Nat) := by
  rcases k with _ | _ | k
  · decide +kernel
  · decide +kernel
  · show (170 : Int) = _
    have : b8 (letB 2) = 170 := by decide +kernel
    show (170 : Int) = ((b8 (letB 2) : Nat) : Int)
    rw [this]; rfl
/-- the sign that joins, over rows -/
theorem comb_b8 (o : Nat) (f g : Nat → Bool) : combV (opK o) (b8 f) (b8 g) = (b8 (fun i => opB o (f i) (g i)) : Nat) := by
  have h0 : ∀ x y, combV (opK 0) x y = Builtin.bitAnd x y := fun x y => by simp [combV, opK]
  have h1 : ∀ x y, combV (opK 1) x y = Builtin.bitOr x y := fun x y => by simp [combV, opK]
  have h2 : ∀ x y, combV (opK 2) x y = Builtin.bitAnd (255 - x) y := fun x y => by simp [combV, opK]
  have h3 : ∀ x y, combV (opK 3) x y = Builtin.bitOr (255 - x) y := fun x y => by simp [combV, opK]
  have h4 : ∀ x y, combV (opK 4) x y = Builtin.bitAnd x (255 - y) := fun x y => by simp [combV, opK]
  have h5 : ∀ o x y, combV (opK (o + 5)) x y = Builtin.bitOr x (255 - y) := fun o x y => by simp [combV, opK]
  rcases o with _ | _ | _ | _ | _ | o
  · rw [h0, b8_and]; rfl
  · rw [h1, b8_or]; rfl
  · rw [h2, b8_not, b8_and]; rfl
  · rw [h3, b8_not, b8_or]; rfl
  · rw [h4, b8_not, b8_and]; rfl
  · rw [h5, b8_not, b8_or]; rfl
end Mine
end
section
open PySem PySem.W PySem.Spec PySem.Calls PyProof.Rows
set_option maxRecDepth 100000
set_option maxHeartbeats 1000000
namespace Mine
noncomputable def tkT : Cl → List Tk
  | .leaf k => [.lt k]
  | .node o l r => .lp :: (tkT l ++ (.op o :: (tkT r ++ [.rp])))
noncomputable def tkS (so : Bool) (c : Cl) : List Tk := if so then tkT c else .tl :: tkT c
theorem flat_app (a b : List Tk) : flatT (a ++ b) = flatT a ++ flatT b := by simp [flatT]
theorem flat_cons (t : Tk) (r : List Tk) : flatT (t :: r) = t.s ++ flatT r := by simp [flatT]
theorem flat_tkT : ∀ c : Cl, flatT (tkT c) = textL c
  | .leaf k => rfl
  | .node o l r => by
    simp only [tkT, flat_cons, flat_app, textL, flat_tkT l, flat_tkT r]
    rfl
theorem flat_tkS (so : Bool) (c : Cl) : flatT (tkS so c) = shownL so c := by
  cases so
  · simp only [tkS, shownL, Bool.false_eq_true, if_false, flat_cons, flat_tkT]; rfl
  · simp only [tkS, shownL, if_true, flat_tkT]
theorem run_tkT : ∀ (c : Cl) (r : List Tk) (st : List Int), runT (tkT c ++ r) st = runT r ((b8 (soB c) : Nat) :: st)
  | .leaf k, r, st => by
    show (some (letV k :: st)).bind (runT r) = _
    rw [letV_b8]; rfl
  | .node o l q, r, st => by
    have e : tkT (.node o l q) ++ r = .lp :: (tkT l ++ (.op o :: (tkT q ++ (.rp :: r)))) := by simp [tkT]
    rw [e]
    show runT (tkT l ++ (.op o :: (tkT q ++ (.rp :: r)))) st = _
    rw [run_tkT l]
    show runT (tkT q ++ (.rp :: r)) (opK o :: (b8 (soB l) : Nat) :: st) = _
    rw [run_tkT q]
    show runT r (combV (opK o) (b8 (soB l) : Nat) (b8 (soB q) : Nat) :: st) = _
    rw [comb_b8]; rfl
/-- what is so of a claim or of its denial -/
noncomputable def sgn (so : Bool) (c : Cl) (i : Nat) : Bool := soB c i == so
theorem run_tkS (so : Bool) (c : Cl) : ∃ fin, runT (tkS so c) [] = some fin ∧ fin ≠ [] ∧ resV fin = (b8 (sgn so c) : Nat) := by
  cases so
  · refine ⟨[(b8 (soB c) : Nat), 31], ?_, by simp, ?_⟩
    · have := run_tkT c [] [31]
      rw [List.append_nil] at this
      exact this
    · show 255 - ((b8 (soB c) : Nat) : Int) = _
      rw [b8_not]
      exact congrArg _ (b8_ext fun i _ => by unfold sgn; cases soB c i <;> rfl)
  · refine ⟨[(b8 (soB c) : Nat)], ?_, by simp, ?_⟩
    · have := run_tkT c [] []
      rw [List.append_nil] at this
      exact this
    · exact congrArg (fun n : Nat => (n : Int)) (b8_ext fun i _ => by unfold sgn; cases soB c i <;> rfl)
/-- the signs a claim opens with -/
noncomputable def opens (x : Nat) : Prop := x = 40 ∨ x = 97 ∨ x = 98 ∨ x = 34
/-- the signs that may follow a claim -/
noncomputable def follows (x : Nat) : Prop := x = 41 ∨ x = 38 ∨ x = 124 ∨ x = 60 ∨ x = 62
noncomputable def tok1 (t : Tk) (x : List Nat) (last : Bool) : Prop := ∃ sz : Nat, (sz = 1 ∨ sz = 2) ∧ (kindOf ((t.s ++ x).take 2)).isSome = decide (sz = 2) ∧ kindOf ((t.s ++ x).take sz) = kindT t ∧ (t.s.length = sz ∨ (sz = 2 ∧ last = true ∧ t.s.length = 1))
theorem kind_pair (a b : Nat) (x : List Nat) : ((a :: b :: x).take 2) = [a, b] := rfl
theorem lp_ok (x : Nat) (r : List Nat) (h : opens x) : tok1 .lp (x :: r) false := by
  refine ⟨1, .inl rfl, ?_, ?_, .inl rfl⟩
  · show (kindOf [40, x]).isSome = false
    rcases h with rfl | rfl | rfl | rfl <;> decide +kernel
  · show kindOf [40] = some 7
    decide +kernel
theorem tl_ok (x : Nat) (r : List Nat) (h : opens x) : tok1 .tl (x :: r) false := by
  refine ⟨1, .inl rfl, ?_, ?_, .inl rfl⟩
  · show (kindOf [126, x]).isSome = false
    rcases h with rfl | rfl | rfl | rfl <;> decide +kernel
  · show kindOf [126] = some 31
    decide +kernel
theorem op_ok (o : Nat) (ho : o < 6) (x : Nat) (r : List Nat) (h : opens x) : tok1 (.op o) (x :: r) false := by
  have hc : o = 0 ∨ o = 1 ∨ o = 2 ∨ o = 3 ∨ o = 4 ∨ o = 5 := by omega
  rcases hc with rfl | rfl | rfl | rfl | rfl | rfl
  · exact ⟨1, .inl rfl, (by show (kindOf [38, x]).isSome = false; rcases h with rfl | rfl | rfl | rfl <;> decide +kernel), (by show kindOf [38] = some 19; decide +kernel), .inl rfl⟩
  · exact ⟨1, .inl rfl, (by show (kindOf [124, x]).isSome = false; rcases h with rfl | rfl | rfl | rfl <;> decide +kernel), (by show kindOf [124] = some 18; decide +kernel), .inl rfl⟩
  · exact ⟨1, .inl rfl, (by show (kindOf [60, x]).isSome = false; rcases h with rfl | rfl | rfl | rfl <;> decide +kernel), (by show kindOf [60] = some 20; decide +kernel), .inl rfl⟩
  · exact ⟨2, .inr rfl, (by show (kindOf [60, 61]).isSome = true; decide +kernel), (by show kindOf [60, 61] = some 29; decide +kernel), .inl rfl⟩
  · exact ⟨1, .inl rfl, (by show (kindOf [62, x]).isSome = false; rcases h with rfl | rfl | rfl | rfl <;> decide +kernel), (by show kindOf [62] = some 21; decide +kernel), .inl rfl⟩
  · exact ⟨2, .inr rfl, (by show (kindOf [62, 61]).isSome = true; decide +kernel), (by show kindOf [62, 61] = some 30; decide +kernel), .inl rfl⟩
theorem rp_ok (x : Nat) (r : List Nat) (h : follows x) : tok1 .rp (x :: r) false := by
  refine ⟨1, .inl rfl, ?_, ?_, .inl rfl⟩
  · show (kindOf [41, x]).isSome = false
    rcases h with rfl | rfl | rfl | rfl | rfl <;> decide +kernel
  · show kindOf [41] = some 8
    decide +kernel
theorem rp_last : tok1 .rp [] true := ⟨2, .inr rfl, (by decide +kernel), (by decide +kernel), .inr ⟨rfl, rfl, rfl⟩⟩
theorem lt_ok (k : Nat) (hk : k < 3) (x : Nat) (r : List Nat) (h : follows x) : tok1 (.lt k) (x :: r) false := by
  have hc : k = 0 ∨ k = 1 ∨ k = 2 := by omega
  rcases hc with rfl | rfl | rfl
  · exact ⟨1, .inl rfl, (by show (kindOf [97, x]).isSome = false; rcases h with rfl | rfl | rfl | rfl | rfl <;> decide +kernel), (by show kindOf [97] = none; decide +kernel), .inl rfl⟩
  · exact ⟨1, .inl rfl, (by show (kindOf [98, x]).isSome = false; rcases h with rfl | rfl | rfl | rfl | rfl <;> decide +kernel), (by show kindOf [98] = none; decide +kernel), .inl rfl⟩
  · exact ⟨1, .inl rfl, (by show (kindOf [34, x]).isSome = false; rcases h with rfl | rfl | rfl | rfl | rfl <;> decide +kernel), (by show kindOf [34] = none; decide +kernel), .inl rfl⟩
theorem lt_last (k : Nat) (hk : k < 3) : tok1 (.lt k) [] true := by
  have hc : k = 0 ∨ k = 1 ∨ k = 2 := by omega
  rcases hc with rfl | rfl | rfl <;> exact ⟨1, .inl rfl, (by decide +kernel), (by decide +kernel), .inl rfl⟩
theorem ok_cons {t : Tk} {r : List Tk} {last : Bool} (h : tok1 t (flatT r) last) (hl : last = true → r = []) (ht : t.ok) (hr : okT r) : okT (t :: r) := by
  obtain ⟨sz, h1, h2, h3, h4⟩ := h
  refine ⟨⟨sz, h1, h2, h3, ?_⟩, ht, hr⟩
  rcases h4 with h | ⟨a, b, c⟩
  · exact .inl h
  · exact .inr ⟨a, hl b, c⟩
theorem opens_tkT : ∀ (c : Cl) (r : List Tk), c.ok → ∃ x q, flatT (tkT c ++ r) = x :: q ∧ opens x
  | .leaf k, r, h => ⟨letC k, flatT r, by simp [tkT, flat_cons, Tk.s], by
      have hc : k = 0 ∨ k = 1 ∨ k = 2 := by have : k < 3 := h; omega
      rcases hc with rfl | rfl | rfl
      · exact .inr (.inl rfl)
      · exact .inr (.inr (.inl rfl))
      · exact .inr (.inr (.inr rfl))⟩
  | .node o l q, r, _ => ⟨40, _, rfl, .inl rfl⟩
/-- what may stand behind a claim: nothing, or a sign that may follow -/
noncomputable def behind (r : List Tk) : Prop := r = [] ∨ ∃ x q, flatT r = x :: q ∧ follows x
theorem ok_tkT : ∀ (c : Cl) (r : List Tk), c.ok → okT r → behind r → okT (tkT c ++ r)
  | .leaf k, r, h, hr, hb => by
    rcases hb with rfl | ⟨x, q, e, hx⟩
    · exact ok_cons (t := .lt k) (last := true) (lt_last k h) (fun _ => rfl) h hr
    · exact ok_cons (t := .lt k) (last := false) (by show tok1 (Tk.lt k) (flatT r) false; rw [e]; exact lt_ok k h x q hx) (fun h => absurd h (by decide)) h hr
  | .node o l q, r, h, hr, hb => by
    have e : tkT (.node o l q) ++ r = .lp :: (tkT l ++ (.op o :: (tkT q ++ (.rp :: r)))) := by simp [tkT]
    rw [e]
    obtain ⟨ho, hl, hq⟩ := h
    have k1 : okT (.rp :: r) := by
      rcases hb with rfl | ⟨x, s, e, hx⟩
      · exact ok_cons (last := true) rp_last (fun _ => rfl) trivial hr
      · exact ok_cons (last := false) (by rw [e]; exact rp_ok x s hx) (fun h => absurd h (by decide)) trivial hr
    have k2 : okT (tkT q ++ (.rp :: r)) := ok_tkT q _ hq k1 (.inr ⟨41, _, rfl, .inl rfl⟩)
    have k3 : okT (.op o :: (tkT q ++ (.rp :: r))) := by
      obtain ⟨x, s, e, hx⟩ := opens_tkT q (.rp :: r) hq
      exact ok_cons (last := false) (by rw [e]; exact op_ok o ho x s hx) (fun h => absurd h (by decide)) ho k2
    have hf : behind (.op o :: (tkT q ++ (.rp :: r))) := by
      refine .inr ?_
      have hc : o = 0 ∨ o = 1 ∨ o = 2 ∨ o = 3 ∨ o = 4 ∨ o = 5 := by omega
      rcases hc with rfl | rfl | rfl | rfl | rfl | rfl
      · exact ⟨38, _, rfl, .inr (.inl rfl)⟩
      · exact ⟨124, _, rfl, .inr (.inr (.inl rfl))⟩
      · exact ⟨60, _, rfl, .inr (.inr (.inr (.inl rfl)))⟩
      · exact ⟨60, _, rfl, .inr (.inr (.inr (.inl rfl)))⟩
      · exact ⟨62, _, rfl, .inr (.inr (.inr (.inr rfl)))⟩
      · exact ⟨62, _, rfl, .inr (.inr (.inr (.inr rfl)))⟩
    have k4 : okT (tkT l ++ (.op o :: (tkT q ++ (.rp :: r)))) := ok_tkT l _ hl k3 hf
    obtain ⟨x, s, e2, hx⟩ := opens_tkT l (.op o :: (tkT q ++ (.rp :: r))) hl
    exact ok_cons (last := false) (by rw [e2]; exact lp_ok x s hx) (fun h => absurd h (by decide)) trivial k4
theorem ok_tkS (so : Bool) (c : Cl) (h : c.ok) : okT (tkS so c) := by
  have k := ok_tkT c [] h trivial (.inl rfl)
  rw [List.append_nil] at k
  cases so
  · obtain ⟨x, s, e, hx⟩ := opens_tkT c [] h
    rw [List.append_nil] at e
    exact ok_cons (last := false) (by rw [e]; exact tl_ok x s hx) (fun h => absurd h (by decide)) trivial k
  · exact k
end Mine
end
section
open PySem PySem.W PySem.Spec PySem.Calls PyProof.Rows
set_option maxRecDepth 100000
set_option maxHeartbeats 1000000
namespace Mine
noncomputable abbrev Rw := Nat × Bool × Cl
/-- the rows of what is broken up, as claims -/
noncomputable def brkC : Nat → List (Bool × Cl) → Nat → List Rw
  | 0, _, _ => []
  | _ + 1, [], _ => []
  | n + 1, (_, .leaf _) :: t, d => brkC n t d
  | n + 1, (so, .node o l r) :: t, d =>
    if (tabO o).1 == so then (d, (tabO o).2.1 == so, l) :: (d + 1, (tabO o).2.2 == so, r) :: brkC n (t ++ [((tabO o).2.1 == so, l), ((tabO o).2.2 == so, r)]) (d + 2)
    else (d, (tabO o).2.1 == so, l) :: (brkC n (t ++ [((tabO o).2.1 == so, l)]) (d + 1) ++ ((d, (tabO o).2.2 == so, r) :: brkC n (t ++ [((tabO o).2.2 == so, r)]) (d + 1)))
noncomputable def showR (x : Rw) : Nat × List Nat := (x.1, shownL x.2.1 x.2.2)
theorem brk_C : ∀ (n : Nat) (t : List (Bool × Cl)) (d : Nat), brk n t d = (brkC n t d).map showR
  | 0, _, _ => rfl
  | _ + 1, [], _ => rfl
  | n + 1, (_, .leaf _) :: t, d => by simp only [brk, brkC]; exact brk_C n t d
  | n + 1, (so, .node o l r) :: t, d => by
    simp only [brk, brkC]
    split
    · simp only [List.map_cons, brk_C n, showR]
    · simp only [List.map_cons, List.map_append, brk_C n, showR]
noncomputable def valR (x : Rw) : Int := (b8 (sgn x.2.1 x.2.2) : Nat)
noncomputable def pushR (x : Rw) (p : Pl) : Pl := (x.1, Builtin.bitAnd (topOf p).1 (valR x), if (shownL x.2.1 x.2.2).length < 3 then Builtin.bitAnd (topOf p).2 (valR x) else (topOf p).2) :: p
/-- every leaf passed on the way is well -/
noncomputable def okR : List Rw → Pl → Prop
  | [], _ => True
  | x :: r, p => leafOk x.1 p ∧ okR r (pushR x (popGE x.1 p))
noncomputable def stR : List Rw → Pl × Int → Pl × Int
  | [], s => s
  | x :: r, s => stR r (pushR x (popGE x.1 s.1), toldAt x.1 s.2 s.1)
theorem okR_app : ∀ (a b : List Rw) (p : Pl) (t : Int), okR (a ++ b) p ↔ okR a p ∧ okR b (stR a (p, t)).1
  | [], b, p, t => by simp [okR, stR]
  | x :: a, b, p, t => by
    simp only [List.cons_append, okR, stR, okR_app a b (pushR x (popGE x.1 p)) (toldAt x.1 t p)]
    exact and_assoc.symm
theorem stR_app : ∀ (a b : List Rw) (s : Pl × Int), stR (a ++ b) s = stR b (stR a s)
  | [], _, _ => rfl
  | x :: a, b, s => by simp only [List.cons_append, stR, stR_app a b]
noncomputable def isLeaf : Cl → Bool
  | .leaf _ => true
  | .node _ _ _ => false
theorem shown_len (so : Bool) (c : Cl) : ((shownL so c).length < 3) ↔ isLeaf c = true := by
  cases c with
  | leaf k => cases so <;> simp [shownL, textL, isLeaf]
  | node o l r =>
    have h1 : 1 ≤ (textL l).length := by cases l <;> simp [textL]
    have h2 : 1 ≤ (textL r).length := by cases r <;> simp [textL]
    cases so
    · simp only [shownL, isLeaf, Bool.false_eq_true, if_false, iff_false, textL, List.length_cons, List.length_append, List.length_nil]; omega
    · simp only [shownL, isLeaf, if_true, Bool.false_eq_true, iff_false, textL, List.length_cons, List.length_append, List.length_nil]; omega
/-- the lone letters' rows after one line more -/
noncomputable def fa' (x : Rw) (fa : Nat → Bool) (i : Nat) : Bool := if isLeaf x.2.2 then fa i && sgn x.2.1 x.2.2 i else fa i
theorem push_is (x : Rw) (d : Nat) (fm fa : Nat → Bool) (p : Pl) : pushR x ((d, ((b8 fm : Nat) : Int), ((b8 fa : Nat) : Int)) :: p) = (x.1, ((b8 fun i => fm i && sgn x.2.1 x.2.2 i : Nat) : Int), ((b8 (fa' x fa) : Nat) : Int)) :: (d, ((b8 fm : Nat) : Int), ((b8 fa : Nat) : Int)) :: p := by
  unfold pushR
  simp only [topOf, valR]
  rw [b8_and]
  congr 1
  congr 1
  congr 1
  by_cases h : isLeaf x.2.2 = true
  · rw [if_pos ((shown_len _ _).mpr h), b8_and]
    exact congrArg (fun n : Nat => (n : Int)) (b8_ext fun i _ => by simp [fa', h])
  · rw [if_neg (fun h' => h ((shown_len _ _).mp h'))]
    exact congrArg (fun n : Nat => (n : Int)) (b8_ext fun i _ => by simp [fa', h])
noncomputable def allS (t : List (Bool × Cl)) (i : Nat) : Bool := t.all fun q => sgn q.1 q.2 i
noncomputable def leavesIn (t : List (Bool × Cl)) (fa : Nat → Bool) : Prop := ∀ q ∈ t, isLeaf q.2 = true → ∀ i, fa i = true → sgn q.1 q.2 i = true
theorem node_cases (o : Nat) : (o = 0 ∨ o = 1 ∨ o = 2 ∨ o = 3 ∨ o = 4) ∨ (opB o = opB 5 ∧ tabO o = tabO 5) := by
  rcases o with _ | _ | _ | _ | _ | o
  · exact .inl (.inl rfl)
  · exact .inl (.inr (.inl rfl))
  · exact .inl (.inr (.inr (.inl rfl)))
  · exact .inl (.inr (.inr (.inr (.inl rfl))))
  · exact .inl (.inr (.inr (.inr (.inr rfl))))
  · exact .inr ⟨rfl, rfl⟩
theorem six_ops {P : (Bool → Bool → Bool) → (Bool × Bool × Bool) → Prop} (h : P (opB 0) (tabO 0) ∧ P (opB 1) (tabO 1) ∧ P (opB 2) (tabO 2) ∧ P (opB 3) (tabO 3) ∧ P (opB 4) (tabO 4) ∧ P (opB 5) (tabO 5)) (o : Nat) : P (opB o) (tabO o) := by
  rcases node_cases o with (rfl | rfl | rfl | rfl | rfl) | ⟨e1, e2⟩
  · exact h.1
  · exact h.2.1
  · exact h.2.2.1
  · exact h.2.2.2.1
  · exact h.2.2.2.2.1
  · rw [e1, e2]; exact h.2.2.2.2.2
theorem node_both8 : ∀ (o : Nat) (so a b : Bool), ((tabO o).1 == so) = true → (opB o a b == so) = ((a == ((tabO o).2.1 == so)) && (b == ((tabO o).2.2 == so))) :=
  six_ops (P := fun f t => ∀ (so a b : Bool), (t.1 == so) = true → (f a b == so) = ((a == (t.2.1 == so)) && (b == (t.2.2 == so)))) (by decide +kernel)
theorem node_else8 : ∀ (o : Nat) (so a b : Bool), ((tabO o).1 == so) = false → (opB o a b == so) = ((a == ((tabO o).2.1 == so)) || (b == ((tabO o).2.2 == so))) :=
  six_ops (P := fun f t => ∀ (so a b : Bool), (t.1 == so) = false → (f a b == so) = ((a == (t.2.1 == so)) || (b == (t.2.2 == so)))) (by decide +kernel)
theorem node_both (so : Bool) (o : Nat) (l r : Cl) (i : Nat) (h : ((tabO o).1 == so) = true) : sgn so (.node o l r) i = (sgn ((tabO o).2.1 == so) l i && sgn ((tabO o).2.2 == so) r i) := node_both8 o so _ _ h
theorem node_else (so : Bool) (o : Nat) (l r : Cl) (i : Nat) (h : ((tabO o).1 == so) = false) : sgn so (.node o l r) i = (sgn ((tabO o).2.1 == so) l i || sgn ((tabO o).2.2 == so) r i) := node_else8 o so _ _ h
noncomputable abbrev M (f : Nat → Bool) : Int := ((b8 f : Nat) : Int)
theorem tab_main : ∀ (n : Nat) (t : List (Bool × Cl)) (d dt e : Nat) (R : Pl) (fm fa ft : Nat → Bool), meas t < n → dt < d → e ≤ dt → (∀ i, fm i = (fa i && allS t i)) → leavesIn t fa →
    okR (brkC n t d) ((dt, M fm, M fa) :: R) ∧ leafOk e (stR (brkC n t d) ((dt, M fm, M fa) :: R, M ft)).1 ∧
    toldAt e (stR (brkC n t d) ((dt, M fm, M fa) :: R, M ft)).2 (stR (brkC n t d) ((dt, M fm, M fa) :: R, M ft)).1 = M (fun i => ft i || fm i) ∧
    popGE e (stR (brkC n t d) ((dt, M fm, M fa) :: R, M ft)).1 = popGE e ((dt, M fm, M fa) :: R)
  | 0, t, _, _, _, _, _, _, _, h, _, _, _, _ => absurd h (Nat.not_lt_zero _)
  | n + 1, [], d, dt, e, R, fm, fa, ft, _, _, he, hi, _ => by
    have hff : fm = fa := funext fun i => by rw [hi i]; simp [allS]
    subst hff
    refine ⟨trivial, fun _ => rfl, ?_, rfl⟩
    show toldAt e (M ft) ((dt, M fm, M fm) :: R) = _
    rw [toldAt_yes (by omega), b8_or]
  | n + 1, (so, .leaf k) :: t, d, dt, e, R, fm, fa, ft, hm, hd, he, hi, hl => by
    simp only [brkC]
    refine tab_main n t d dt e R fm fa ft (by simp only [meas, Cl.size] at hm; omega) hd he (fun i => ?_) (fun q hq => hl q (.tail _ hq))
    rw [hi i]
    have := hl (so, .leaf k) (.head _) rfl i
    simp only [allS, List.all_cons]
    cases hfa : fa i
    · rfl
    · rw [this hfa]; rfl
  | n + 1, (so, .node o l r) :: t, d, dt, e, R, fm, fa, ft, hm, hd, he, hi, hl => by
    have hfa1 : ∀ (x : Rw) (f : Nat → Bool) i, fa' x f i = true → f i = true := fun x f i h => by
      unfold fa' at h; split at h
      · exact (Bool.and_eq_true_iff.mp h).1
      · exact h
    have hfa2 : ∀ (x : Rw) (f : Nat → Bool) i, isLeaf x.2.2 = true → fa' x f i = true → sgn x.2.1 x.2.2 i = true := fun x f i hx h => by
      unfold fa' at h; rw [if_pos hx] at h; exact (Bool.and_eq_true_iff.mp h).2
    have hfa3 : ∀ (x : Rw) (f : Nat → Bool) i, (fa' x f i && sgn x.2.1 x.2.2 i) = (f i && sgn x.2.1 x.2.2 i) := fun x f i => by
      unfold fa'; split
      · cases f i <;> cases sgn x.2.1 x.2.2 i <;> rfl
      · rfl
    have hz : meas (t ++ [((tabO o).2.1 == so, l), ((tabO o).2.2 == so, r)]) < n := by simp only [meas, meas_app, Cl.size] at hm ⊢; omega
    have hz0 : meas (t ++ [((tabO o).2.1 == so, l)]) < n := by simp only [meas, meas_app, Cl.size] at hm ⊢; omega
    have hz1 : meas (t ++ [((tabO o).2.2 == so, r)]) < n := by simp only [meas, meas_app, Cl.size] at hm ⊢; omega
    by_cases hb : ((tabO o).1 == so) = true
    · have hn := fun i => node_both so o l r i hb
      simp only [brkC]
      rw [if_pos hb]
      generalize ((tabO o).2.1 == so) = a0 at hz hz0 hn ⊢
      generalize ((tabO o).2.2 == so) = a1 at hz hz1 hn ⊢
      have hff : ∀ i, (fm i && sgn a0 l i && sgn a1 r i) = fm i := fun i => by
        rw [hi i]; simp only [allS, List.all_cons, hn i]
        cases fa i <;> cases sgn a0 l i <;> cases sgn a1 r i <;> simp
      have e1 : pushR (d, a0, l) (popGE d ((dt, M fm, M fa) :: R)) = (d, M (fun i => fm i && sgn a0 l i), M (fa' (d, a0, l) fa)) :: (dt, M fm, M fa) :: R := by
        rw [popGE_no hd]; exact push_is (d, a0, l) dt fm fa R
      have e2 : pushR (d + 1, a1, r) (popGE (d + 1) ((d, M (fun i => fm i && sgn a0 l i), M (fa' (d, a0, l) fa)) :: (dt, M fm, M fa) :: R)) =
          (d + 1, M (fun i => fm i && sgn a0 l i && sgn a1 r i), M (fa' (d + 1, a1, r) (fa' (d, a0, l) fa))) :: (d, M (fun i => fm i && sgn a0 l i), M (fa' (d, a0, l) fa)) :: (dt, M fm, M fa) :: R := by
        rw [popGE_no (Nat.lt_succ_self d)]; exact push_is (d + 1, a1, r) d _ _ _
      have t1 : toldAt d (M ft) ((dt, M fm, M fa) :: R) = M ft := toldAt_no hd
      have t2 : toldAt (d + 1) (M ft) ((d, M (fun i => fm i && sgn a0 l i), M (fa' (d, a0, l) fa)) :: (dt, M fm, M fa) :: R) = M ft := toldAt_no (Nat.lt_succ_self d)
      have IH := tab_main n (t ++ [(a0, l), (a1, r)]) (d + 2) (d + 1) e ((d, M (fun i => fm i && sgn a0 l i), M (fa' (d, a0, l) fa)) :: (dt, M fm, M fa) :: R)
        (fun i => fm i && sgn a0 l i && sgn a1 r i) (fa' (d + 1, a1, r) (fa' (d, a0, l) fa)) ft hz (by omega) (by omega) (fun i => by
          rw [hff i, hi i]
          simp only [allS, List.all_cons, List.all_append, List.all_nil, hn i]
          have k1 := hfa3 (d + 1, a1, r) (fa' (d, a0, l) fa) i
          have k0 := hfa3 (d, a0, l) fa i
          simp only at k0 k1
          generalize fa' (d + 1, a1, r) (fa' (d, a0, l) fa) i = u at k1 ⊢
          generalize fa' (d, a0, l) fa i = v at k0 k1
          revert k0 k1
          cases fa i <;> cases sgn a0 l i <;> cases sgn a1 r i <;> cases u <;> cases v <;> cases (t.all fun q => sgn q.1 q.2 i) <;> simp) (fun q hq => by
          rcases List.mem_append.mp hq with hq | hq
          · exact fun h i hf => hl q (.tail _ hq) h i (hfa1 _ _ _ (hfa1 _ _ _ hf))
          · rcases List.mem_cons.mp hq with rfl | hq
            · exact fun h i hf => hfa2 (d, a0, l) fa i h (hfa1 _ _ _ hf)
            · rcases List.mem_cons.mp hq with rfl | hq
              · exact fun h i hf => hfa2 (d + 1, a1, r) _ i h hf
              · cases hq)
      obtain ⟨i1, i2, i3, i4⟩ := IH
      simp only [okR, stR, e1, e2, t1, t2]
      refine ⟨⟨fun h => absurd hd (Nat.not_lt_of_le h), fun h => absurd (Nat.lt_succ_self d) (Nat.not_lt_of_le h), i1⟩, i2, ?_, ?_⟩
      · rw [i3]
        exact congrArg (fun n : Nat => (n : Int)) (b8_ext fun i _ => by rw [hff i])
      · rw [i4, popGE_yes (by omega), popGE_yes (by omega)]
    · have hb' : ((tabO o).1 == so) = false := by simpa using hb
      have hn := fun i => node_else so o l r i hb'
      simp only [brkC]
      rw [if_neg hb]
      generalize ((tabO o).2.1 == so) = a0 at hz hz0 hn ⊢
      generalize ((tabO o).2.2 == so) = a1 at hz hz1 hn ⊢
      have key : ∀ (a : Bool) (c : Cl) (e' : Nat) (ft : Nat → Bool), meas (t ++ [(a, c)]) < n → e' ≤ d → (∀ i, fm i = true → sgn a c i = true → sgn so (.node o l r) i = true) → (∀ i, sgn a c i = true → sgn so (.node o l r) i = true) →
          okR (brkC n (t ++ [(a, c)]) (d + 1)) (pushR (d, a, c) ((dt, M fm, M fa) :: R)) ∧ leafOk e' (stR (brkC n (t ++ [(a, c)]) (d + 1)) (pushR (d, a, c) ((dt, M fm, M fa) :: R), M ft)).1 ∧
          toldAt e' (stR (brkC n (t ++ [(a, c)]) (d + 1)) (pushR (d, a, c) ((dt, M fm, M fa) :: R), M ft)).2 (stR (brkC n (t ++ [(a, c)]) (d + 1)) (pushR (d, a, c) ((dt, M fm, M fa) :: R), M ft)).1 = M (fun i => ft i || (fm i && sgn a c i)) ∧
          popGE e' (stR (brkC n (t ++ [(a, c)]) (d + 1)) (pushR (d, a, c) ((dt, M fm, M fa) :: R), M ft)).1 = popGE e' ((dt, M fm, M fa) :: R) := by
        intro a c e' ft hz he' _ himp
        rw [push_is (d, a, c) dt fm fa R]
        have IH := tab_main n (t ++ [(a, c)]) (d + 1) d e' ((dt, M fm, M fa) :: R) (fun i => fm i && sgn a c i) (fa' (d, a, c) fa) ft hz (by omega) he' (fun i => by
          rw [hi i]
          simp only [allS, List.all_cons, List.all_append, List.all_nil]
          have k0 := hfa3 (d, a, c) fa i
          have hm := himp i
          simp only at k0
          generalize fa' (d, a, c) fa i = v at k0 ⊢
          generalize sgn so (.node o l r) i = w at hm ⊢
          revert k0 hm
          cases fa i <;> cases sgn a c i <;> cases w <;> cases v <;> cases (t.all fun q => sgn q.1 q.2 i) <;> simp) (fun q hq => by
          rcases List.mem_append.mp hq with hq | hq
          · exact fun h i hf => hl q (.tail _ hq) h i (hfa1 _ _ _ hf)
          · rcases List.mem_cons.mp hq with rfl | hq
            · exact fun h i hf => hfa2 (d, a, c) fa i h hf
            · cases hq)
        obtain ⟨i1, i2, i3, i4⟩ := IH
        refine ⟨i1, i2, i3, ?_⟩
        rw [i4]; exact popGE_yes (by omega)
      have A := key a0 l d ft hz0 (Nat.le_refl _) (fun i _ h => by rw [hn i, h]; rfl) (fun i h => by rw [hn i, h]; rfl)
      obtain ⟨i1, i2, i3, i4⟩ := A
      have B := key a1 r e (fun i => ft i || (fm i && sgn a0 l i)) hz1 (by omega) (fun i _ h => by rw [hn i, h, Bool.or_true]) (fun i h => by rw [hn i, h, Bool.or_true])
      obtain ⟨j1, j2, j3, j4⟩ := B
      have p1 : popGE d ((dt, M fm, M fa) :: R) = (dt, M fm, M fa) :: R := popGE_no hd
      have t1 : toldAt d (M ft) ((dt, M fm, M fa) :: R) = M ft := toldAt_no hd
      rw [p1] at i4
      simp only [okR, stR, p1, t1, stR_app]
      rw [okR_app _ _ _ (M ft)]
      simp only [okR, i4, i3]
      refine ⟨⟨fun h => absurd hd (Nat.not_lt_of_le h), i1, i2, j1⟩, j2, ?_, j4⟩
      rw [j3]
      exact congrArg (fun n : Nat => (n : Int)) (b8_ext fun i _ => by
        rw [hi i]
        simp only [allS, List.all_cons, hn i]
        cases ft i <;> cases fa i <;> cases sgn a0 l i <;> cases sgn a1 r i <;> simp)
end Mine
end
section
open PySem PySem.W PySem.Spec PySem.Calls PyProof.Rows
set_option maxRecDepth 100000
set_option maxHeartbeats 1000000
namespace Mine
inductive LnsOf : List Ln → List Rw → Prop
  | nil : LnsOf [] []
  | cons {ln : Ln} {x : Rw} {ls : List Ln} {xs : List Rw} : ln.d = x.1 → ln.txt = shownL x.2.1 x.2.2 → ln.v = valR x → LnsOf ls xs → LnsOf (ln :: ls) (x :: xs)
theorem shown_ne (so : Bool) (c : Cl) : shownL so c ≠ [] := by
  cases so
  · simp [shownL]
  · cases c <;> simp [shownL, textL]
theorem push_of {ln : Ln} {x : Rw} (h1 : ln.d = x.1) (h2 : ln.txt = shownL x.2.1 x.2.2) (h3 : ln.v = valR x) (p : Pl) : pushLn ln p = pushR x p := by
  unfold pushLn pushR
  rw [if_neg (by rw [h2]; exact shown_ne _ _), h1, h2, h3]
theorem told_rows (ln0 : Ln) (h0 : ln0.txt = []) : ∀ (ls : List Ln) (xs : List Rw) (p : Pl) (t : Int), LnsOf ls xs → okR xs p → leafOk ln0.d (stR xs (p, t)).1 → Told (ls ++ [ln0]) p t (toldAt ln0.d (stR xs (p, t)).2 (stR xs (p, t)).1)
  | _, _, p, t, .nil, _, hl => .cons hl .nil
  | _, _, p, t, .cons (ln := ln) (x := x) h1 h2 h3 r, ho, hl => by
    obtain ⟨ho1, ho2⟩ := ho
    refine .cons (by rw [h1]; exact ho1) ?_
    rw [push_of h1 h2 h3, h1]
    exact told_rows ln0 h0 _ _ _ _ r ho2 hl
/-- all the rows of the page -/
noncomputable def rowsC (so : Bool) (c : Cl) : List Rw := (0, so, c) :: brkC (meas [(so, c)] + 1) [(so, c)] 1
theorem told_all (so : Bool) (c : Cl) (ln0 : Ln) (h0 : ln0.txt = []) (hd : ln0.d = 0) (ls : List Ln) (h : LnsOf ls (rowsC so c)) : Told (ls ++ [ln0]) [] 0 (M (sgn so c)) := by
  have e0 : pushR (0, so, c) (popGE 0 []) = [(0, M (fun i => sgn so c i), M (fa' (0, so, c) fun _ => true))] := by
    have := push_is (0, so, c) 0 (fun _ => true) (fun _ => true) []
    unfold pushR at this ⊢
    have e255 : ((b8 fun _ => true : Nat) : Int) = 255 := rfl
    simp only [topOf, e255, popGE, List.dropWhile_nil] at this ⊢
    simp only [List.cons.injEq, and_true] at this
    rw [this]
    simp
  have hfa3 : ∀ i, sgn so c i = (fa' (0, so, c) (fun _ => true) i && allS [(so, c)] i) := fun i => by
    unfold fa' allS
    simp only [List.all_cons, List.all_nil]
    split <;> simp
  have T := tab_main (meas [(so, c)] + 1) [(so, c)] 1 0 0 [] (fun i => sgn so c i) (fa' (0, so, c) fun _ => true) (fun _ => false) (Nat.lt_succ_self _) (by omega) (Nat.le_refl _) hfa3 (fun q hq => by
    rcases List.mem_cons.mp hq with rfl | hq
    · intro hx i hf
      unfold fa' at hf
      simp only at hx hf
      rw [if_pos hx] at hf
      simpa using hf
    · cases hq)
  obtain ⟨i1, i2, i3, _⟩ := T
  have ht0 : toldAt 0 0 ([] : Pl) = M (fun _ => false) := rfl
  have hok : okR (rowsC so c) [] := by
    refine ⟨trivial, ?_⟩
    show okR _ (pushR (0, so, c) (popGE 0 []))
    rw [e0]; exact i1
  have hst : stR (rowsC so c) ([], 0) = stR (brkC (meas [(so, c)] + 1) [(so, c)] 1) ((0, M (fun i => sgn so c i), M (fa' (0, so, c) fun _ => true)) :: [], M (fun _ => false)) := by
    show stR _ (pushR (0, so, c) (popGE 0 []), toldAt 0 0 []) = _
    rw [e0, ht0]
  have R := told_rows ln0 h0 ls (rowsC so c) [] 0 h hok (by rw [hd, hst]; exact i2)
  rw [hd, hst, i3] at R
  have e : M (fun i => false || sgn so c i) = M (sgn so c) := by
    exact congrArg (fun n : Nat => (n : Int)) (b8_ext fun i _ => by simp)
  rw [e] at R
  exact R
end Mine
end
section
open PySem PySem.W PySem.Spec PySem.Calls PyProof.Rows
set_option maxRecDepth 100000
set_option maxHeartbeats 1000000
namespace Mine
section
noncomputable def joinL (sep : List Nat) : List (List Nat) → List Nat
  | [] => []
  | [a] => a
  | a :: b :: r => a ++ (sep ++ joinL sep (b :: r))
noncomputable def cutL (c : Nat) : List Nat → List (List Nat)
  | [] => [[]]
  | x :: r => if x = c then [] :: cutL c r else match cutL c r with
    | [] => [[x]]
    | p :: q => (x :: p) :: q
noncomputable def strL (l : List Nat) : Str := ⟨l.toArray⟩
theorem str_app (a b : List Nat) : strL a ++ strL b = strL (a ++ b) := by show Str.append _ _ = _; simp [Str.append, strL]
theorem join_L (sep : List Nat) : ∀ ls : List (List Nat), Str.join (strL sep) (ls.map strL) = strL (joinL sep ls)
  | [] => rfl
  | [a] => rfl
  | a :: b :: r => by
    have ih := join_L sep (b :: r)
    simp only [List.map_cons] at ih ⊢
    show strL a ++ strL sep ++ Str.join (strL sep) (strL b :: List.map strL r) = _
    rw [ih, str_app, str_app]
    simp only [joinL, List.append_assoc]
theorem cut_ne (c : Nat) : ∀ x : List Nat, cutL c x ≠ []
  | [] => by simp [cutL]
  | x :: r => by
    simp only [cutL]
    split
    · simp
    · split <;> simp
theorem cut_free (c : Nat) : ∀ x : List Nat, ∀ p ∈ cutL c x, c ∉ p
  | [], p, hp => by simp [cutL] at hp; subst hp; simp
  | x :: r, p, hp => by
    simp only [cutL] at hp
    split at hp
    · rcases List.mem_cons.mp hp with rfl | hp
      · simp
      · exact cut_free c r p hp
    · rename_i hx
      cases e : cutL c r with
      | nil => exact absurd e (cut_ne c r)
      | cons q s =>
        rw [e] at hp
        simp only at hp
        rcases List.mem_cons.mp hp with rfl | hp
        · have := cut_free c r q (by rw [e]; exact .head _)
          simp only [List.mem_cons, not_or]
          exact ⟨fun h => hx h.symm, this⟩
        · exact cut_free c r p (by rw [e]; exact .tail _ hp)
theorem cut_join (c : Nat) : ∀ x : List Nat, joinL [c] (cutL c x) = x
  | [] => rfl
  | x :: r => by
    have ih := cut_join c r
    simp only [cutL]
    cases e : cutL c r with
    | nil => exact absurd e (cut_ne c r)
    | cons q s =>
      rw [e] at ih
      split
      · rename_i hx
        subst hx
        simp only [joinL, List.nil_append, ih]
        rfl
      · cases s with
        | nil => simp only [joinL] at ih ⊢; rw [ih]
        | cons q2 s2 => simp only [joinL, List.cons_append] at ih ⊢; rw [ih]
/-- parts without the sign are told by what they join to -/
theorem join_uniq (c : Nat) : ∀ (a b : List (List Nat)), a ≠ [] → b ≠ [] → (∀ p ∈ a, c ∉ p) → (∀ p ∈ b, c ∉ p) → joinL [c] a = joinL [c] b → a = b
  | [], _, h, _, _, _, _ => absurd rfl h
  | _, [], _, h, _, _, _ => absurd rfl h
  | p :: a, q :: b, _, _, ha, hb, e => by
    have key : ∀ (p q : List Nat) (u v : List Nat), c ∉ p → c ∉ q → p ++ (c :: u) = q ++ (c :: v) → p = q ∧ u = v := by
      intro p
      induction p with
      | nil =>
        intro q u v _ hq e
        cases q with
        | nil => exact ⟨rfl, by simpa using e⟩
        | cons y q => simp only [List.nil_append, List.cons_append, List.cons.injEq] at e; exact absurd (e.1 ▸ .head _) hq
      | cons y p ih =>
        intro q u v hp hq e
        cases q with
        | nil => simp only [List.nil_append, List.cons_append, List.cons.injEq] at e; exact absurd (e.1 ▸ .head _) hp
        | cons z q =>
          simp only [List.cons_append, List.cons.injEq] at e
          obtain ⟨r1, r2⟩ := ih q u v (fun h => hp (.tail _ h)) (fun h => hq (.tail _ h)) e.2
          exact ⟨by rw [e.1, r1], r2⟩
    have hp := ha p (.head _)
    have hq := hb q (.head _)
    cases a with
    | nil =>
      cases b with
      | nil => simp only [joinL] at e; rw [e]
      | cons b1 b => simp only [joinL] at e; rw [e] at hp; exact absurd (List.mem_append_right _ (.head _)) hp
    | cons a1 a =>
      cases b with
      | nil => simp only [joinL] at e; rw [← e] at hq; exact absurd (List.mem_append_right _ (.head _)) hq
      | cons b1 b =>
        simp only [joinL] at e
        obtain ⟨r1, r2⟩ := key p q _ _ hp hq e
        rw [r1, join_uniq c (a1 :: a) (b1 :: b) (by simp) (by simp) (fun x hx => ha x (.tail _ hx)) (fun x hx => hb x (.tail _ hx)) r2]
theorem split_L (c : Nat) (x : List Nat) : Txt.split (strL x) ⟨#[c]⟩ = (cutL c x).map strL := by
  have h1 := StrLaws.join_split (strL x) ⟨#[c]⟩
  have h2 := StrLaws.split_free (strL x) c
  have h3 : 1 ≤ (Txt.split (strL x) ⟨#[c]⟩).length := split_pos _ _
  generalize Txt.split (strL x) ⟨#[c]⟩ = parts at h1 h2 h3
  have e : parts = (parts.map (·.cps.toList)).map strL := by
    rw [List.map_map]
    conv => lhs; rw [← List.map_id parts]
    apply List.map_congr_left
    intro p _
    simp [strL]
  rw [e] at h1 ⊢
  have h4 : joinL [c] (parts.map (·.cps.toList)) = x := by
    have := join_L [c] (parts.map (·.cps.toList))
    rw [show strL [c] = (⟨#[c]⟩ : Str) from rfl, h1] at this
    have := congrArg (fun s : Str => s.cps.toList) this
    simpa [strL] using this.symm
  rw [join_uniq c (parts.map (·.cps.toList)) (cutL c x) (by intro h; rw [List.map_eq_nil_iff.mp h] at h3; exact absurd h3 (by simp)) (cut_ne c x) (fun p hp => by obtain ⟨q, hq, rfl⟩ := List.mem_map.mp hp; exact h2 q hq) (cut_free c x) (by rw [h4, cut_join])]
end
end Mine
end
section
open PySem PySem.W PySem.Spec PySem.Calls PyProof.Rows
set_option maxRecDepth 100000
set_option maxHeartbeats 1000000
namespace Mine
theorem laW14 : True := by
  k_with_none
  k_with "execs cons" => (k_here; first | k_gentoks | (with_reducible refine exq ?_; intro Q9 hQ9))
  k_with "k_unfold" => (with_reducible refine hQ9 _ _ ?_; clear hQ9)
  trivial
section
theorem ln98 : True := by
  k_with "tb_start" => first | with_reducible assumption | with_reducible exact List.mem_cons_self | (refine' List.mem_cons_of_mem _ ?_; tb_start) | ((with_reducible apply Sub.mem); (with_reducible assumption); tb_start)
  trivial
theorem ln99 : True := by
  k_with "k_all" => first | with_reducible assumption | exact fun p hp => Nat.ne_of_lt ((by with_reducible assumption : ∀ q ∈ _, q.1 < _) p hp) | exact allLt_to (by with_reducible assumption) | exact allLt_to (And.right (by with_reducible assumption))
  trivial
theorem ln100 : True := by
  k_with "ite" => (k_here; with_reducible first | refine ite_tt ?_ | refine ite_ff ?_ | refine ite_no (beq_eq_false_iff_ne.mpr (by assumption)) ?_ | refine ite_yes (bne_iff_ne.mpr (by assumption)) ?_)
  trivial
theorem ln101 : True := by
  k_with "subscriptTail Name Constant ref int" => (k_here; (with_reducible show wpAny _ _ (subscriptTail _ _ (Value.ref _) (Value.int _ _)) _ _ _); k_dflt (first | (refine' tup_item ?z100k1 ?z100k2 ?z100k3 ?z100k4 ?z100k5 ?z100k6 ?_ ?z100k7; (case z100k1 => k_asm); (case z100k2 => tb_start); (case z100k3 => exact rfl); (case z100k4 => exact rfl); (case z100k5 => decide); (case z100k6 => decide); (case z100k7 => with_unfolding_all rfl); k_whole) | (refine' lst_item ?z100k1 ?z100k2 ?z100k3 ?z100k4 ?z100k5 ?_ ?z100k6; (case z100k1 => k_asm); (case z100k2 => tb_start); (case z100k3 => decide); (case z100k4 => decide); (case z100k5 => exact rfl); (case z100k6 => with_unfolding_all rfl); k_whole) | (refine' lcg_item ?z100k1 ?z100k2 ?z100k3 ?z100k4 ?z100k5 ?_ ?z100k6; (case z100k1 => k_asm); (case z100k2 => tb_start); (case z100k3 => decide); (case z100k4 => decide); (case z100k5 => exact rfl); (case z100k6 => with_unfolding_all rfl); k_whole)))
  trivial
theorem ln102 : True := by
  k_with "subscriptTail Name Slice ref ref" => (k_here; k_dflt (first
  | ((with_reducible show wpAny _ _ (subscriptTail _ (Expr.Slice (some _) none none _) _ _) _ _ _); refine' lst_from (s := ⟨_, _, _, _, _⟩) ?z101k1 ?z101k2 ?z101k3 ?z101k4 ?_ ?z101k5 ?z101k6; (case z101k1 => k_asm); (case z101k2 => k_asm); (case z101k3 => tb_start); (case z101k4 => ((try simp only [List.length_append, List.length_cons, List.length_nil]); omega)); (case z101k5 => with_unfolding_all rfl); (case z101k6 => intro _; with_unfolding_all rfl); k_whole; intro x' h' F' N'; (try dsimp only [List.drop] at N'))
  | ((with_reducible show wpAny _ _ (subscriptTail _ (Expr.Slice none (some _) none _) _ _) _ _ _); refine' lst_upto (s := ⟨_, _, _, _, _⟩) ?z101k1 ?z101k2 ?z101k3 ?z101k4 ?_ ?z101k5 ?z101k6; (case z101k1 => k_asm); (case z101k2 => k_asm); (case z101k3 => tb_start); (case z101k4 => ((try simp only [List.length_append, List.length_cons, List.length_nil]); omega)); (case z101k5 => with_unfolding_all rfl); (case z101k6 => intro _; with_unfolding_all rfl); k_whole; intro x' h' F' N'; (try dsimp only [List.take] at N'))))
  trivial
noncomputable abbrev SIs (vs : List Value) (ls : List (List Nat)) : Prop := StrsAre vs (ls.map strL)
theorem SIs.take : ∀ {d : Nat} {vs : List Value} {ls : List Str}, StrsAre vs ls → StrsAre (vs.take d) (ls.take d)
  | 0, _, _, _ => by simp only [List.take_zero]; exact .nil
  | _ + 1, _, _, .nil => .nil
  | d + 1, _, _, .cons y t r => .cons y t (SIs.take (d := d) r)
theorem SIs.drop : ∀ {d : Nat} {vs : List Value} {ls : List Str}, StrsAre vs ls → StrsAre (vs.drop d) (ls.drop d)
  | 0, _, _, h => h
  | _ + 1, _, _, .nil => .nil
  | d + 1, _, _, .cons _ _ r => SIs.drop (d := d) r
theorem SIs.app {ws : List Value} {ms : List Str} (h2 : StrsAre ws ms) : ∀ {vs : List Value} {ls : List Str}, StrsAre vs ls → StrsAre (vs ++ ws) (ls ++ ms)
  | _, _, .nil => h2
  | _, _, .cons y t r => .cons y t (SIs.app h2 r)
theorem SIs.rev : ∀ {vs : List Value} {ls : List Str}, StrsAre vs ls → StrsAre vs.reverse ls.reverse
  | _, _, .nil => .nil
  | _, _, .cons y t r => by rw [List.reverse_cons, List.reverse_cons]; exact SIs.app (.cons y t .nil) (SIs.rev r)
theorem SIs.length : ∀ {vs : List Value} {ls : List Str}, StrsAre vs ls → vs.length = ls.length
  | _, _, .nil => rfl
  | _, _, .cons _ _ r => by rw [List.length_cons, List.length_cons, SIs.length r]
noncomputable def sumL (ls : List (List Nat)) : Nat := (ls.map List.length).sum
theorem sumL_str (ls : List (List Nat)) : ((ls.map strL).map (·.length)).sum = sumL ls := by
  rw [List.map_map]; congr 1
theorem txt_join (sep : List Nat) (ls : List (List Nat)) : Txt.join (strL sep) (ls.map strL) = strL (joinL sep ls) := by
  show Builtin.Str.glued _ _ = _
  rw [StrLaws.glued_eq_join, join_L]
section
variable {prog : Program} {w : World} {A : Around} {E : Value → Shared → Prop} {s : Shared} {h₀ : Heap} {L l : Addr} {m : Str → Option Value} {news : List (Addr × Obj)} {vs : List Value} {n : Nat} {value slice : PySem.Expr} {Q : Value → Shared → Prop}
theorem join_is {sep : List Nat} {t : Tok} {ls : List (List Nat)} (N : News h₀ L s.heap news) (hm : (l, W.listOf vs.toArray n) ∈ news) (hS : SIs vs ls) (hz : sumL ls + ls.length * sep.length ≤ 1000000)
    (h : ∀ t' tk, Q (.str ⟨(joinL sep ls).toArray⟩ t') { s with toks := tk }) : wpAny (model prog w) A (call (.builtin "str.join") [.str ⟨sep.toArray⟩ t, .ref l]) Q E s := by
  refine join_list (x := strL sep) (lst_is N hm) (by simpa using hS) ?_ (fun t' k => ?_)
  · rw [sumL_str, List.length_map]
    have e : (strL sep).length = sep.length := by simp [strL, Str.length]
    rw [e]; omega
  · rw [txt_join]; exact h _ _
theorem split_is {c : Nat} {x : List Nat} {t u : Tok} (F : Fr h₀ L s.heap m) (N : News h₀ L s.heap news) (hz : x.length ≤ 1000000)
    (h : ∀ D ws h' tk, SIs ws (cutL c x) → Fr h₀ L h' m → News h₀ L h' ((D, W.listOf ws.toArray 0) :: news) → (∀ p ∈ news, p.1 < D) → Q (.ref D) { s with heap := h', toks := tk }) : wpAny (model prog w) A (call (.builtin "str.split") [.str ⟨x.toArray⟩ t, .str ⟨#[c]⟩ u]) Q E s := by
  refine W.KSpl.split1 (y := ⟨#[c]⟩) F N rfl (fun D l h' k e hS F' N' l1 => ?_) (by simp only [Str.length, List.size_toArray, sizeLine_eq]; omega)
  have e2 : Txt.split (⟨x.toArray⟩ : Str) ⟨#[c]⟩ = (cutL c x).map strL := split_L c x
  rw [e, e2] at hS
  exact h D _ h' k hS F' N' l1
theorem pick_back (items : Array Value) (hn : 1 ≤ items.size) : slicePick items (some (-2)) none (some (-1)) = items.toList.dropLast.reverse.toArray := by
  unfold slicePick
  have hb : sliceBounds (some (-2)) none (some (-1)) items.size = (((items.size - 1 : Nat) : Int) - 1, -1, -1) := by
    simp only [sliceBounds, Option.getD_some, show ¬ ((-1 : Int) > 0) by decide, if_false, show ((-2 : Int) < 0) = True from by simp, if_true]
    refine Prod.ext ?_ rfl
    show max (-1) (min (-2 + (items.size : Int)) ((items.size : Int) - 1)) = ((items.size - 1 : Nat) : Int) - 1
    omega
  rw [hb]
  show ((sliceRange (((items.size - 1 : Nat) : Int) - 1) (-1) (-1)).filterMap (items[·]?)).toArray = _
  rw [W.krv_sliceRange, W.krv_range, List.filterMap_reverse]
  have h := pick_run items 0 (items.size - 1)
  have e : (List.range (items.size - 1)).map (0 + ·) = List.range (items.size - 1) := by
    rw [show ((0 + ·) : Nat → Nat) = id from funext fun k => Nat.zero_add k, List.map_id]
  rw [e, List.drop_zero] at h
  rw [h, List.dropLast_eq_take, Array.length_toList]
theorem pick_last (items : Array Value) (hn : 1 ≤ items.size) : slicePick items (some (-1)) none none = (items.toList.drop (items.size - 1)).toArray := by
  have h := slicePick_from items (items.size - 1) (by omega)
  rw [← h]
  unfold slicePick
  have e : sliceBounds (some (-1)) none none items.size = sliceBounds (some ((items.size - 1 : Nat) : Int)) none none items.size := by
    simp only [sliceBounds, Option.getD_none, show ((1 : Int) > 0) = True from by simp, if_true, show ((-1 : Int) < 0) = True from by simp]
    refine Prod.ext ?_ rfl
    show max 0 (min (-1 + (items.size : Int)) (items.size : Int)) = _
    have : ¬ (((items.size - 1 : Nat) : Int) < 0) := by omega
    simp only [this, if_false]
    omega
  rw [e]
theorem lst_back {t1 t2 : Tok} {ops : List Value} (F : Fr h₀ L s.heap m) (N : News h₀ L s.heap news) (hm : (l, W.listOf vs.toArray n) ∈ news) (hn : 1 ≤ vs.length) (hz : vs.length ≤ 100000)
    (h : ∀ x h', Fr h₀ L h' m → News h₀ L h' ((x, W.listOf (vs.dropLast.reverse).toArray 0) :: news) → Q (.ref x) { s with heap := h' })
    (hs : subscripted slice false (.ref l) (.ref s.heap.objs.size) = operate ops (getItem (.ref l) (.ref s.heap.objs.size)))
    (ht : ∀ r, letTemporaryGo value (.ref l) r = pure ()) :
    wpAny (model prog w) A (subscriptTail value slice (.ref l) (.ref s.heap.objs.size)) Q E { s with heap := s.heap.push { cls := .type "slice", data := .fields #[.int (-2) t1, .none, .int (-1) t2] } } := by
  refine slice_list3 F N (lst_is N hm) (.int (-2) t1) .none (.int (-1) t2) (by decide) (fun h' F' N' => h _ h' F' ?_) hs ht (by rw [List.size_toArray, sizeLine_eq]; omega)
  rw [pick_back vs.toArray (by simpa using hn)] at N'
  simpa using N'
theorem lst_tail {t1 : Tok} (F : Fr h₀ L s.heap m) (N : News h₀ L s.heap news) (hm : (l, W.listOf vs.toArray n) ∈ news) (hn : 1 ≤ vs.length) (hz : vs.length ≤ 100000)
    (h : ∀ x h', Fr h₀ L h' m → News h₀ L h' ((x, W.listOf (vs.drop (vs.length - 1)).toArray 0) :: news) → Q (.ref x) { s with heap := h' })
    (hs : subscripted slice false (.ref l) (.ref s.heap.objs.size) = operate [.ref s.heap.objs.size, .ref l] (getItem (.ref l) (.ref s.heap.objs.size)))
    (ht : ∀ r, letTemporaryGo value (.ref l) r = pure ()) :
    wpAny (model prog w) A (subscriptTail value slice (.ref l) (.ref s.heap.objs.size)) Q E { s with heap := s.heap.push { cls := .type "slice", data := .fields #[.int (-1) t1, .none, .none] } } :=
  slice_list F N (lst_is N hm) (.int (-1) t1) .none (fun h' F' N' => h _ h' F' (by rw [pick_last _ (by simpa using hn)] at N'; simpa using N')) hs ht (by rw [List.size_toArray, sizeLine_eq]; omega)
end
noncomputable def leadR (us : List (List Nat)) (d : Nat) : List (List Nat) := cutL 9 (joinL [] (us.take d))
noncomputable def leadO (us : List (List Nat)) (d : Nat) : List (List Nat) := (leadR us d).dropLast.reverse ++ (leadR us d).drop ((leadR us d).length - 1)
noncomputable def leadL (us : List (List Nat)) (d place : Nat) : List Nat := joinL [9] (if place % 2 = 1 then leadO us d else leadR us d)
theorem joinL_len (sep : List Nat) : ∀ ls : List (List Nat), (joinL sep ls).length ≤ sumL ls + ls.length * sep.length
  | [] => by simp [joinL, sumL]
  | [a] => by simp [joinL, sumL]
  | a :: b :: r => by
    have ih := joinL_len sep (b :: r)
    have e : sumL (a :: b :: r) = a.length + sumL (b :: r) := by simp [sumL]
    have e2 : (a :: b :: r).length * sep.length = (b :: r).length * sep.length + sep.length := by simp only [List.length_cons]; rw [Nat.succ_mul]
    rw [e, e2]
    simp only [joinL, List.length_append]
    omega
theorem cut_len (c : Nat) : ∀ x : List Nat, sumL (cutL c x) + (cutL c x).length ≤ x.length + 1
  | [] => by simp [cutL, sumL]
  | x :: r => by
    have ih := cut_len c r
    simp only [cutL]
    split
    · have e : sumL ([] :: cutL c r) = sumL (cutL c r) := by simp [sumL]
      rw [e]; simp only [List.length_cons]; omega
    · cases e : cutL c r with
      | nil => exact absurd e (cut_ne c r)
      | cons p q =>
        rw [e] at ih
        have e1 : sumL ((x :: p) :: q) = 1 + sumL (p :: q) := by simp [sumL]; omega
        show sumL ((x :: p) :: q) + ((x :: p) :: q).length ≤ _
        rw [e1]
        simp only [List.length_cons] at ih ⊢
        omega
theorem sumL_take : ∀ (d : Nat) (us : List (List Nat)), sumL (us.take d) ≤ sumL us
  | 0, us => by simp [sumL]
  | _ + 1, [] => Nat.le_refl _
  | d + 1, u :: us => by
    have ih := sumL_take d us
    have e1 : sumL (u :: us) = u.length + sumL us := by simp [sumL]
    have e2 : sumL ((u :: us).take (d + 1)) = u.length + sumL (us.take d) := by simp [sumL]
    rw [e1, e2]; omega
theorem lit_nl : PySem.Str.ofString "" = ⟨([] : List Nat).toArray⟩ := by decide +kernel
theorem lit_tab : PySem.Str.ofString "\t" = ⟨([9] : List Nat).toArray⟩ := by decide +kernel
theorem join_at {prog : Program} {w : World} {A : Around} {E : Value → Shared → Prop} {s : Shared} {h₀ : Heap} {L l : Addr} {news : List (Addr × Obj)} {vs : List Value} {n : Nat} {Q : Value → Shared → Prop} {x : Str} {sep : List Nat} {t : Tok} {ls : List (List Nat)} (hx : x = ⟨sep.toArray⟩) (N : News h₀ L s.heap news) (hm : (l, W.listOf vs.toArray n) ∈ news) (hS : SIs vs ls) (hz : sumL ls + ls.length * sep.length ≤ 1000000)
    (h : ∀ t' tk, Q (.str ⟨(joinL sep ls).toArray⟩ t') { s with toks := tk }) : wpAny (model prog w) A (call (.builtin "str.join") [.str x t, .ref l]) Q E s := by
  subst hx; exact join_is N hm hS hz h
theorem split_at {prog : Program} {w : World} {A : Around} {E : Value → Shared → Prop} {s : Shared} {h₀ : Heap} {L : Addr} {m : Str → Option Value} {news : List (Addr × Obj)} {Q : Value → Shared → Prop} {c : Nat} {x : List Nat} {y : Str} {t u : Tok} (hy : y = ⟨[c].toArray⟩) (F : Fr h₀ L s.heap m) (N : News h₀ L s.heap news) (hz : x.length ≤ 1000000)
    (h : ∀ D ws h' tk, SIs ws (cutL c x) → Fr h₀ L h' m → News h₀ L h' ((D, W.listOf ws.toArray 0) :: news) → (∀ p ∈ news, p.1 < D) → Q (.ref D) { s with heap := h', toks := tk }) : wpAny (model prog w) A (call (.builtin "str.split") [.str ⟨x.toArray⟩ t, .str y u]) Q E s := by
  subst hy; exact split_is F N hz h
theorem ite_z {a : Int} {P Q : Prop} (ha : a = 0) (h : Q) : if (a != 0) = true then P else Q := ite_no (by simp [ha]) h
theorem ln103 : True := by
  k_with "ite" => (k_here; ((with_reducible refine ite_z ?_ ?_); (with_reducible assumption)))
  trivial
theorem ln104 : True := by
  k_with "call builtin:str.join" => (k_here; (try dsimp only [List.cons_append, List.nil_append]); k_dflt (refine' join_at ?z103kx ?z103k1 ?z103k2 ?z103k3 ?z103k4 ?_; (case z103kx => first | exact lit_nl | exact lit_tab); (case z103k1 => k_asm); (case z103k2 => tb_start); (case z103k3 => with_reducible assumption); (case z103k4 => ((try simp only [List.length_cons, List.length_nil]); omega)); k_whole; intro _ _))
  trivial
theorem ln105 : True := by
  k_with "call builtin:str.split" => (k_here; (try dsimp only [List.cons_append, List.nil_append]); k_dflt (refine' split_at ?z104kx ?z104k1 ?z104k2 ?z104k3 ?_; (case z104kx => exact lit_tab); (case z104k1 => k_asm); (case z104k2 => k_asm); (case z104k3 => omega); k_whole; intro D' ws' h' tk' hS' F' N' l1'; (have hw9 := SIs.length hS'); (rw [List.length_map] at hw9)))
  trivial
theorem ln106 : True := by
  k_with "binaryOp Add ref ref" => (k_here; k_dflt (refine' lst_addO ?z105k1 ?z105k2 ?z105k3 ?z105k4 ?z105k5 ?_; (case z105k1 => k_asm); (case z105k2 => k_asm); (case z105k3 => tb_start); (case z105k4 => tb_start); (case z105k5 => ((try simp only [List.length_reverse, List.length_dropLast, List.length_drop]); omega)); k_whole; intro x' h' F' N' l1'))
  trivial
theorem ln107 : True := by
  k_with "binaryOp Add str str" => (k_here; k_dflt (
  refine' add_strL ?z106kx ?z106ky ?z106kl ?_; (case z106kx => first | exact lit_lp | exact lit_rp | exact lit_tl | rfl); (case z106ky => first | exact lit_lp | exact lit_rp | exact lit_tl | rfl);
  (case z106kl => ((try simp only [List.length_append, List.length_cons, List.length_nil]); omega)); k_whole; intro _ _))
  trivial
theorem ln108 : True := by
  k_with "subscriptTail Name Slice ref ref" => (k_here; k_dflt (first | ((with_reducible show wpAny _ _ (subscriptTail _ (Expr.Slice (some _) none (some _) _) _ _) _ _ _); refine' lst_back (s := ⟨_, _, _, _, _⟩) ?z107k1 ?z107k2 ?z107k3 ?z107k4 ?z107k5 ?_ ?z107k6 ?z107k7; (case z107k1 => k_asm); (case z107k2 => k_asm); (case z107k3 => tb_start); (case z107k4 => omega); (case z107k5 => omega); (case z107k6 => with_unfolding_all rfl); (case z107k7 => intro _; with_unfolding_all rfl); k_whole; intro x' h' F' N') | ((with_reducible show wpAny _ _ (subscriptTail _ (Expr.Slice (some (Expr.UnaryOp _ _ _)) none none _) _ _) _ _ _); refine' lst_tail (s := ⟨_, _, _, _, _⟩) ?z107k1 ?z107k2 ?z107k3 ?z107k4 ?z107k5 ?_ ?z107k6 ?z107k7; (case z107k1 => k_asm); (case z107k2 => k_asm); (case z107k3 => tb_start); (case z107k4 => omega); (case z107k5 => omega); (case z107k6 => with_unfolding_all rfl); (case z107k7 => intro _; with_unfolding_all rfl); k_whole; intro x' h' F' N')))
  trivial
theorem SIs.dropLast {vs : List Value} {ls : List Str} (h : StrsAre vs ls) : StrsAre vs.dropLast ls.dropLast := by
  rw [List.dropLast_eq_take, List.dropLast_eq_take, SIs.length h]; exact SIs.take h
theorem lead_o {us : List (List Nat)} {d : Nat} {ws : List Value} (h : SIs ws (cutL 9 (joinL [] (us.take d)))) : SIs (ws.dropLast.reverse ++ ws.drop (ws.length - 1)) (leadO us d) := by
  have hl := SIs.length h
  rw [List.length_map] at hl
  have h1 := SIs.app (SIs.drop (d := ws.length - 1) h) (SIs.rev (SIs.dropLast h))
  have e : List.map strL (leadO us d) = (List.map strL (cutL 9 (joinL [] (us.take d)))).dropLast.reverse ++ (List.map strL (cutL 9 (joinL [] (us.take d)))).drop (ws.length - 1) := by
    simp only [leadO, leadR, List.map_append, List.map_reverse, List.map_dropLast, List.map_drop, hl]
  show StrsAre _ _
  rw [e]; exact h1
theorem sumL_app (a b : List (List Nat)) : sumL (a ++ b) = sumL a + sumL b := by simp [sumL]
theorem sumL_rev (a : List (List Nat)) : sumL a.reverse = sumL a := by simp [sumL]
theorem drop_one : ∀ (r : List (List Nat)), r ≠ [] → r.dropLast ++ r.drop (r.length - 1) = r := fun r h => by
  rw [List.dropLast_eq_take, List.take_append_drop]
theorem leadO_sum (us : List (List Nat)) (d : Nat) : sumL (leadO us d) = sumL (leadR us d) ∧ (leadO us d).length = (leadR us d).length := by
  have h := drop_one (leadR us d) (cut_ne 9 _)
  have h1 := congrArg sumL h
  have h2 := congrArg List.length h
  rw [sumL_app] at h1
  rw [List.length_append] at h2
  constructor
  · rw [leadO, sumL_app, sumL_rev]; exact h1
  · rw [leadO, List.length_append, List.length_reverse]; exact h2
theorem line_ (w : World) {l r : Addr} {vs : List Value} {ep : Nat} {news : List (Addr × Obj)} (us : List (List Nat)) (d place : Nat) (td tp tx : Tok) (txt : List Nat) (hm : (l, W.listOf vs.toArray ep) ∈ news) (hS : SIs vs us) (hu : us.length ≤ 20) (hr : (r, tupO [.int d td, .str ⟨txt.toArray⟩ tx]) ∈ news) (ht : txt.length ≤ 1000)
    (hz : sumL us ≤ 1000) : ConU w 184 [.ref l, .int place tp, .ref r] news 10 80 (fun _ v => ∃ t', v = .str ⟨(leadL us d place ++ txt).toArray⟩ t') := by
  have hlv := SIs.length hS
  rw [List.length_map] at hlv
  have hS1 : SIs (vs.take d) (us.take d) := by
    have := SIs.take (d := d) hS
    rw [← List.map_take] at this; exact this
  have hz1 := sumL_take d us
  have hz2 : (us.take d).length ≤ 20 := by rw [List.length_take]; omega
  have hz3 := joinL_len [] (us.take d)
  have hz4 := cut_len 9 (joinL [] (us.take d))
  simp only [List.length_nil, Nat.mul_zero, Nat.add_zero] at hz3
  unfold ConU
  intro mean mg mb dp un gd cn cs a' ccd cl outer A₀ base h₀ L m s Q E B F X N T hk hd hu' hret
  w_on
  w_strict (
  refine wpAny_call ?_
  k_dflt ktr_enter
  repeat' ((fail_if_success (with_reducible show wpAny _ _ (exec (Stmt.If _ _ _ _) _) _ _ _)); first | (k_unfold; (try dsimp only)) | (k_end; kc_close) | walk1 | (dsimp only; walk1) | (leave1; walk_say "STEP leave1"; (try dsimp only)) | fail "no step")
  by_cases hpl : place % 2 = 1
  · have hmod : ((place : Nat) : Int).fmod 2 ≠ 0 := by rw [Int.fmod_eq_emod_of_nonneg _ (by omega)]; omega
    (with_reducible rename StrsAre _ (List.map _ (cutL _ _)) => hwS)
    have hA := lead_o hwS
    have hws1 : 1 ≤ List.length (cutL 9 (joinL [] (us.take d))) := Nat.pos_of_ne_zero fun h => cut_ne 9 _ (List.length_eq_zero_iff.mp h)
    obtain ⟨hq1, hq2⟩ := leadO_sum us d
    simp only [leadR] at hq1 hq2
    have hq3 := joinL_len [9] (leadO us d)
    simp only [List.length_cons, List.length_nil] at hq3
    k_steps
    exact hret _ _ _ _ (by k_asm) (by k_asm) (fun _ _ => by tb_start) ⟨_, by rw [leadL, if_pos hpl]⟩
  · have hmod : ((place : Nat) : Int).fmod 2 = 0 := by rw [Int.fmod_eq_emod_of_nonneg _ (by omega)]; omega
    have hq3 := joinL_len [9] (cutL 9 (joinL [] (us.take d)))
    simp only [List.length_cons, List.length_nil] at hq3
    k_steps
    exact hret _ _ _ _ (by k_asm) (by k_asm) (fun _ _ => by tb_start) ⟨_, by rw [leadL, if_neg hpl]; rfl⟩)
end
end Mine
end
section
open PySem PySem.W PySem.Spec PySem.Calls PyProof.Rows
set_option maxRecDepth 100000
set_option maxHeartbeats 1000000
namespace Mine
theorem lzP05 : True := by
  k_with_none
  trivial
noncomputable def bump (cnt : List Nat) (k : Nat) : List Nat := (if k ≥ cnt.length then cnt ++ List.replicate (k - cnt.length + 1) 0 else cnt).modify k (· + 1)
theorem bump_len (cnt : List Nat) (k : Nat) : (bump cnt k).length = max cnt.length (k + 1) := by
  unfold bump
  rw [List.length_modify]
  split
  · rw [List.length_append, List.length_replicate]; omega
  · omega
theorem bump_get (cnt : List Nat) (k j : Nat) : (bump cnt k).getD j 0 = cnt.getD j 0 + if j = k then 1 else 0 := by
  unfold bump
  simp only [List.getD_eq_getElem?_getD, List.getElem?_modify]
  have e : (if k ≥ cnt.length then cnt ++ List.replicate (k - cnt.length + 1) 0 else cnt)[j]?.getD 0 = cnt[j]?.getD 0 := by
    split
    · rw [List.getElem?_append]
      split
      · rfl
      · rw [List.getElem?_eq_none (l := cnt) (by omega), List.getElem?_replicate]
        split <;> rfl
    · rfl
  have hlt : j = k → j < (if k ≥ cnt.length then cnt ++ List.replicate (k - cnt.length + 1) 0 else cnt).length := fun hj => by
    split
    · rw [List.length_append, List.length_replicate]; omega
    · omega
  generalize (if k ≥ cnt.length then cnt ++ List.replicate (k - cnt.length + 1) 0 else cnt) = L at e hlt
  by_cases h : j = k
  · subst h
    have := hlt rfl
    rw [List.getElem?_eq_getElem this] at e ⊢
    simp only [Option.getD_some, if_true, Option.map_some] at e ⊢
    first | omega | (simp; omega)
  · have h' : ¬ k = j := fun e => h e.symm
    simp only [h, h', if_false]
    first | (rw [e]; omega) | (simpa using e)
theorem cnt_ext {a b : List Nat} (h1 : a.length = b.length) (h2 : ∀ j, a.getD j 0 = b.getD j 0) : a = b := by
  refine List.ext_getElem h1 fun j hj hj' => ?_
  have := h2 j
  simpa [List.getD_eq_getElem?_getD, hj, hj'] using this
theorem bump_comm (c : List Nat) (i j : Nat) : bump (bump c i) j = bump (bump c j) i := by
  refine cnt_ext ?_ fun k => ?_
  · simp only [bump_len]; omega
  · simp only [bump_get]; exact Nat.add_right_comm _ _ _
noncomputable def bumps (c : List Nat) (ls : List Nat) : List Nat := ls.foldl bump c
theorem bumps_bump : ∀ (ls c : List Nat) (k : Nat), bumps (bump c k) ls = bump (bumps c ls) k
  | [], _, _ => rfl
  | l :: ls, c, k => by
    show bumps (bump (bump c k) l) ls = bump (bumps (bump c l) ls) k
    rw [bump_comm, bumps_bump ls]
theorem bumps_rev : ∀ (ls c : List Nat), bumps c ls.reverse = bumps c ls
  | [], _ => rfl
  | l :: ls, c => by
    have e : bumps c (ls.reverse ++ [l]) = bump (bumps c ls.reverse) l := by simp [bumps]
    rw [List.reverse_cons, e, bumps_rev ls, ← bumps_bump ls]
    rfl
noncomputable def blank (x : List Nat) : Prop := ∀ k ∈ x, k = 32 ∨ k = 9
theorem ws_app : ∀ (x y : List Nat) (s : WS), blank x → wsGo (x ++ y) s = wsGo y (wsGo x s)
  | [], _, _, _ => rfl
  | c :: x, y, s, h => by
    have hc := h c (.head _)
    have hr : blank x := fun k hk => h k (.tail _ hk)
    simp only [List.cons_append, wsGo]
    by_cases h32 : c = 32
    · rw [if_pos h32, if_pos h32, ws_app x y _ hr]
    · rcases hc with hc | hc
      · exact absurd hc h32
      · rw [if_neg h32, if_neg h32, if_pos hc, if_pos hc, ws_app x y _ hr]
theorem ws_stop (c : Nat) (r : List Nat) (s : WS) (h1 : c ≠ 32) (h2 : c ≠ 9) : wsGo (c :: r) s = s := by
  simp only [wsGo, h1, h2, if_false]
theorem ws_run : ∀ (r : List Nat) (s : WS), (∀ k ∈ r, k = 32) → wsGo r s = ⟨s.cnt, s.b + r.length, s.n + r.length, s.nt⟩
  | [], _, _ => rfl
  | c :: r, s, h => by
    simp only [wsGo]
    rw [if_pos (h c (.head _)), ws_run r s.sp fun k hk => h k (.tail _ hk)]
    simp only [WS.sp, List.length_cons]
    congr 1 <;> omega
theorem ws_runs (last : List Nat) (hl : ∀ k ∈ last, k = 32) : ∀ (rs : List (List Nat)) (s : WS), (∀ r ∈ rs, ∀ k ∈ r, k = 32) → s.b = 0 →
    wsGo (joinL [9] (rs ++ [last])) s = ⟨bumps s.cnt (rs.map List.length), last.length, s.n + (joinL [9] (rs ++ [last])).length, s.nt + rs.length⟩
  | [], s, _, hb => by
    simp only [List.nil_append, joinL]
    rw [ws_run last s hl, hb]
    simp [bumps]
  | r :: rs, s, h, hb => by
    have hj : joinL [9] (r :: rs ++ [last]) = r ++ (9 :: joinL [9] (rs ++ [last])) := by
      cases e : rs ++ [last] with
      | nil => simp at e
      | cons a b => simp only [List.cons_append, e, joinL]; rfl
    rw [hj, ws_app r _ s fun k hk => .inl (h r (.head _) k hk), ws_run r s (h r (.head _))]
    have e9 : ∀ (x : List Nat) (t : WS), wsGo (9 :: x) t = wsGo x t.tab := fun x t => by simp [wsGo]
    rw [e9, ws_runs last hl rs _ (fun q hq => h q (.tail _ hq)) rfl]
    have et : (WS.tab ⟨s.cnt, s.b + r.length, s.n + r.length, s.nt⟩) = ⟨bump s.cnt (s.b + r.length), 0, s.n + r.length + 1, s.nt + 1⟩ := rfl
    rw [et]
    simp only [hb, Nat.zero_add, List.map_cons, List.length_append, List.length_cons, WS.mk.injEq, true_and]
    refine ⟨rfl, ?_, ?_⟩ <;> omega
theorem joinL_len1 (c : Nat) : ∀ (ls : List (List Nat)), ls ≠ [] → (joinL [c] ls).length + 1 = sumL ls + ls.length
  | [], h => absurd rfl h
  | [a], _ => by simp [joinL, sumL]
  | a :: b :: r, _ => by
    have ih := joinL_len1 c (b :: r) (by simp)
    have e : sumL (a :: b :: r) = a.length + sumL (b :: r) := by simp [sumL]
    simp only [joinL, List.length_append, List.length_cons, List.length_nil] at ih ⊢
    rw [e]; omega
theorem last_of {α : Type} (ps : List α) (h : ps ≠ []) : ∃ rs last, ps = rs ++ [last] := ⟨ps.dropLast, ps.getLast h, (List.dropLast_concat_getLast h).symm⟩
/-- the runs ahead of tabs, turned round, tell the same -/
theorem ws_odd (ps : List (List Nat)) (hne : ps ≠ []) (h : ∀ p ∈ ps, ∀ k ∈ p, k = 32) : wsGo (joinL [9] (ps.dropLast.reverse ++ ps.drop (ps.length - 1))) ⟨[], 0, 0, 0⟩ = wsGo (joinL [9] ps) ⟨[], 0, 0, 0⟩ := by
  obtain ⟨rs, last, rfl⟩ := last_of ps hne
  have e1 : (rs ++ [last]).dropLast = rs := by simp
  have e2 : (rs ++ [last]).drop ((rs ++ [last]).length - 1) = [last] := by simp
  rw [e1, e2]
  have hl : ∀ k ∈ last, k = 32 := h last (by simp)
  have hr : ∀ r ∈ rs, ∀ k ∈ r, k = 32 := fun r hr => h r (by simp [hr])
  rw [ws_runs last hl rs.reverse _ (fun r hq => hr r (List.mem_reverse.mp hq)) rfl, ws_runs last hl rs _ hr rfl]
  have l1 := joinL_len1 9 (rs.reverse ++ [last]) (by simp)
  have l2 := joinL_len1 9 (rs ++ [last]) (by simp)
  have l3 : sumL (rs.reverse ++ [last]) = sumL (rs ++ [last]) := by rw [sumL_app, sumL_app, sumL_rev]
  simp only [List.length_append, List.length_reverse, List.length_cons, List.length_nil] at l1 l2
  have l4 : (joinL [9] (rs.reverse ++ [last])).length = (joinL [9] (rs ++ [last])).length := by omega
  rw [l4, List.map_reverse, bumps_rev, List.length_reverse]
end Mine
end
section
open PySem PySem.W PySem.Spec PySem.Calls PyProof.Rows
set_option maxRecDepth 100000
set_option maxHeartbeats 1000000
namespace Mine
theorem laW15 : True := by
  k_with_none
  k_with "execs cons" => (k_here; first | k_gentoks | (with_reducible refine exq ?_; intro Q9 hQ9))
  k_with "k_unfold" => (with_reducible refine hQ9 _ _ ?_; clear hQ9)
  trivial
section
theorem ln110 : True := by
  k_with "tb_start" => first | with_reducible assumption | with_reducible exact List.mem_cons_self | (refine' List.mem_cons_of_mem _ ?_; tb_start) | ((with_reducible apply Sub.mem); (with_reducible assumption); tb_start)
  trivial
theorem ln111 : True := by
  k_with "k_all" => first | with_reducible assumption | exact fun p hp => Nat.ne_of_lt ((by with_reducible assumption : ∀ q ∈ _, q.1 < _) p hp) | exact allLt_to (by with_reducible assumption) | exact allLt_to (And.right (by with_reducible assumption))
  trivial
theorem ln112 : True := by
  k_with "ite" => (k_here; with_reducible first | refine ite_tt ?_ | refine ite_ff ?_ | refine ite_no (beq_eq_false_iff_ne.mpr (by assumption)) ?_ | refine ite_yes (bne_iff_ne.mpr (by assumption)) ?_)
  trivial
theorem ln113 : True := by
  k_with "subscriptTail Name Constant ref int" => (k_here; (with_reducible show wpAny _ _ (subscriptTail _ _ (Value.ref _) (Value.int _ _)) _ _ _); k_dflt (first | (refine' tup_item ?z112k1 ?z112k2 ?z112k3 ?z112k4 ?z112k5 ?z112k6 ?_ ?z112k7; (case z112k1 => k_asm); (case z112k2 => tb_start); (case z112k3 => exact rfl); (case z112k4 => exact rfl); (case z112k5 => decide); (case z112k6 => decide); (case z112k7 => with_unfolding_all rfl); k_whole) | (refine' lst_item ?z112k1 ?z112k2 ?z112k3 ?z112k4 ?z112k5 ?_ ?z112k6; (case z112k1 => k_asm); (case z112k2 => tb_start); (case z112k3 => decide); (case z112k4 => decide); (case z112k5 => exact rfl); (case z112k6 => with_unfolding_all rfl); k_whole) | (refine' lcg_item ?z112k1 ?z112k2 ?z112k3 ?z112k4 ?z112k5 ?_ ?z112k6; (case z112k1 => k_asm); (case z112k2 => tb_start); (case z112k3 => decide); (case z112k4 => decide); (case z112k5 => exact rfl); (case z112k6 => with_unfolding_all rfl); k_whole)))
  trivial
theorem ln114 : True := by
  k_with "CompEnd" => (k_dflt (refine' LCg.CompEnd.intro ?z113kF ?z113kN _ (fun p hp => hp) ?z113kO ?z113kS ?_; (case z113kF => with_reducible assumption); (case z113kN => first | with_reducible assumption | ((simp only [List.nil_append, List.cons_append]); with_reducible assumption)); (case z113kO => assumption); (case z113kS => lcg_src); k_whole))
  trivial
theorem ln115 : True := by
  k_with "subscriptTail Name Slice ref ref" => (k_here; k_dflt (first
  | ((with_reducible show wpAny _ _ (subscriptTail _ (Expr.Slice (some _) none none _) _ _) _ _ _); refine' lst_from (s := ⟨_, _, _, _, _⟩) ?z114k1 ?z114k2 ?z114k3 ?z114k4 ?_ ?z114k5 ?z114k6; (case z114k1 => k_asm); (case z114k2 => k_asm); (case z114k3 => tb_start); (case z114k4 => ((try simp only [List.length_append, List.length_cons, List.length_nil]); omega)); (case z114k5 => with_unfolding_all rfl); (case z114k6 => intro _; with_unfolding_all rfl); k_whole; intro x' h' F' N'; (try dsimp only [List.drop] at N'))
  | ((with_reducible show wpAny _ _ (subscriptTail _ (Expr.Slice none (some _) none _) _ _) _ _ _); refine' lst_upto (s := ⟨_, _, _, _, _⟩) ?z114k1 ?z114k2 ?z114k3 ?z114k4 ?_ ?z114k5 ?z114k6; (case z114k1 => k_asm); (case z114k2 => k_asm); (case z114k3 => tb_start); (case z114k4 => ((try simp only [List.length_append, List.length_cons, List.length_nil]); omega)); (case z114k5 => with_unfolding_all rfl); (case z114k6 => intro _; with_unfolding_all rfl); k_whole; intro x' h' F' N'; (try dsimp only [List.take] at N'))))
  trivial
theorem ln116 : True := by
  k_with "call builtin:len" => (k_here; (try dsimp only); (with_reducible show wpAny _ _ (call (Value.builtin _) [Value.ref _]) _ _ _); k_dflt (refine' lst_len ?z115k1 ?z115k2 ?z115k3 ?_; (case z115k1 => k_asm); (case z115k2 => tb_start); (case z115k3 => ((try simp only [List.length_append, List.length_cons, List.length_nil]); omega)); k_whole; intro _ _))
  trivial
theorem ln117 : True := by
  k_with "subscriptTail Name Name ref int" => (k_here; k_dflt (refine' lst_itemN ?z116k1 ?z116k2 ?z116k3 ?z116k4 ?_ ?z116k5; (case z116k1 => k_asm); (case z116k2 => tb_start); (case z116k3 => with_reducible assumption); (case z116k4 => ((try simp only [List.length_append]); omega)); (case z116k5 => with_unfolding_all rfl); k_whole))
  trivial
theorem ln118 : True := by
  k_with "subscriptTail Name BinOp ref int" => (k_here; k_dflt (refine' lst_itemN ?z117k1 ?z117k2 ?z117k3 ?z117k4 ?_ ?z117k5; (case z117k1 => k_asm); (case z117k2 => tb_start); (case z117k3 => with_reducible assumption); (case z117k4 => ((try simp only [List.length_append]); omega)); (case z117k5 => with_unfolding_all rfl); k_whole))
  trivial
theorem ln119 : True := by
  k_with "binaryOp Add ref ref" => (k_here; k_dflt (refine' lst_addO ?z118k1 ?z118k2 ?z118k3 ?z118k4 ?z118k5 ?_; (case z118k1 => k_asm); (case z118k2 => k_asm); (case z118k3 => tb_start); (case z118k4 => tb_start); (case z118k5 => ((try simp only [List.length_append, List.length_cons, List.length_nil, List.length_take, List.length_drop]); omega)); k_whole; intro x' h' F' N' l1'))
  trivial
theorem item3 : ∀ k : Nat, k < 3 → Txt.item (PySem.Str.ofString "ab\"") (k : Int) = ⟨#[letC k]⟩ := by decide +kernel
theorem item_ci {news : List (Addr × Obj)} (n : Int) (t : Tok) : ∃ k : Nat, k < 3 ∧ CI news (.str (Txt.item (PySem.Str.ofString "ab\"") (n.fmod 3)) t) (.leaf k) := by
  have h0 : 0 ≤ n.fmod 3 := Int.fmod_nonneg_of_pos n (by omega)
  have h3 : n.fmod 3 < 3 := Int.fmod_lt_of_pos n (by omega)
  obtain ⟨k, hk⟩ := Int.eq_ofNat_of_zero_le h0
  rw [hk] at h3 ⊢
  rw [item3 k (by omega)]
  exact ⟨k, by omega, .leaf⟩
inductive CIs (news : List (Addr × Obj)) : List Value → List Cl → Prop
  | nil : CIs news [] []
  | cons {v : Value} {c : Cl} {vs : List Value} {cs : List Cl} : CI news v c → c.ok → CIs news vs cs → CIs news (v :: vs) (c :: cs)
noncomputable def szs : List Cl → Nat
  | [] => 0
  | c :: r => c.size + szs r
theorem CIs.mono {news news' : List (Addr × Obj)} (hs : ∀ p ∈ news, p ∈ news') : ∀ {vs : List Value} {cs : List Cl}, CIs news vs cs → CIs news' vs cs
  | _, _, .nil => .nil
  | _, _, .cons h ho r => .cons (h.mono hs) ho (CIs.mono hs r)
theorem CIs.app {news : List (Addr × Obj)} {ws : List Value} {ds : List Cl} (h2 : CIs news ws ds) : ∀ {vs : List Value} {cs : List Cl}, CIs news vs cs → CIs news (vs ++ ws) (cs ++ ds)
  | _, _, .nil => h2
  | _, _, .cons h ho r => .cons h ho (CIs.app h2 r)
theorem CIs.take {news : List (Addr × Obj)} : ∀ {k : Nat} {vs : List Value} {cs : List Cl}, CIs news vs cs → CIs news (vs.take k) (cs.take k)
  | 0, _, _, _ => by simp only [List.take_zero]; exact .nil
  | _ + 1, _, _, .nil => .nil
  | k + 1, _, _, .cons h ho r => .cons h ho (CIs.take (k := k) r)
theorem CIs.drop {news : List (Addr × Obj)} : ∀ {k : Nat} {vs : List Value} {cs : List Cl}, CIs news vs cs → CIs news (vs.drop k) (cs.drop k)
  | 0, _, _, h => h
  | _ + 1, _, _, .nil => .nil
  | k + 1, _, _, .cons _ _ r => CIs.drop (k := k) r
theorem CIs.length {news : List (Addr × Obj)} : ∀ {vs : List Value} {cs : List Cl}, CIs news vs cs → vs.length = cs.length
  | _, _, .nil => rfl
  | _, _, .cons _ _ r => by rw [List.length_cons, List.length_cons, CIs.length r]
theorem CIs.at {news : List (Addr × Obj)} : ∀ {k : Nat} {vs : List Value} {cs : List Cl}, CIs news vs cs → k < cs.length → ∃ v c, vs[k]? = some v ∧ cs[k]? = some c ∧ CI news v c ∧ c.ok
  | _, _, _, .nil, h => absurd h (Nat.not_lt_zero _)
  | 0, _, _, .cons (v := v) (c := c) h ho _, _ => ⟨v, c, rfl, rfl, h, ho⟩
  | k + 1, _, _, .cons _ _ r, h => CIs.at (k := k) r (by simpa using h)
theorem szs_app (a b : List Cl) : szs (a ++ b) = szs a + szs b := by
  induction a with
  | nil => simp [szs]
  | cons c r ih => simp only [List.cons_append, szs, ih]; omega
theorem szs_cut : ∀ {k : Nat} {cs : List Cl} {a b : Cl}, cs[k]? = some a → cs[k + 1]? = some b → szs (cs.take k) + a.size + b.size + szs (cs.drop (k + 2)) = szs cs
  | 0, [], _, _, h, _ => by simp at h
  | 0, [_], _, _, _, h => by simp at h
  | 0, x :: y :: r, a, b, h1, h2 => by simp at h1 h2; subst h1; subst h2; simp [szs]; omega
  | k + 1, [], _, _, h, _ => by simp at h
  | k + 1, x :: r, a, b, h1, h2 => by
    have := szs_cut (k := k) (cs := r) (a := a) (b := b) (by simpa using h1) (by simpa using h2)
    simp only [List.take_succ_cons, szs, List.drop_succ_cons]; omega
noncomputable def JJ (news0 : List (Addr × Obj)) (l3 : Addr × Obj) (i : Nat) (m₁ : Str → Option Value) (news₁ : List (Addr × Obj)) : Prop :=
  ∃ (lp : Addr) (vs : List Value) (ep : Nat) (cs : List Cl), m₁ (PySem.Str.ofString "parts") = some (.ref lp) ∧ (lp, W.listOf vs.toArray ep) ∈ news₁ ∧ CIs news₁ vs cs ∧ cs.length + i = 4 ∧ szs cs = 4 + i ∧ l3 ∈ news₁ ∧ Sub news0 news₁
theorem parts4 {news : List (Addr × Obj)} {h₀ h : Heap} {L D : Addr} {rest : List (Addr × Obj)} (n0 n1 n2 n3 : Int) {t0 t1 t2 t3 : Tok} (_N : News h₀ L h ((D, LCg.lst [Value.str (Txt.item (PySem.Str.ofString "ab\"") (n0.fmod 3)) t0, Value.str (Txt.item (PySem.Str.ofString "ab\"") (n1.fmod 3)) t1, Value.str (Txt.item (PySem.Str.ofString "ab\"") (n2.fmod 3)) t2, Value.str (Txt.item (PySem.Str.ofString "ab\"") (n3.fmod 3)) t3]) :: rest)) :
    ∃ cs : List Cl, CIs news [Value.str (Txt.item (PySem.Str.ofString "ab\"") (n0.fmod 3)) t0, Value.str (Txt.item (PySem.Str.ofString "ab\"") (n1.fmod 3)) t1, Value.str (Txt.item (PySem.Str.ofString "ab\"") (n2.fmod 3)) t2, Value.str (Txt.item (PySem.Str.ofString "ab\"") (n3.fmod 3)) t3] cs ∧ cs.length = 4 ∧ szs cs = 4 := by
  obtain ⟨k0, a0, b0⟩ := item_ci (news := news) n0 t0
  obtain ⟨k1, a1, b1⟩ := item_ci (news := news) n1 t1
  obtain ⟨k2, a2, b2⟩ := item_ci (news := news) n2 t2
  obtain ⟨k3, a3, b3⟩ := item_ci (news := news) n3 t3
  exact ⟨[.leaf k0, .leaf k1, .leaf k2, .leaf k3], .cons b0 a0 (.cons b1 a1 (.cons b2 a2 (.cons b3 a3 .nil))), rfl, rfl⟩
theorem pick6 {prog : Program} {w : World} {A : Around} {E : Value → Shared → Prop} {s : Shared} {h₀ : Heap} {L l : Addr} {news : List (Addr × Obj)} {value slice : PySem.Expr} {u t0 t1 t2 t3 t4 t5 : Tok} {n : Int} {Q : Value → Shared → Prop} (N : News h₀ L s.heap news)
    (hm : (l, W.listOf [Value.str (PySem.Str.ofString "&") t0, Value.str (PySem.Str.ofString "|") t1, Value.str (PySem.Str.ofString "<") t2, Value.str (PySem.Str.ofString "<=") t3, Value.str (PySem.Str.ofString ">") t4, Value.str (PySem.Str.ofString ">=") t5].toArray 0) ∈ news)
    (h : ∀ o t, o < 6 → Q (.str ⟨(opL o).toArray⟩ t) s)
    (hs : subscripted slice false (.ref l) (.int (n.fmod 6) u) = operate [.ref l, .int (n.fmod 6) u] (getItem (.ref l) (.int (n.fmod 6) u)) := by with_unfolding_all rfl) : wpAny (model prog w) A (subscriptTail value slice (.ref l) (.int (n.fmod 6) u)) Q E s := by
  have h0 : 0 ≤ n.fmod 6 := Int.fmod_nonneg_of_pos n (by omega)
  have h3 : n.fmod 6 < 6 := Int.fmod_lt_of_pos n (by omega)
  obtain ⟨k, hk⟩ := Int.eq_ofNat_of_zero_le h0
  rw [hk] at hs h3 ⊢
  have a0 : PySem.Str.ofString "&" = ⟨(opL 0).toArray⟩ := by decide +kernel
  have a1 : PySem.Str.ofString "|" = ⟨(opL 1).toArray⟩ := by decide +kernel
  have a2 : PySem.Str.ofString "<" = ⟨(opL 2).toArray⟩ := by decide +kernel
  have a3 : PySem.Str.ofString "<=" = ⟨(opL 3).toArray⟩ := by decide +kernel
  have a4 : PySem.Str.ofString ">" = ⟨(opL 4).toArray⟩ := by decide +kernel
  have a5 : PySem.Str.ofString ">=" = ⟨(opL 5).toArray⟩ := by decide +kernel
  rcases k with _ | _ | _ | _ | _ | _ | k
  · exact lst_itemN N hm rfl (by simp) (by rw [a0]; exact h 0 _ (by omega)) hs
  · exact lst_itemN N hm rfl (by simp) (by rw [a1]; exact h 1 _ (by omega)) hs
  · exact lst_itemN N hm rfl (by simp) (by rw [a2]; exact h 2 _ (by omega)) hs
  · exact lst_itemN N hm rfl (by simp) (by rw [a3]; exact h 3 _ (by omega)) hs
  · exact lst_itemN N hm rfl (by simp) (by rw [a4]; exact h 4 _ (by omega)) hs
  · exact lst_itemN N hm rfl (by simp) (by rw [a5]; exact h 5 _ (by omega)) hs
  · omega
theorem ln120 : True := by
  k_with "subscriptTail List cons BinOp ref int" => (k_here; k_dflt (refine' pick6 ?z119k1 ?z119k2 ?_ ?z119k3; (case z119k1 => k_asm); (case z119k2 => tb_start); (case z119k3 => with_unfolding_all rfl); k_whole; intro o9 t9 ho9))
  trivial
theorem ln121 : True := by
  k_with "newList" => (k_here; k_dflt (refine' newList_K ?z120k1 ?z120k2 ?_; (case z120k1 => k_asm); (case z120k2 => k_asm); k_whole); intro l' h' F' N' l1)
  trivial
theorem joined_end {h₀ h' : Heap} {L I x' T : Addr} {oI ob1 ob2 : Obj} {a b c d e : Addr × Obj} {news₁ : List (Addr × Obj)} {Jn : (Str → Option Value) → List (Addr × Obj) → Prop} {s₁ : Shared} {tk : Nat} {m₂ : Str → Option Value}
    (F : Fr h₀ L h' m₂) (N : News h₀ L h' ((x', ob1) :: a :: b :: c :: (T, ob2) :: d :: e :: (I, oI) :: news₁)) (l1x : ∀ p ∈ a :: b :: c :: (T, ob2) :: d :: e :: (I, oI) :: news₁, p.1 < x') (hTI : @Ne Nat T I) (hoffI : ∀ q ∈ news₁, q.1 ≠ I) (hJ : Jn m₂ ((x', ob1) :: (T, ob2) :: news₁)) :
    LoopStepU h₀ L [I] [(I, oI)] Jn s₁ .next { s₁ with heap := h', toks := tk } := by
  refine told_push F N (fun q hq => ?_) hTI (Ne.symm (Nat.ne_of_lt (l1x (I, oI) (by simp)))) hoffI hJ
  simp only [List.mem_cons] at hq ⊢
  rcases hq with h | h | h | h
  · exact .inr (.inr (.inr (.inr (.inr (.inr (.inr (.inl h)))))))
  · exact .inl h
  · exact .inr (.inr (.inr (.inr (.inl h))))
  · exact .inr (.inr (.inr (.inr (.inr (.inr (.inr (.inr h)))))))
theorem joined_ (w : World) {l : Addr} {ep : Nat} {news : List (Addr × Obj)} (n0 n1 n2 n3 n4 : Int) (t0 t1 t2 t3 t4 : Tok) (hm : (l, W.listOf [Value.int n0 t0, Value.int n1 t1, Value.int n2 t2, Value.int n3 t3, Value.int n4 t4].toArray ep) ∈ news) :
    ConU w 158 [.ref l] news 10 80 (fun big v => ∃ c : Cl, CI big v c ∧ c.ok ∧ c.size = 7) := by
  unfold ConU
  intro mean mg mb dp un gd cn cs a' ccd cl outer A₀ base h₀ L m s Q E B F X N T hk hd hu' hret
  w_on
  w_strict (
  refine wpAny_call ?_
  k_dflt ktr_enter
  repeat' ((fail_if_success (with_reducible show wpAny _ _ (exec (Stmt.For _ _ _ _ _) _) _ _ _)); first | (k_unfold; (try dsimp only)) | (k_end; kc_close) | walk1 | (dsimp only; walk1) | (leave1; walk_say "STEP leave1"; (try dsimp only)) | fail "no step")
  (with_reducible rename Fr _ _ _ _ => FF)
  refine For_invVF FF (by rfl) (by rfl) ?_
  repeat' ((fail_if_success (with_reducible show wpAny _ _ (pyIter _) _ _ _)); first | (k_unfold; (try dsimp only)) | (k_end; kc_close) | walk1 | (dsimp only; walk1) | (leave1; walk_say "STEP leave1"; (try dsimp only)) | fail "no step")
  (with_reducible rename Fr _ _ _ _ => FF2)
  (with_reducible rename News _ _ _ _ => NN)
  obtain ⟨cs0, hcs0, hcl0, hcz0⟩ := parts4 (news := _) n0 n1 n2 n3 (News.drop1 NN)
  refine iter_listJ (vs := [Value.int n0 t0, Value.int n1 t1, Value.int n2 t2]) (ep := 0) (by rfl) FF2 NN (JJ news _) ⟨_, _, 4, cs0, rfl, .tail _ (.head _), hcs0, hcl0, hcz0, .head _, ⟨fun _ h => .tail _ (.tail _ (.tail _ h))⟩⟩ ?hJl ?turn ?done
  case hJl =>
    intro i m nw hJ
    refine ex4 hJ ?_
    intro lp vs ep' cs' hX9
    refine an7 hX9 ?_
    intro e1 e2 e3 e4 e5 e6 e7
    clear hX9 hJ
    exact e6
  case turn =>
    intro i v m₁ news₁ I oI h₁ tk₁ hi hJ hoffI F₁ N₁
    refine ex4 hJ ?_
    intro lp vs ep' cs' hX9
    refine an7 hX9 ?_
    intro e1 e2 e3 e4 e5 e6 e7
    clear hX9 hJ
    have hv : ∃ n t, v = .int n t := by
      rcases i with _ | _ | _ | i
      · exact ⟨n0, t0, by simpa using hi.symm⟩
      · exact ⟨n1, t1, by simpa using hi.symm⟩
      · exact ⟨n2, t2, by simpa using hi.symm⟩
      · simp at hi
    have hi3 : i < 3 := (List.getElem?_eq_some_iff.mp hi).1
    obtain ⟨n, tn, rfl⟩ := hv
    first | refine canon1G e1 F₁ ?_ | refine canon1H e1 F₁ ?_
    clear e1 F₁
    intro rest F₁
    have hvl := e3.length
    have q2 := List.mem_cons_of_mem (I, oI) e2
    obtain ⟨p, hp, hpl⟩ : ∃ p : Nat, (n.fdiv 18).fmod ((vs.length : Int) - 1) = (p : Int) ∧ p + 1 < vs.length := by
      have h0 : 0 ≤ (n.fdiv 18).fmod ((vs.length : Int) - 1) := Int.fmod_nonneg_of_pos _ (by omega)
      have h1 : (n.fdiv 18).fmod ((vs.length : Int) - 1) < (vs.length : Int) - 1 := Int.fmod_lt_of_pos _ (by omega)
      obtain ⟨p, hp⟩ := Int.eq_ofNat_of_zero_le h0
      exact ⟨p, hp, by omega⟩
    obtain ⟨va, ca, g1, g2, g3, g4⟩ := e3.at (k := p) (by omega)
    obtain ⟨vb, cb, g5, g6, g7, g8⟩ := e3.at (k := p + 1) (by omega)
    repeat' ((fail_if_success (with_reducible show wpAny _ _ (binaryOp Operator.Mod (Value.int _ _) (Value.int _ _)) _ _ _)); first | (k_unfold; (try dsimp only)) | (k_end; kc_close) | walk1 | (dsimp only; walk1) | (leave1; walk_say "STEP leave1"; (try dsimp only)) | fail "no step")
    walk1
    repeat' ((fail_if_success (with_reducible show wpAny _ _ (binaryOp Operator.Mod (Value.int _ _) (Value.int _ _)) _ _ _)); first | (k_unfold; (try dsimp only)) | (k_end; kc_close) | walk1 | (dsimp only; walk1) | (leave1; walk_say "STEP leave1"; (try dsimp only)) | fail "no step")
    walk1
    rw [hp]
    repeat' ((fail_if_success (with_reducible show wpAny _ _ (binaryOp Operator.Add (Value.int _ _) (Value.int _ _)) _ _ _)); first | (k_unfold; (try dsimp only)) | (k_end; kc_close) | walk1 | (dsimp only; walk1) | (leave1; walk_say "STEP leave1"; (try dsimp only)) | fail "no step")
    walk1
    rw [cast1]
    repeat' ((fail_if_success (with_reducible show wpAny _ _ (binaryOp Operator.Add (Value.int _ _) (Value.int _ _)) _ _ _)); first | (k_unfold; (try dsimp only)) | (k_end; kc_close) | walk1 | (dsimp only; walk1) | (leave1; walk_say "STEP leave1"; (try dsimp only)) | fail "no step")
    walk1
    rw [cast2]
    k_steps
    (with_reducible rename (∀ p ∈ (_, W.listOf (List.toArray _) 0) :: _, p.1 < _) => l1x)
    (with_reducible rename (_ < 6) => ho6)
    have hup : ∀ {x y : Addr × Obj}, ∀ q ∈ news₁, q ∈ x :: y :: news₁ := fun q h => .tail _ (.tail _ h)
    (with_reducible rename Fr _ _ _ _ => FFe)
    (with_reducible rename News _ _ _ _ => NNe)
    refine joined_end FFe NNe l1x (by refine neN ?_; omega) hoffI ⟨_, _, 0, cs'.take p ++ [.node _ ca cb] ++ cs'.drop (p + 2), rfl, .head _, CIs.app (CIs.drop (e3.mono hup)) (CIs.app (.cons (CI.node (.tail _ (.head _)) (g3.mono hup) (g7.mono hup)) ⟨ho6, g4, g8⟩ .nil) (CIs.take (e3.mono hup))), ?hl, ?hz, hup _ e6, ⟨fun q h => hup _ (e7.h q h)⟩⟩
    case hl =>
      simp only [List.length_append, List.length_cons, List.length_nil, List.length_take, List.length_drop]; omega
    case hz =>
      have := szs_cut g2 g6
      simp only [szs_app, szs, Cl.size]; omega
  case done =>
    intro h' tk m' news' F' N' hJ
    refine ex4 hJ ?_
    intro lp vs ep' cs' hX9
    refine an7 hX9 ?_
    intro e1 e2 e3 e4 e5 e6 e7
    clear hX9 hJ
    have hl1 : cs'.length = 1 := by simp only [List.length_cons, List.length_nil] at e4; omega
    rcases e3 with _ | ⟨hc, ho, e3⟩
    · simp at hl1
    · rcases e3 with _ | _
      · first | refine canon1G e1 F' ?_ | refine canon1H e1 F' ?_
        clear e1 F'
        intro rest F'
        k_steps
        exact hret _ _ _ _ (by k_asm) (by k_asm) (fun p h => e7.h p h) ⟨_, hc, ho, by simpa [szs] using e5⟩
      · simp at hl1)
end
end Mine
end
section
open PySem PySem.W PySem.Spec PySem.Calls PyProof.Rows
set_option maxRecDepth 100000
set_option maxHeartbeats 1000000
namespace Mine
theorem laW16 : True := by
  k_with_none
  k_with "execs cons" => (k_here; first | k_gentoks | (with_reducible refine exq ?_; intro Q9 hQ9))
  k_with "k_unfold" => (with_reducible refine hQ9 _ _ ?_; clear hQ9)
  trivial
section
theorem ln123 : True := by
  k_with "tb_start" => first | with_reducible assumption | with_reducible exact List.mem_cons_self | (refine' List.mem_cons_of_mem _ ?_; tb_start) | ((with_reducible apply Sub.mem); (with_reducible assumption); tb_start)
  trivial
theorem ln124 : True := by
  k_with "k_all" => first | with_reducible assumption | exact fun p hp => Nat.ne_of_lt ((by with_reducible assumption : ∀ q ∈ _, q.1 < _) p hp) | exact allLt_to (by with_reducible assumption) | exact allLt_to (And.right (by with_reducible assumption))
  trivial
theorem ln125 : True := by
  k_with "eval Dict" => (k_here; (with_reducible refine qab ?_); intro Q9 hQ9; k_dflt (refine' displayE ?z124F ?z124N ?z124b ?z124a ?z124l ?z124e ?z124n ?_; (case z124F => k_asm); (case z124N => k_asm); (case z124b => exact Top.nolimit (by k_asm)); (case z124a => rfl); (case z124l => rfl); (case z124e => exact List.cons_ne_nil _ _); (case z124n => exact Nat.le_of_ble_eq_true rfl); k_whole); intro d' h' o' F' N' l1 lo' hd'; (try k_lt l1))
  trivial
theorem ln126 : True := by
  k_with "MadeE" => (k_here; k_dflt (refine' madeE ?z125F ?z125N ?z125U ?z125d ?z125k ?z125n ?_; (case z125F => k_asm); (case z125N => k_asm); (case z125U => k_updF); (case z125d => k_asm); (case z125k => rfl); (case z125n => exact of_decide_eq_true (by first | rfl | kernel_rfl!)); k_whole; intro h' o' F' N' hd'); (try dsimp only at N'))
  trivial
noncomputable def spD (hand : Nat) : List (Nat × List Nat) := match hand with
  | 0 => [(60, [38,108,116,59]), (62, [38,103,116,59]), (38, [38,97,109,112,59])]
  | 1 => [(60, [38,108,116,59]), (62, [38,103,116,59]), (9, [38,35,48,57,59]), (10, [38,35,49,48,59]), (13, [38,35,49,51,59]), (34, [38,113,117,111,116,59]), (38, [38,97,109,112,59])]
  | 2 => [(62, [38,103,116,59]), (34, [38,113,117,111,116,59]), (38, [38,97,109,112,59])]
  | 3 => [(60, [38,108,116,59]), (62, [38,103,116,59]), (13, [38,35,120,68,59]), (38, [38,97,109,112,59])]
  | _ => [(60, [38,108,116,59]), (9, [38,35,120,57,59]), (10, [38,35,120,65,59]), (13, [38,35,120,68,59]), (34, [38,113,117,111,116,59]), (38, [38,97,109,112,59])]
inductive KvsOk : List (Value × Value) → List (Nat × List Nat) → Prop
  | nil : KvsOk [] []
  | cons {c : Nat} {z : List Nat} {x y : Str} {t u : Tok} {r : List (Value × Value)} {ps : List (Nat × List Nat)} : x = ⟨[c].toArray⟩ → y = ⟨z.toArray⟩ → t ≠ 0 → u ≠ 0 → t ≠ u → KvsOk r ps → KvsOk ((.str x t, .str y u) :: r) ((c, z) :: ps)
noncomputable def DictAt (w : World) (hand : Nat) (big : List (Addr × Obj)) (v : Value) : Prop :=
  ∃ (d : Addr) (o : Obj) (kvs : List (Value × Value)), v = .ref d ∧ (d == sysModules) = false ∧ (d, o) ∈ big ∧ HasE o (entsOf PySem.Challenge.rw_tp0054_01.row.prog w kvs) ∧ KvsOk kvs (spD hand)
theorem tokN {u : Nat} {t : Tok} (h : t = u) (hu : u ≠ 0) : t ≠ 0 := h ▸ hu
theorem ln127 : True := by
  k_with "ktr_rel" => first | exact KvsOk.nil | (refine KvsOk.cons (by decide +kernel) (by decide +kernel) (Nat.succ_ne_zero _) (Nat.succ_ne_zero _) (Nat.ne_of_lt (Nat.lt_succ_self _)) ?_; ktr_rel)
  trivial
theorem ln128 : True := by
  k_with "newList" => (k_here; k_dflt (refine' newList_K ?z127k1 ?z127k2 ?_; (case z127k1 => k_asm); (case z127k2 => k_asm); k_whole); intro l' h' F' N' l1)
  trivial
theorem ln129 : True := by
  k_with "subscriptTail List cons Name ref int" => (k_here; k_dflt (refine' lst_item ?z128k1 ?z128k2 ?z128k3 ?z128k4 ?z128k5 ?_ ?z128k6; (case z128k1 => k_asm); (case z128k2 => tb_start); (case z128k3 => decide); (case z128k4 => decide); (case z128k5 => exact rfl); (case z128k6 => with_unfolding_all rfl); k_whole))
  trivial
theorem ln130 : True := by
  k_with "execs cons" => (k_here; with_reducible refine exq ?_; intro Q9 hQ9)
  trivial
theorem sub5D {prog : Program} {w w' : World} {A : Around} {E : Value → Shared → Prop} {s : Shared} {h₀ : Heap} {L l : Addr} {news : List (Addr × Obj)} {value slice : PySem.Expr} {v0 v1 v2 v3 v4 : Value} {n hand : Nat} {u : Tok} {Q : Value → Shared → Prop}
    (N : News h₀ L s.heap news) (hm : (l, W.listOf [v0, v1, v2, v3, v4].toArray n) ∈ news) (hh : hand < 5) (h0 : DictAt w' 0 news v0) (h1 : DictAt w' 1 news v1) (h2 : DictAt w' 2 news v2) (h3 : DictAt w' 3 news v3) (h4 : DictAt w' 4 news v4)
    (h : ∀ v, DictAt w' hand news v → Q v s)
    (hs : subscripted slice false (.ref l) (.int hand u) = operate [.ref l, .int hand u] (getItem (.ref l) (.int hand u))) : wpAny (model prog w) A (subscriptTail value slice (.ref l) (.int hand u)) Q E s := by
  have k : ∃ v, ([v0, v1, v2, v3, v4] : List Value)[hand]? = some v ∧ DictAt w' hand news v := by
    rcases hand with _ | _ | _ | _ | _ | hand
    · exact ⟨_, rfl, h0⟩
    · exact ⟨_, rfl, h1⟩
    · exact ⟨_, rfl, h2⟩
    · exact ⟨_, rfl, h3⟩
    · exact ⟨_, rfl, h4⟩
    · omega
  obtain ⟨v, e, d⟩ := k
  exact lst_itemN N hm e (by simp only [List.length_cons, List.length_nil]; omega) (h v d) hs
theorem spelled_ (w : World) {news : List (Addr × Obj)} (hand : Nat) (hh : hand < 5) (th : Tok) : ConU w 146 [.int hand th] news 10 80 (DictAt w hand) := by
  unfold ConU
  intro mean mg mb dp un gd cn cs a' ccd cl outer A₀ base h₀ L m s Q E B F X N T hk hd hu' hret
  w_on
  w_strict (
  refine wpAny_call ?_
  k_dflt (refine' code_def ?k1 ?k2 ?k3 ?k4 ?k5 ?kA ?kF ?kK ?k6 ?k7 ?k8 ?k9 ?kB ?_ ?c2 ?c3 ?c4 ?c5; (case kA => exact rfl); (case kF => exact rfl); (case kK => assumption); (case k1 => k_asm); (case k2 => k_asm); (case k3 => k_asm); (case k4 => k_asm); (case k5 => k_asm); (case k6 => k_is); (case k7 => k_is); (case k8 => ktr_room); (case k9 => exact BindsTo.of_eq rfl); (case c5 => decide); (case kB => exact locs rfl); (case c2 => exact rfl); (case c3 => exact rfl); (case c4 => exact rfl); k_whole; intro g' L' h' FG' F' N' B' X' T')
  try dsimp only [List.length_cons, List.length_nil]
  repeat' ((fail_if_success (with_reducible show wpAny _ _ (subscriptTail _ _ _ _) _ _ _)); first | (k_unfold; (try dsimp only)) | (k_end; kc_close) | walk1 | (dsimp only; walk1) | (leave1; walk_say "STEP leave1"; (try dsimp only)) | fail "no step")
  k_dflt (refine' sub5D (w' := w) ?ma ?mb hh ?d0 ?d1 ?d2 ?d3 ?d4 ?_ ?mh)
  case ma => k_asm
  case mb => tb_start
  case d0 => exact ⟨_, _, _, rfl, by with_reducible assumption, by tb_start, by with_reducible assumption, by ktr_rel⟩
  case d1 => exact ⟨_, _, _, rfl, by with_reducible assumption, by tb_start, by with_reducible assumption, by ktr_rel⟩
  case d2 => exact ⟨_, _, _, rfl, by with_reducible assumption, by tb_start, by with_reducible assumption, by ktr_rel⟩
  case d3 => exact ⟨_, _, _, rfl, by with_reducible assumption, by tb_start, by with_reducible assumption, by ktr_rel⟩
  case d4 => exact ⟨_, _, _, rfl, by with_reducible assumption, by tb_start, by with_reducible assumption, by ktr_rel⟩
  case mh => with_unfolding_all rfl
  intro v9 hD9
  k_steps
  refine' hret _ _ _ _ ?h1 ?h2 ?h3 hD9
  case h1 => k_asm
  case h2 => k_asm
  case h3 => exact (fun _ _ => by tb_start))
end
end Mine
end
section
open PySem PySem.W PySem.Spec PySem.Calls PyProof.Rows
set_option maxRecDepth 100000
set_option maxHeartbeats 1000000
namespace Mine
theorem lzP06 : True := by
  k_with_none
  trivial
/-- one text put for another, wherever it stands -/
noncomputable def rep (y z : List Nat) : List Nat → Nat → List Nat
  | [], _ => []
  | _ :: r, s + 1 => rep y z r s
  | k :: r, 0 => if (k :: r).take y.length = y then z ++ rep y z r (y.length - 1) else k :: rep y z r 0
noncomputable def occF (X y : List Nat) : List Nat → Nat → List Nat
  | [], _ => []
  | i :: l, f => if f ≤ i ∧ i + y.length ≤ X.length ∧ (X.drop i).take y.length = y then i :: occF X y l (i + y.length) else occF X y l f
theorem strL_len (x : List Nat) : (strL x).length = x.length := by simp [strL, Str.length]
theorem occ_is (X Y : List Nat) (limit : Nat) : ∀ (l : List Nat) (st : Array Nat × Nat), st.fst.size + l.length ≤ limit →
    (forIn l st (StrLaws.occBody (strL X) (strL Y) X.length limit)).run.fst.toList = st.fst.toList ++ occF X Y l st.snd
  | [], st, _ => by simp [occF]
  | i :: l, st, h => by
    simp only [List.length_cons] at h
    simp only [occF]
    rw [List.forIn_cons]
    by_cases hc : st.snd ≤ i ∧ i + Y.length ≤ X.length ∧ (X.drop i).take Y.length = Y
    · have e : StrLaws.occBody (strL X) (strL Y) X.length limit i st = pure (ForInStep.yield (st.fst.push i, i + Y.length)) := by
        unfold StrLaws.occBody
        rw [StrLaws.subAt_eq, strL_len, if_pos ⟨⟨⟨by omega, hc.1⟩, hc.2.1⟩, by simpa [strL] using hc.2.2⟩]
      rw [if_pos hc, e]
      have ih := occ_is X Y limit l (st.fst.push i, i + Y.length) (by simp; omega)
      refine Eq.trans ih ?_
      simp
    · have e : StrLaws.occBody (strL X) (strL Y) X.length limit i st = pure (ForInStep.yield st) := by
        unfold StrLaws.occBody
        rw [StrLaws.subAt_eq, strL_len, if_neg (fun hh => hc ⟨hh.1.1.2, hh.1.2, by simpa [strL] using hh.2⟩)]
      rw [if_neg hc, e]
      exact occ_is X Y limit l st (by omega)
theorem join_cons (z p : Str) : ∀ (ps : List Str), ps ≠ [] → (Str.join z (p :: ps)).cps.toList = p.cps.toList ++ z.cps.toList ++ (Str.join z ps).cps.toList
  | [], h => absurd rfl h
  | q :: r, _ => by
    show (p ++ z ++ Str.join z (q :: r)).cps.toList = _
    simp only [Str.cps_append, Array.toList_append]
theorem sub_L (X : List Nat) (a b : Nat) : (Builtin.Str.strSub (strL X) a b).cps.toList = (X.drop a).take (b - a) := StrLaws.strSub_toList (strL X) a b
theorem rep_parts (X Y Z : List Nat) (hy : 1 ≤ Y.length) : ∀ n i a f, i + n = X.length + 1 → ((a ≤ i ∧ f ≤ i) ∨ a = f) →
    (Str.join (strL Z) (StrLaws.partsFrom (strL X) Y.length a (occF X Y (List.range' i n) f))).cps.toList = (X.drop a).take (i - a) ++ rep Y Z (X.drop i) (f - i)
  | 0, i, a, f, hi, _ => by
    show (Builtin.Str.strSub (strL X) a (strL X).length).cps.toList = _
    rw [sub_L, strL_len, List.drop_of_length_le (l := X) (i := i) (by omega)]
    simp only [rep, List.append_nil]
    rw [List.take_of_length_le (by rw [List.length_drop]; omega), List.take_of_length_le (by rw [List.length_drop]; omega)]
  | n + 1, i, a, f, hi, hc => by
    rw [List.range'_succ]
    simp only [occF]
    by_cases hm : f ≤ i ∧ i + Y.length ≤ X.length ∧ (X.drop i).take Y.length = Y
    · rw [if_pos hm]
      have ih := rep_parts X Y Z hy n (i + 1) (i + Y.length) (i + Y.length) (by omega) (.inr rfl)
      show (Str.join (strL Z) (Builtin.Str.strSub (strL X) a i :: StrLaws.partsFrom (strL X) Y.length (i + Y.length) _)).cps.toList = _
      rw [join_cons _ _ _ (by obtain ⟨p, r, e⟩ := StrLaws.partsFrom_ne (strL X) Y.length (i + Y.length) (occF X Y (List.range' (i + 1) n) (i + Y.length)); rw [e]; simp), ih, sub_L]
      have hlt : i < X.length := by omega
      have e0 : f - i = 0 := by omega
      have e1 : i + 1 - (i + Y.length) = 0 := by omega
      have e2 : i + Y.length - (i + 1) = Y.length - 1 := by omega
      have e3 : X.drop i = X[i] :: X.drop (i + 1) := List.drop_eq_getElem_cons hlt
      have hm3 := hm.2.2
      rw [e0, e1, e2, e3]
      rw [e3] at hm3
      simp only [rep, if_pos hm3]
      simp [strL]
    · rw [if_neg hm]
      have ih := rep_parts X Y Z hy n (i + 1) a f (by omega) (by rcases hc with h | h; exact .inl ⟨by omega, by omega⟩; exact .inr h)
      rw [ih]
      by_cases hlt : i < X.length
      · have e3 : X.drop i = X[i] :: X.drop (i + 1) := List.drop_eq_getElem_cons hlt
        by_cases hf : f ≤ i
        · have ha : a ≤ i := by omega
          have e0 : f - i = 0 := by omega
          have e1 : f - (i + 1) = 0 := by omega
          have hn : ¬ (X[i] :: X.drop (i + 1)).take Y.length = Y := fun h => hm ⟨hf, by
            have := congrArg List.length h
            rw [← e3, List.length_take, List.length_drop] at this
            omega, by rw [e3]; exact h⟩
          rw [e0, e1, e3]
          simp only [rep, if_neg hn]
          have e4 : i + 1 - a = (i - a) + 1 := by omega
          have e5 : (X.drop a)[i - a]? = some X[i] := by rw [List.getElem?_drop, show a + (i - a) = i by omega]; simp [hlt]
          rw [e4, List.take_add_one, e5]
          simp
        · have ha : a = f := by omega
          have e0 : f - i = (f - (i + 1)) + 1 := by omega
          have e1 : i - a = 0 := by omega
          have e2 : i + 1 - a = 0 := by omega
          rw [e3, e0, e1, e2]
          simp only [rep, List.take_zero]
      · have e3 : X.drop i = [] := List.drop_of_length_le (by omega)
        have e4 : X.drop (i + 1) = [] := List.drop_of_length_le (by omega)
        rw [e3, e4]
        simp only [rep, List.append_nil]
        rw [List.take_of_length_le (by rw [List.length_drop]; omega), List.take_of_length_le (by rw [List.length_drop]; omega)]
theorem replace_rep (X Y Z : List Nat) (hy : 1 ≤ Y.length) : Txt.replace (strL X) (strL Y) (strL Z) = strL (rep Y Z X 0) := by
  have h0 := occ_is X Y (X.length + 1) (List.range' 0 (X.length + 1)) (#[], 0) (by simp)
  have e : Builtin.Str.occurrences (strL X) (strL Y) 0 X.length (X.length + 1) = occF X Y (List.range' 0 (X.length + 1)) 0 := by
    rw [StrLaws.occ_eq]
    refine Eq.trans ?_ (h0.trans ?_)
    · rfl
    · simp
  have P := rep_parts X Y Z hy (X.length + 1) 0 0 0 (by omega) (.inr rfl)
  have hz : (Y.length == 0) = false := beq_eq_false_iff_ne.mpr (by omega)
  have fin : ∀ {s : Str}, s.cps.toList = rep Y Z X 0 → s = strL (rep Y Z X 0) := fun h => by rw [← h]; simp [strL]
  refine fin ?_
  unfold Txt.replace
  rw [strL_len, strL_len, e, hz]
  simp only [Bool.false_and, Bool.or_false]
  split
  · rename_i hemp
    have : occF X Y (List.range' 0 (X.length + 1)) 0 = [] := by simpa using hemp
    rw [this] at P
    rw [← List.drop_zero (l := X)]
    refine Eq.trans ?_ (P.trans ?_)
    · show _ = (Builtin.Str.strSub (strL X) 0 (strL X).length).cps.toList
      rw [StrLaws.sub_whole]; simp [strL]
    · simp
  · rw [StrLaws.glued_eq_join, StrLaws.partsBetween_eq, P]
    simp
/-- the first signs of a text part from those of another -/
noncomputable def parts2 : List Nat → List Nat → Bool
  | a :: x, b :: y => a != b || parts2 x y
  | _, _ => false
theorem parts_take : ∀ (z y r : List Nat), parts2 z y = true → ¬ (z ++ r).take y.length = y
  | [], _, _, h => by simp [parts2] at h
  | _ :: _, [], _, h => by simp [parts2] at h
  | a :: z, b :: y, r, h => by
    simp only [parts2, Bool.or_eq_true, bne_iff_ne] at h
    simp only [List.cons_append, List.length_cons, List.take_succ_cons, List.cons.injEq, not_and]
    intro e
    rcases h with h | h
    · exact absurd e h
    · exact parts_take z y r h
theorem rep_skip (y z : List Nat) : ∀ (u r : List Nat), rep y z (u ++ r) u.length = rep y z r 0
  | [], _ => rfl
  | _ :: u, r => rep_skip y z u r
theorem rep_hit (y z r : List Nat) (hy : 1 ≤ y.length) : rep y z (y ++ r) 0 = z ++ rep y z r 0 := by
  cases y with
  | nil => simp at hy
  | cons k y =>
    simp only [List.cons_append, rep]
    rw [if_pos (by simp)]
    congr 1
    exact rep_skip (k :: y) z y r
theorem rep_pass (y z : List Nat) (k0 : Nat) (hy : y.head? = some k0) : ∀ (u r : List Nat), k0 ∉ u → rep y z (u ++ r) 0 = u ++ rep y z r 0
  | [], _, _ => rfl
  | a :: u, r, h => by
    simp only [List.mem_cons, not_or] at h
    have hn : ¬ (a :: (u ++ r)).take y.length = y := by
      cases y with
      | nil => simp at hy
      | cons b y =>
        simp only [List.head?_cons, Option.some.injEq] at hy
        subst hy
        simp only [List.length_cons, List.take_succ_cons, List.cons.injEq, not_and]
        exact fun e => absurd e.symm h.1
    simp only [List.cons_append, rep, if_neg hn, rep_pass y z k0 hy u r h.2]
theorem rep_other (y z : List Nat) (k0 : Nat) (hy : y.head? = some k0) (u r : List Nat) (hu : k0 ∉ u.tail) (hp : parts2 u y = true) : rep y z (u ++ r) 0 = u ++ rep y z r 0 := by
  cases u with
  | nil => simp [parts2] at hp
  | cons a u =>
    have hn := parts_take (a :: u) y r hp
    simp only [List.cons_append] at hn ⊢
    simp only [rep, if_neg hn]
    rw [rep_pass y z k0 hy u r hu]
/-- a page of which some codes are put back -/
noncomputable def stageL (ps : List (Nat × List Nat)) (done : List Nat) (k : Nat) : List Nat := if k ∈ done then [k] else lookS ps k
noncomputable def codeOk (ps : List (Nat × List Nat)) : Bool := ps.all fun p => p.2.head? == some 38 && !(p.2.tail.contains 38) && ps.all fun q => q.1 == p.1 || parts2 q.2 p.2
theorem look_cases : ∀ (ps : List (Nat × List Nat)) (k : Nat), (k, lookS ps k) ∈ ps ∨ (lookS ps k = [k] ∧ k ∉ ps.map (·.1))
  | [], k => .inr ⟨rfl, by simp⟩
  | p :: r, k => by
    simp only [lookS]
    by_cases h : k = p.1
    · rw [if_pos h]; exact .inl (by rw [h]; exact .head _)
    · rw [if_neg h]
      rcases look_cases r k with h1 | ⟨h1, h2⟩
      · exact .inl (.tail _ h1)
      · exact .inr ⟨h1, by simp only [List.map_cons, List.mem_cons, not_or]; exact ⟨h, h2⟩⟩
theorem stage_step (ps : List (Nat × List Nat)) (hok : codeOk ps = true) (h38 : 38 ∈ ps.map (·.1)) (done : List Nat) (hd : 38 ∉ done) (c : Nat) (z : List Nat) (hc : lookS ps c = z) (hm : (c, z) ∈ ps) (hcd : c ∉ done) :
    ∀ X : List Nat, rep z [c] (X.flatMap (stageL ps done)) 0 = X.flatMap (stageL ps (done ++ [c]))
  | [] => rfl
  | k :: X => by
    have ih := stage_step ps hok h38 done hd c z hc hm hcd X
    have hz := List.all_eq_true.mp hok _ hm
    simp only [Bool.and_eq_true, beq_iff_eq, Bool.not_eq_true', List.contains_eq_mem, decide_eq_false_iff_not] at hz
    have hz1 : 1 ≤ z.length := by cases z with
      | nil => simp at hz
      | cons _ _ => simp
    rw [List.flatMap_cons, List.flatMap_cons]
    by_cases hk : k ∈ done
    · have e1 : stageL ps done k = [k] := if_pos hk
      have e2 : stageL ps (done ++ [c]) k = [k] := if_pos (List.mem_append_left _ hk)
      have hk38 : 38 ∉ [k] := by simp only [List.mem_singleton]; exact fun e => hd (e ▸ hk)
      rw [e1, e2, rep_pass z [c] 38 hz.1.1 [k] _ hk38, ih]
    · have e1 : stageL ps done k = lookS ps k := if_neg hk
      by_cases hkc : k = c
      · subst hkc
        have e2 : stageL ps (done ++ [k]) k = [k] := if_pos (by simp)
        rw [e1, e2, hc, rep_hit z [k] _ hz1, ih]
      · have e2 : stageL ps (done ++ [c]) k = lookS ps k := if_neg (by simp [hk, hkc])
        rw [e1, e2]
        rcases look_cases ps k with h | ⟨h, h'⟩
        · have hq := List.all_eq_true.mp hok _ h
          have hp := List.all_eq_true.mp hz.2 _ h
          simp only [Bool.and_eq_true, beq_iff_eq, Bool.not_eq_true', List.contains_eq_mem, decide_eq_false_iff_not] at hq
          simp only [Bool.or_eq_true, beq_iff_eq, hkc, false_or] at hp
          rw [rep_other z [c] 38 hz.1.1 _ _ hq.1.2 hp, ih]
        · rw [h]
          have hk38 : 38 ∉ [k] := by simp only [List.mem_singleton]; exact fun e => h' (e ▸ h38)
          rw [rep_pass z [c] 38 hz.1.1 [k] _ hk38, ih]
noncomputable def backL (ds : List (Nat × List Nat)) (x : List Nat) : List Nat := ds.foldl (fun x p => rep p.2 [p.1] x 0) x
noncomputable def backOk (ps : List (Nat × List Nat)) : List Nat → List (Nat × List Nat) → Bool
  | _, [] => true
  | done, p :: r => lookS ps p.1 == p.2 && ps.contains p && !(done.contains 38) && !(done.contains p.1) && backOk ps (done ++ [p.1]) r
theorem back_all (ps : List (Nat × List Nat)) (hok : codeOk ps = true) (h38 : 38 ∈ ps.map (·.1)) (X : List Nat) : ∀ (ds : List (Nat × List Nat)) (done : List Nat), backOk ps done ds = true → backL ds (X.flatMap (stageL ps done)) = X.flatMap (stageL ps (done ++ ds.map (·.1)))
  | [], done, _ => by simp [backL]
  | p :: r, done, h => by
    simp only [backOk, Bool.and_eq_true, beq_iff_eq, Bool.not_eq_true', List.contains_eq_mem, decide_eq_false_iff_not, decide_eq_true_eq] at h
    show backL r (rep p.2 [p.1] _ 0) = _
    rw [stage_step ps hok h38 done h.1.1.2 p.1 p.2 h.1.1.1.1 h.1.1.1.2 h.1.2 X, back_all ps hok h38 X r _ h.2]
    simp
theorem rep_len (y : List Nat) (c : Nat) (hy : 1 ≤ y.length) : ∀ (x : List Nat) (s : Nat), (rep y [c] x s).length ≤ x.length
  | [], _ => by simp [rep]
  | _ :: r, s + 1 => by
    have := rep_len y c hy r s
    simp only [rep, List.length_cons]; omega
  | k :: r, 0 => by
    simp only [rep]
    split
    · have := rep_len y c hy r (y.length - 1)
      simp only [List.length_append, List.length_cons, List.length_nil]; omega
    · have := rep_len y c hy r 0
      simp only [List.length_cons]; omega
theorem backL_len : ∀ (ds : List (Nat × List Nat)) (x : List Nat), (ds.all fun p => decide (1 ≤ p.2.length)) = true → (backL ds x).length ≤ x.length
  | [], _, _ => Nat.le_refl _
  | p :: r, x, h => by
    simp only [List.all_cons, Bool.and_eq_true, decide_eq_true_eq] at h
    exact Nat.le_trans (backL_len r _ h.2) (rep_len p.2 p.1 h.1 x 0)
theorem backL_snoc (ds : List (Nat × List Nat)) (p : Nat × List Nat) (x : List Nat) : backL (ds ++ [p]) x = rep p.2 [p.1] (backL ds x) 0 := by simp [backL]
/-- what the escapes put, put back, is the page -/
theorem back_page (hand : Nat) (X : List Nat) : backL (spD hand) (multi (spP hand) X) = X := by
  have main : ∀ (ps ds : List (Nat × List Nat)), goodS ps = true → codeOk ps = true → 38 ∈ ps.map (·.1) → backOk ps [] ds = true → (ps.all fun p => (ds.map (·.1)).contains p.1) = true → backL ds (multi ps X) = X := by
    intro ps ds h1 h2 h3 h4 h5
    rw [multi_flat ps h1]
    have e : X.flatMap (lookS ps) = X.flatMap (stageL ps []) := by
      congr 1
    rw [e, back_all ps h2 h3 X ds [] h4]
    have e2 : stageL ps ([] ++ ds.map (·.1)) = fun k => [k] := by
      funext k
      unfold stageL
      split
      · rfl
      · rename_i hk
        rcases look_cases ps k with h | ⟨h, _⟩
        · have := List.all_eq_true.mp h5 _ h
          simp only [List.contains_eq_mem, decide_eq_true_eq] at this
          exact absurd this hk
        · exact h
    rw [e2]
    simp
  rcases hand with _ | _ | _ | _ | hand
  rotate_left 4
  · change backL (spD 4) (multi (spP 4) X) = X
    exact main _ _ (by decide +kernel) (by decide +kernel) (by decide +kernel) (by decide +kernel) (by decide +kernel)
  all_goals exact main _ _ (by decide +kernel) (by decide +kernel) (by decide +kernel) (by decide +kernel) (by decide +kernel)
theorem spD_pos (hand : Nat) : ((spD hand).all fun p => decide (1 ≤ p.2.length)) = true := by
  rcases hand with _ | _ | _ | _ | hand
  rotate_left 4
  · change ((spD 4).all fun p => decide (1 ≤ p.2.length)) = true
    decide +kernel
  all_goals decide +kernel
theorem spP_good (hand : Nat) : goodS (spP hand) = true := by
  rcases hand with _ | _ | _ | _ | hand
  rotate_left 4
  · change goodS (spP 4) = true
    decide +kernel
  all_goals decide +kernel
end Mine
end
section
open PySem PySem.W PySem.Spec PySem.Calls PyProof.Rows
set_option maxRecDepth 100000
set_option maxHeartbeats 1000000
namespace Mine
theorem laW17 : True := by
  k_with_none
  k_with "execs cons" => (k_here; first | k_gentoks | (with_reducible refine exq ?_; intro Q9 hQ9))
  k_with "k_unfold" => (with_reducible refine hQ9 _ _ ?_; clear hQ9)
  trivial
section
theorem ln132 : True := by
  k_with "tb_start" => first | with_reducible assumption | with_reducible exact List.mem_cons_self | (refine' List.mem_cons_of_mem _ ?_; tb_start) | ((with_reducible apply Sub.mem); (with_reducible assumption); tb_start)
  trivial
theorem ln133 : True := by
  k_with "k_all" => first | with_reducible assumption | exact fun p hp => Nat.ne_of_lt ((by with_reducible assumption : ∀ q ∈ _, q.1 < _) p hp) | exact allLt_to (by with_reducible assumption) | exact allLt_to (And.right (by with_reducible assumption))
  trivial
theorem kvs_str {kvs : List (Value × Value)} {ps : List (Nat × List Nat)} (h : KvsOk kvs ps) : allStrKeys kvs = true := by
  induction h with
  | nil => rfl
  | cons _ _ _ _ _ _ ih => exact ih
theorem kvs_keys : ∀ {kvs : List (Value × Value)} {ps : List (Nat × List Nat)}, KvsOk kvs ps → (strPairs kvs).map (·.1) = ps.map fun p => strL [p.1]
  | _, _, .nil => rfl
  | _, _, .cons h _ _ _ _ r => by
    simp only [strPairs, List.map_cons, kvs_keys r, h]; rfl
theorem kvs_len : ∀ {kvs : List (Value × Value)} {ps : List (Nat × List Nat)}, KvsOk kvs ps → kvs.length = ps.length
  | _, _, .nil => rfl
  | _, _, .cons _ _ _ _ _ r => by simp only [List.length_cons, kvs_len r]
theorem kvs_at : ∀ {kvs : List (Value × Value)} {ps : List (Nat × List Nat)} {i : Nat} {p : Value × Value}, KvsOk kvs ps → kvs[i]? = some p → ∃ c z t u, p = (.str (strL [c]) t, .str (strL z) u) ∧ ps[i]? = some (c, z) ∧ t ≠ 0 ∧ u ≠ 0 ∧ t ≠ u
  | _, _, _, _, .nil, h => by simp at h
  | _, _, 0, _, .cons h1 h2 h3 h4 h5 r, h => by
    simp only [List.getElem?_cons_zero, Option.some.injEq] at h
    subst h1 h2
    exact ⟨_, _, _, _, h.symm, rfl, h3, h4, h5⟩
  | _, _, i + 1, _, .cons h1 h2 h3 h4 h5 r, h => by
    simp only [List.getElem?_cons_succ] at h ⊢
    exact kvs_at r h
theorem spD_nodup (hand : Nat) : ((spD hand).map fun p => strL [p.1]).Nodup := by
  rcases hand with _ | _ | _ | _ | hand
  rotate_left 4
  · change ((spD 4).map fun p => strL [p.1]).Nodup
    decide +kernel
  all_goals decide +kernel
theorem spD_lens (hand : Nat) : ((spD hand).all fun p => decide (4 ≤ p.2.length)) = true := by
  rcases hand with _ | _ | _ | _ | hand
  rotate_left 4
  · change ((spD 4).all fun p => decide (4 ≤ p.2.length)) = true
    decide +kernel
  all_goals decide +kernel
theorem strL_ne {a b : List Nat} (h : a.length ≠ b.length) : (strL a == strL b) = false := by
  refine beq_eq_false_iff_ne.mpr fun e => h ?_
  have := congrArg (fun s : Str => s.cps.toList.length) e
  simpa [strL] using this
noncomputable def JK (hand : Nat) (X : List Nat) (nw0 : List (Addr × Obj)) (i : Nat) (m₁ : Str → Option Value) (news₁ : List (Addr × Obj)) : Prop :=
  ∃ tt : Tok, m₁ (PySem.Str.ofString "text") = some (.str (strL (backL ((spD hand).take i) X)) tt) ∧ news₁ = nw0
theorem back_ (w : World) {v : Value} {news : List (Addr × Obj)} (hand : Nat) (X : List Nat) (t : Tok) (hX : X.length ≤ 10000) (hv : DictAt w hand news v) :
    ConU w 153 [.str ⟨(multi (spP hand) X).toArray⟩ t, v] news 10 80 (fun _ r => ∃ t', r = .str ⟨X.toArray⟩ t') := by
  obtain ⟨d, od, kvs, rfl, hlo, hm, ⟨hc, ep, hdat⟩, hK⟩ := hv
  have hds := ents_dict (prog := PySem.Challenge.rw_tp0054_01.row.prog) (w := w) ⟨hc, ep, hdat⟩ (kvs_str hK) (by rw [kvs_keys hK]; exact spD_nodup hand)
  unfold ConU
  intro mean mg mb dp un gd cn cs a' ccd cl outer A₀ base h₀ L m s Q E B F X' N T hk hd hu' hret
  w_on
  w_strict (
  refine wpAny_call ?_
  k_dflt ktr_enter
  repeat' ((fail_if_success (with_reducible show wpAny _ _ (exec (Stmt.For _ _ _ _ _) _) _ _ _)); first | (k_unfold; (try dsimp only)) | (k_end; kc_close) | walk1 | (dsimp only; walk1) | (leave1; walk_say "STEP leave1"; (try dsimp only)) | fail "no step")
  (with_reducible rename Fr _ _ _ _ => FF)
  refine For_turns FF ?_
  repeat' ((fail_if_success (with_reducible show wpAny _ _ (getMethod _ _ _) _ _ _)); first | (k_unfold; (try dsimp only)) | (k_end; kc_close) | walk1 | (dsimp only; walk1) | (leave1; walk_say "STEP leave1"; (try dsimp only)) | fail "no step")
  (with_reducible rename Fr _ _ _ _ => F1)
  (with_reducible rename News _ _ _ _ => N1)
  refine kob_method PySem.F.slot_dict_items PySem.F.type_dict_items N1 hm hds ?_
  refine callWith_method0 ?_
  refine kta_callItems F1 N1 hm hds hlo ?_
  intro h2 hvw F2 N2
  refine iter_itemsE (od := od) (vs := kvs) (ep := ep) (by rfl) (by rfl) (by rfl) (by rfl) F2 N2 hvw hc hdat (kvs_str hK) (by rw [kvs_keys hK]; exact spD_nodup hand) (JK hand (multi (spP hand) X) news) ⟨_, rfl, rfl⟩ (fun i m nw hJ => by obtain ⟨_, _, rfl⟩ := hJ; exact hm) ?turn ?done
  case turn =>
    intro i p m₁ news₁ I oI h₁ tk₁ hi hJ hoffI FT NT
    obtain ⟨tt, e1, rfl⟩ := hJ
    obtain ⟨c, z, t1, u1, rfl, hps, ht1, hu1, htu⟩ := kvs_at hK hi
    first | refine canon1G e1 FT ?_ | refine canon1H e1 FT ?_ | refine canon1I e1 FT ?_
    clear e1 FT
    intro rest FT
    repeat' ((fail_if_success (with_reducible show wpAny _ _ (call (Value.builtin "str.replace") _) _ _ _)); first | (k_unfold; (try dsimp only)) | (k_end; kc_close) | walk1 | (dsimp only; walk1) | (leave1; walk_say "STEP leave1"; (try dsimp only)) | fail "no step")
    have hmem : (c, z) ∈ spD hand := List.mem_of_getElem? hps
    have hz4 := List.all_eq_true.mp (spD_lens hand) _ hmem
    simp only [decide_eq_true_eq] at hz4
    have hl1 := backL_len ((spD hand).take i) (multi (spP hand) X) (List.all_eq_true.mpr fun p hp => List.all_eq_true.mp (spD_pos hand) p (List.mem_of_mem_take hp))
    have hl2 := multi_len (spP hand) (spP_good hand) X
    refine replaceT (x := strL (backL ((spD hand).take i) (multi (spP hand) X))) (y := strL z) (z := strL [c]) hu1 ht1 (Ne.symm htu) (strL_ne (by simp only [List.length_cons, List.length_nil]; omega)) (by rw [strL_len, strL_len]; simp only [List.length_cons, List.length_nil]; omega) fun t' k hk' => ?_
    rw [replace_rep _ _ _ (by omega)]
    have hst : rep z [c] (backL ((spD hand).take i) (multi (spP hand) X)) 0 = backL ((spD hand).take (i + 1)) (multi (spP hand) X) := by
      rw [List.take_add_one, hps]
      exact (backL_snoc _ (c, z) _).symm
    rw [hst]
    repeat' ((fail_if_success (with_reducible show LoopStepV _ _ _ _ _ _ _ _ _ _)); first | (k_unfold; (try dsimp only)) | (k_end; kc_close) | walk1 | (dsimp only; walk1) | (leave1; walk_say "STEP leave1"; (try dsimp only)) | fail "no step")
    exact LoopStepU.intro (by k_asm) (by k_asm) (by simpa using hoffI) ⟨_, rfl, rfl⟩
  case done =>
    intro h' tk' m' news' F' N' hJ
    obtain ⟨tt, e1, rfl⟩ := hJ
    rw [kvs_len hK, List.take_length, back_page] at e1
    first | refine canon1G e1 F' ?_ | refine canon1H e1 F' ?_
    clear e1 F'
    intro rest F'
    k_steps
    exact hret _ _ _ _ (by k_asm) (by k_asm) (fun _ h => h) ⟨_, rfl⟩)
end
end Mine
end
section
open PySem PySem.W PySem.Spec PySem.Calls PyProof.Rows
set_option maxRecDepth 100000
set_option maxHeartbeats 1000000
namespace Mine
theorem lzC04 : True := by
  k_with_none
  trivial
noncomputable def IntsL (ys : List Value) : Prop := ∀ v ∈ ys, ∃ (n : Int) (t : Tok), v = .int n t
noncomputable def JInt (news0 : List (Addr × Obj)) (i : Nat) (ys : List Value) (nw : List (Addr × Obj)) : Prop := IntsL ys ∧ ys.length = i ∧ nw = news0
theorem its1 {its : List (Addr × Obj)} {I : Addr} (h : its.map (·.1) = [I]) : ∃ o, its = [(I, o)] := by
  rcases its with _ | ⟨⟨a, o⟩, _ | ⟨b, r⟩⟩
  · simp at h
  · simp at h; subst h; exact ⟨o, rfl⟩
  · simp at h
theorem its2 {its : List (Addr × Obj)} {I K : Addr} (h : its.map (·.1) = [I, K]) : ∃ o o2, its = [(I, o), (K, o2)] := by
  rcases its with _ | ⟨⟨a, o⟩, _ | ⟨⟨b, o2⟩, _ | ⟨c, r⟩⟩⟩
  · simp at h
  · simp at h
  · simp at h; obtain ⟨rfl, rfl⟩ := h; exact ⟨o, o2, rfl⟩
  · simp at h
theorem tests_nil {prog : Program} {w : World} {A : Around} {env : Env} {P : Shared → Prop} {R : Shared → Prop} {E : Value → Shared → Prop} {s : Shared} (h : P s) : Tests prog w A [] env (fun ok s₃ => if ok = true then P s₃ else R s₃) E s := by
  show if true = true then P s else R s
  rw [if_pos rfl]; exact h
theorem intsL_are : ∀ {ys : List Value}, IntsL ys → ∃ ns, IntsAre ys ns
  | [], _ => ⟨[], .nil⟩
  | v :: r, h => by
    obtain ⟨n, t, rfl⟩ := h v (.head _)
    obtain ⟨ns, hns⟩ := intsL_are (ys := r) fun v hv => h v (.tail _ hv)
    exact ⟨n :: ns, .cons n t hns⟩
theorem intsL_of : ∀ {ys : List Value} {ns : List Int}, IntsAre ys ns → IntsL ys
  | _, _, .nil => fun v hv => (nomatch hv)
  | _, _, .cons _ _ r => fun v hv => by
    rcases List.mem_cons.mp hv with rfl | hv
    · exact ⟨_, _, rfl⟩
    · exact intsL_of r v hv
section
variable {prog : Program} {w : World} {A : Around} {E : Value → Shared → Prop} {s : Shared} {h₀ : Heap} {L l : Addr} {m : Str → Option Value} {news : List (Addr × Obj)}
theorem sum_L {vs : List Value} {ep : Nat} {Q : Value → Shared → Prop} (hh : A.handled = none) (F : Fr h₀ L s.heap m) (N : News h₀ L s.heap news) (hm : (l, W.listOf vs.toArray ep) ∈ news) (hi : IntsL vs)
    (h : ∀ h' tk t' (n : Int), Fr h₀ L h' m → News h₀ L h' news → Q (.int n t') { s with heap := h', toks := tk }) : wpAny (model prog w) A (call (.builtin "sum") [.ref l]) Q E s := by
  obtain ⟨ns, hns⟩ := intsL_are hi
  exact sumK hh F N (lst_is N hm) hns fun h' tk t' F' N' => h h' tk t' _ F' N'
theorem cut5 {value slice : Expr} {vs : List Value} {ep : Nat} {i k : Int} {t1 t2 : Tok} {Q : Value → Shared → Prop} {ops : List Value} (F : Fr h₀ L s.heap m) (N : News h₀ L s.heap news) (hm : (l, W.listOf vs.toArray ep) ∈ news) (hi : IntsL vs) (hz : vs.length ≤ 100000) (hk : k ≠ 0)
    (h : ∀ x h' zs, IntsL zs → Fr h₀ L h' m → News h₀ L h' ((x, W.listOf zs.toArray 0) :: news) → (∀ p ∈ news, p.1 < x) → Q (.ref x) { s with heap := h' })
    (hs : subscripted slice false (.ref l) (.ref s.heap.objs.size) = operate ops (getItem (.ref l) (.ref s.heap.objs.size)))
    (ht : ∀ r, letTemporaryGo value (.ref l) r = pure ()) :
    wpAny (model prog w) A (subscriptTail value slice (.ref l) (.ref s.heap.objs.size)) Q E { s with heap := s.heap.push { cls := .type "slice", data := .fields #[.int i t1, .none, .int k t2] } } := by
  refine slice_list3 F N (lst_is N hm) (.int i t1) .none (.int k t2) (by simpa using hk) (fun h' F' N' => h _ h' (slicePick vs.toArray (some i) none (some k)).toList ?_ F' (by simpa using N') (fun p hp => Nat.lt_succ_of_lt (Heap.lt_size (N p hp).1))) hs ht (by rw [List.size_toArray, sizeLine_eq]; omega)
  intro v hv
  simp only [slicePick, List.mem_filterMap] at hv
  obtain ⟨j, _, hj⟩ := hv
  exact hi v (by simpa using List.mem_of_getElem? (by simpa using hj))
end
end Mine
end
section
open PySem PySem.W PySem.Spec PySem.Calls PyProof.Rows
set_option maxRecDepth 100000
set_option maxHeartbeats 1000000
namespace Mine
/-- an object that is no cell -/
noncomputable def nc (p : Addr × Obj) : Bool := match p.2.data with
  | .cell _ => false
  | _ => true
noncomputable abbrev VP := (Str → Option Value) → List (Addr × Obj) → Option Value → Option Value → Option Value → Option Value → Option Value → Option Value → Prop
/-- how the law's frame stands between two statements: its six cells, and the rest -/
noncomputable def LSt (L : Addr) (V : VP) (m' : Str → Option Value) (nw : List (Addr × Obj)) : Prop :=
  ∃ (v1 v2 v3 v4 v5 v6 : Option Value) (o1 o2 o3 o4 o5 o6 : Obj) (rest : List (Addr × Obj)), nw = (L + 1, o1) :: (L + 1 + 1, o2) :: (L + 1 + 1 + 1, o3) :: (L + 1 + 1 + 1 + 1, o4) :: (L + 1 + 1 + 1 + 1 + 1, o5) :: (L + 1 + 1 + 1 + 1 + 1 + 1, o6) :: rest ∧
    o1.data = .cell v1 ∧ o2.data = .cell v2 ∧ o3.data = .cell v3 ∧ o4.data = .cell v4 ∧ o5.data = .cell v5 ∧ o6.data = .cell v6 ∧ (∀ p ∈ rest, nc p = true) ∧ V m' rest v1 v2 v3 v4 v5 v6
theorem nc_mem {all : List (Addr × Obj)} {p : Addr × Obj} (h : p ∈ all) (hn : nc p = true) : p ∈ all.filter nc := List.mem_filter.mpr ⟨h, hn⟩
theorem LSt.aft {h₀ h' : Heap} {L : Addr} {s : Shared} {tk : Nat} {m' : Str → Option Value} {all : List (Addr × Obj)} {v1 v2 v3 v4 v5 v6 : Option Value} {V : VP} {o1 o2 o3 o4 o5 o6 : Obj} (F : Fr h₀ L h' m') (N : News h₀ L h' all)
    (h1 : (L + 1, o1) ∈ all) (h2 : (L + 1 + 1, o2) ∈ all) (h3 : (L + 1 + 1 + 1, o3) ∈ all) (h4 : (L + 1 + 1 + 1 + 1, o4) ∈ all) (h5 : (L + 1 + 1 + 1 + 1 + 1, o5) ∈ all) (h6 : (L + 1 + 1 + 1 + 1 + 1 + 1, o6) ∈ all)
    (d1 : o1.data = .cell v1) (d2 : o2.data = .cell v2) (d3 : o3.data = .cell v3) (d4 : o4.data = .cell v4) (d5 : o5.data = .cell v5) (d6 : o6.data = .cell v6) (hV : V m' (all.filter nc) v1 v2 v3 v4 v5 v6) :
    Aft h₀ L s (LSt L V) .next { s with heap := h', toks := tk } := by
  refine ⟨rfl, h', tk, m', _, rfl, F, ?_, v1, v2, v3, v4, v5, v6, o1, o2, o3, o4, o5, o6, all.filter nc, rfl, d1, d2, d3, d4, d5, d6, fun p hp => (List.mem_filter.mp hp).2, hV⟩
  intro p hp
  simp only [List.mem_cons, List.mem_filter] at hp
  rcases hp with rfl | rfl | rfl | rfl | rfl | rfl | hp
  · exact N _ h1
  · exact N _ h2
  · exact N _ h3
  · exact N _ h4
  · exact N _ h5
  · exact N _ h6
  · exact N _ hp.1
/-- what is no cell stands off the cells -/
theorem off_cell {h₀ h : Heap} {L c : Addr} {o : Obj} {v : Option Value} {all rest : List (Addr × Obj)} (N : News h₀ L h all) (hc : (c, o) ∈ all) (hd : o.data = .cell v) (hr : ∀ p ∈ rest, p ∈ all ∧ nc p = true) : ∀ p ∈ rest, p.1 ≠ c := by
  rintro ⟨a, oa⟩ hp e
  obtain ⟨h1, h2⟩ := hr _ hp
  have e' : a = c := e
  subst e'
  have e3 : oa = o := Option.some.inj ((N _ h1).1.symm.trans (N _ hc).1)
  subst e3
  unfold nc at h2
  rw [hd] at h2
  cases h2
theorem off6 {h₀ h : Heap} {L c1 c2 c3 c4 c5 c6 : Addr} {v1 v2 v3 v4 v5 v6 : Option Value} {o1 o2 o3 o4 o5 o6 : Obj} {rest : List (Addr × Obj)} (N : News h₀ L h ((c1, o1) :: (c2, o2) :: (c3, o3) :: (c4, o4) :: (c5, o5) :: (c6, o6) :: rest))
    (d1 : o1.data = .cell v1) (d2 : o2.data = .cell v2) (d3 : o3.data = .cell v3) (d4 : o4.data = .cell v4) (d5 : o5.data = .cell v5) (d6 : o6.data = .cell v6) (hr : ∀ p ∈ rest, nc p = true) :
    (∀ p ∈ rest, p.1 ≠ c1) ∧ (∀ p ∈ rest, p.1 ≠ c2) ∧ (∀ p ∈ rest, p.1 ≠ c3) ∧ (∀ p ∈ rest, p.1 ≠ c4) ∧ (∀ p ∈ rest, p.1 ≠ c5) ∧ (∀ p ∈ rest, p.1 ≠ c6) := by
  have hr' : ∀ p ∈ rest, p ∈ (c1, o1) :: (c2, o2) :: (c3, o3) :: (c4, o4) :: (c5, o5) :: (c6, o6) :: rest ∧ nc p = true := fun p hp => ⟨by simp [hp], hr p hp⟩
  exact ⟨off_cell N (by simp) d1 hr', off_cell N (by simp) d2 hr', off_cell N (by simp) d3 hr', off_cell N (by simp) d4 hr', off_cell N (by simp) d5 hr', off_cell N (by simp) d6 hr'⟩
theorem law_aft {M : Model} {A : Around} {c : Sem Flow} {E : Value → Shared → Prop} {s : Shared} {h₀ : Heap} {L : Addr} {m : Str → Option Value} {Q : Flow → Shared → Prop} (V : VP) (F : Fr h₀ L s.heap m)
    (now : wpAny M A c (Aft h₀ L s (LSt L V)) E s)
    (after : ∀ (h' : Heap) (tk : Nat) (m' : Str → Option Value) (v1 v2 v3 v4 v5 v6 : Option Value) (o1 o2 o3 o4 o5 o6 : Obj) (rest : List (Addr × Obj)), Fr h₀ L h' m' →
      News h₀ L h' ((L + 1, o1) :: (L + 1 + 1, o2) :: (L + 1 + 1 + 1, o3) :: (L + 1 + 1 + 1 + 1, o4) :: (L + 1 + 1 + 1 + 1 + 1, o5) :: (L + 1 + 1 + 1 + 1 + 1 + 1, o6) :: rest) →
      o1.data = .cell v1 → o2.data = .cell v2 → o3.data = .cell v3 → o4.data = .cell v4 → o5.data = .cell v5 → o6.data = .cell v6 →
      (∀ p ∈ rest, p.1 ≠ L + 1) → (∀ p ∈ rest, p.1 ≠ L + 1 + 1) → (∀ p ∈ rest, p.1 ≠ L + 1 + 1 + 1) → (∀ p ∈ rest, p.1 ≠ L + 1 + 1 + 1 + 1) → (∀ p ∈ rest, p.1 ≠ L + 1 + 1 + 1 + 1 + 1) → (∀ p ∈ rest, p.1 ≠ L + 1 + 1 + 1 + 1 + 1 + 1) →
      V m' rest v1 v2 v3 v4 v5 v6 → Q .next { s with heap := h', toks := tk }) : wpAny M A c Q E s := by
  refine aft_rule (LSt L V) F now ?_
  rintro f s' ⟨rfl, h', tk, m', nw, rfl, F', N', v1, v2, v3, v4, v5, v6, o1, o2, o3, o4, o5, o6, rest, rfl, d1, d2, d3, d4, d5, d6, hn, hV⟩
  obtain ⟨q1, q2, q3, q4, q5, q6⟩ := off6 N' d1 d2 d3 d4 d5 d6 hn
  exact after h' tk m' v1 v2 v3 v4 v5 v6 o1 o2 o3 o4 o5 o6 rest F' N' d1 d2 d3 d4 d5 d6 q1 q2 q3 q4 q5 q6 hV
theorem CI.via {all big : List (Addr × Obj)} {v : Value} {c : Cl} (h : CI all v c) (hs : ∀ p ∈ all, Mine.nc p = true → p ∈ big) : CI big v c := by
  induction h with
  | leaf => exact .leaf
  | node hm _ _ ih1 ih2 => exact .node (hs _ hm rfl) ih1 ih2
theorem CI.nc {all : List (Addr × Obj)} {v : Value} {c : Cl} (h : CI all v c) : CI (all.filter Mine.nc) v c := by
  induction h with
  | leaf => exact .leaf
  | node hm _ _ ih1 ih2 => exact .node (nc_mem hm rfl) ih1 ih2
theorem RIs.nc {all : List (Addr × Obj)} {vs : List Value} {rows : List (Nat × List Nat)} (h : RIs all vs rows) : RIs (all.filter Mine.nc) vs rows := by
  induction h with
  | nil => exact .nil
  | cons hm _ ih => exact .cons (nc_mem hm rfl) ih
theorem RIs.mono' {all big : List (Addr × Obj)} {vs : List Value} {rows : List (Nat × List Nat)} (h : RIs all vs rows) (hs : ∀ p ∈ all, p ∈ big) : RIs big vs rows := by
  induction h with
  | nil => exact .nil
  | cons hm _ ih => exact .cons (hs _ hm) ih
theorem five {ys : List Value} (h : IntsL ys) (hl : ys.length = 5) : ∃ n0 n1 n2 n3 n4 t0 t1 t2 t3 t4, ys = [.int n0 t0, .int n1 t1, .int n2 t2, .int n3 t3, .int n4 t4] := by
  have step : ∀ (k : Nat) (xs : List Value), (∀ v ∈ xs, ∃ (n : Int) (t : Tok), v = .int n t) → xs.length = k + 1 → ∃ n t r, xs = .int n t :: r ∧ (∀ v ∈ r, ∃ (n : Int) (t : Tok), v = .int n t) ∧ r.length = k := fun k xs hx hk => by
    cases xs with
    | nil => cases hk
    | cons v r =>
      obtain ⟨n, t, rfl⟩ := hx v (.head _)
      exact ⟨n, t, r, rfl, fun v hv => hx v (.tail _ hv), Nat.succ.inj hk⟩
  obtain ⟨n0, t0, r0, rfl, h0, l0⟩ := step 4 ys h hl
  obtain ⟨n1, t1, r1, rfl, h1, l1⟩ := step 3 r0 h0 l0
  obtain ⟨n2, t2, r2, rfl, h2, l2⟩ := step 2 r1 h1 l1
  obtain ⟨n3, t3, r3, rfl, h3, l3⟩ := step 1 r2 h2 l2
  obtain ⟨n4, t4, r4, rfl, h4, l4⟩ := step 0 r3 h3 l3
  cases r4 with
  | nil => exact ⟨_, _, _, _, _, _, _, _, _, _, rfl⟩
  | cons => cases l4
noncomputable def V1 : VP := fun _ rest v1 _ _ _ _ _ => ∃ D ys, v1 = some (.ref D) ∧ (D, LCg.lst ys) ∈ rest ∧ IntsL ys ∧ ys.length ≤ 15
/-- the drawn numbers stand in a list -/
noncomputable def Drawn (v2 : Option Value) (n4 : Int) (rest : List (Addr × Obj)) : Prop := ∃ D n0 n1 n2 n3 t0 t1 t2 t3 t4, v2 = some (.ref D) ∧ (D, W.listOf [Value.int n0 t0, .int n1 t1, .int n2 t2, .int n3 t3, .int n4 t4].toArray 5) ∈ rest
theorem Drawn.mono {v2 : Option Value} {n4 : Int} {rest rest' : List (Addr × Obj)} (h : Drawn v2 n4 rest) (hs : ∀ p ∈ rest, p ∈ rest') : Drawn v2 n4 rest' :=
  let ⟨D, n0, n1, n2, n3, t0, t1, t2, t3, t4, e, hm⟩ := h; ⟨D, n0, n1, n2, n3, t0, t1, t2, t3, t4, e, hs _ hm⟩
theorem Drawn.via {v2 : Option Value} {n4 : Int} {rest rest' : List (Addr × Obj)} (h : Drawn v2 n4 rest) (hs : ∀ p ∈ rest, Mine.nc p = true → p ∈ rest') : Drawn v2 n4 rest' :=
  let ⟨D, n0, n1, n2, n3, t0, t1, t2, t3, t4, e, hm⟩ := h; ⟨D, n0, n1, n2, n3, t0, t1, t2, t3, t4, e, hs _ hm rfl⟩
theorem Drawn.nc {v2 : Option Value} {n4 : Int} {all : List (Addr × Obj)} (h : Drawn v2 n4 all) : Drawn v2 n4 (all.filter Mine.nc) :=
  let ⟨D, n0, n1, n2, n3, t0, t1, t2, t3, t4, e, hm⟩ := h; ⟨D, n0, n1, n2, n3, t0, t1, t2, t3, t4, e, nc_mem hm rfl⟩
noncomputable def V2 : VP := fun _ rest _ v2 _ _ _ _ => ∃ n4, Drawn v2 n4 rest
/-- a cell of the law's frame is written: the ledger anew, its cells ahead -/
theorem store_reg {M : Model} {A : Around} {E : Value → Shared → Prop} {s : Shared} {h₀ : Heap} {L a : Addr} {m : Str → Option Value} {cn : Str} {sc : Scope} {ccd : Value} {cl : List (Str × Addr)} {x : Str} {v : Value} {Q : Unit → Shared → Prop} {all : List (Addr × Obj)} {c : Addr} {o : Obj}
    (cs : List (Addr × Obj)) (i : Nat) (F : Fr h₀ L s.heap m) (N : News h₀ L s.heap all) (hcs : ∀ p ∈ cs, p ∈ all ∧ nc p = false) (hap : (cs.map (·.1)).Nodup) (hi : cs[i]? = some (c, o)) (hc : cl.lookup x = some c)
    (h : ∀ h' o' rest', Fr h₀ L h' m → News h₀ L h' (cs.set i (c, o') ++ rest') → o'.data = .cell (some v) → (∀ p ∈ all, nc p = true → p ∈ rest') → (∀ p ∈ rest', nc p = true) → Q () { s with heap := h' })
    (hk : sc.kind = .function) (hx : (envX cn sc L a ccd cl).kindOf x = some .cell) : wpAny M A (storeName (envX cn sc L a ccd cl) x v) Q E s := by
  have hco : (c, o) ∈ cs := List.mem_of_getElem? hi
  obtain ⟨hca, hcn⟩ := hcs _ hco
  have hmem := N _ hca
  obtain ⟨v₀, hd⟩ : ∃ v₀, o.data = .cell v₀ := by
    unfold nc at hcn
    cases e : o.data <;> simp only [e] at hcn <;> first | exact ⟨_, rfl⟩ | cases hcn
  refine wpAny_storeName_cell hk hx hc ⟨o, hmem.1, hd⟩ fun h' hv hs => ?_
  obtain ⟨o', ho', hd'⟩ := hv
  have F' : Fr h₀ L h' m := ⟨F.ns.sameBut hs (Ne.symm hmem.2.1), fun b ob e => (hs.2 b (fun q => by rw [q, hmem.2.2] at e; cases e)).trans (F.keep b ob e), F.above⟩
  have keep : ∀ p ∈ all, p.1 ≠ c → h'.get? p.1 = some p.2 ∧ p.1 ≠ L ∧ h₀.get? p.1 = none := fun p hp hne => ⟨(hs.2 _ hne).trans (N p hp).1, (N p hp).2⟩
  refine h h' o' (all.filter nc) F' (fun p hp => ?_) hd' (fun p hp hn => nc_mem hp hn) (fun p hp => (List.mem_filter.mp hp).2)
  rcases List.mem_append.mp hp with hp | hp
  · obtain ⟨j, hj⟩ := List.mem_iff_getElem?.mp hp
    by_cases e : j = i
    · subst e
      have hlt : j < cs.length := by
        have := (List.getElem?_eq_some_iff.mp hi).1
        exact this
      rw [List.getElem?_set_self hlt] at hj
      cases hj
      exact ⟨ho', hmem.2⟩
    · rw [List.getElem?_set_ne (Ne.symm e)] at hj
      refine keep p (hcs p (List.mem_of_getElem? hj)).1 fun e2 => e ?_
      have hj1 : (cs.map (·.1))[j]? = some c := by rw [List.getElem?_map, hj, ← e2]; rfl
      have hi1 : (cs.map (·.1))[i]? = some c := by rw [List.getElem?_map, hi]; rfl
      have hjl : j < (cs.map (·.1)).length := (List.getElem?_eq_some_iff.mp hj1).1
      exact (List.getElem?_inj hjl hap).mp (hj1.trans hi1.symm)
  · have hp' := List.mem_filter.mp hp
    refine keep p hp'.1 ?_
    exact off_cell N hca hd (rest := all.filter nc) (fun q hq => ⟨(List.mem_filter.mp hq).1, (List.mem_filter.mp hq).2⟩) p hp
/-- a tuple of three put to three names -/
theorem assign3 {prog : Program} {w : World} {A : Around} {E : Value → Shared → Prop} {s : Shared} {h₀ : Heap} {L T : Addr} {m : Str → Option Value} {env : Env} {news : List (Addr × Obj)} {x y z : Str} {px py pz tp : Pos} {k : Nat} {a b c : Value} {Q : Unit → Shared → Prop} (hh : A.handled = none) (F : Fr h₀ L s.heap m) (N : News h₀ L s.heap news) (hm : (T, tupO [a, b, c]) ∈ news)
    (h : ∀ h₁, Fr h₀ L h₁ m → News h₀ L h₁ news → wpAny (model prog w) A (storeName env x a) (fun _ s1 => wpAny (model prog w) A (storeName env y b) (fun _ s2 => wpAny (model prog w) A (storeName env z c) Q E s2) E s1) E { s with heap := h₁ }) :
    wpAny (model prog w) A (assign (.Tuple [.Name x px, .Name y py, .Name z pz] k tp) env (.ref T)) Q E s := by
  refine wpAny_assign_Tuple hh (items := #[a, b, c]) ⟨_, (N _ hm).1, rfl, _, rfl⟩ rfl rfl fun h₁ hx => ?_
  have up : ∀ b o, s.heap.get? b = some o → h₁.get? b = some o := fun b o e => hx b o (Nat.ne_of_lt (Heap.lt_size e)) e
  have H := h h₁ (F.keeps up) (N.grown up)
  show wpAny _ _ (assignInOrder [assign (.Name x px) env, assign (.Name y py) env, assign (.Name z pz) env] [a, b, c]) _ _ _
  refine assignInOrder_cons (wpAny_assign_Name (wpAny_mono H (fun _ s1 h1 => ?_) fun _ _ e => e))
  refine assignInOrder_cons (wpAny_assign_Name (wpAny_mono h1 (fun _ s2 h2 => ?_) fun _ _ e => e))
  refine assignInOrder_cons (wpAny_assign_Name (wpAny_mono h2 (fun _ s3 h3 => assignInOrder_nil h3) fun _ _ e => e))
noncomputable def V3 : VP := fun m' rest _ v2 v3 v4 _ _ => ∃ (n4 : Int) (c : Cl) (so : Bool) (hand : Nat) (th : Tok) (vc : Value), Drawn v2 n4 rest ∧ v3 = some vc ∧ CI rest vc c ∧ c.ok ∧ c.size = 7 ∧ v4 = some (.bool so) ∧ hand < 5 ∧ m' (PySem.Str.ofString "hand") = some (.int (hand : Int) th)
noncomputable def V4 : VP := fun m' rest _ v2 v3 v4 _ _ => ∃ (n4 : Int) (c : Cl) (so : Bool) (hand e : Nat) (th te : Tok) (vc : Value), Drawn v2 n4 rest ∧ v3 = some vc ∧ CI rest vc c ∧ c.ok ∧ c.size = 7 ∧ v4 = some (.bool so) ∧ hand < 5 ∧ m' (PySem.Str.ofString "hand") = some (.int (hand : Int) th) ∧ (e = 10 ∨ e = 13) ∧ m' (PySem.Str.ofString "ending") = some (.str (strL [e]) te)
theorem lit_lf : PySem.Str.ofString "\n" = strL [10] := by decide +kernel
theorem lit_cr : PySem.Str.ofString "\x0d" = strL [13] := by decide +kernel
noncomputable def menuU : List (List Nat) := [[32], [9], [32, 32], [32, 9]]
theorem pick4 {prog : Program} {w : World} {A : Around} {E : Value → Shared → Prop} {s : Shared} {h₀ : Heap} {L l : Addr} {news : List (Addr × Obj)} {value slice : PySem.Expr} {u t0 t1 t2 t3 : Tok} {n : Int} {Q : Value → Shared → Prop} (N : News h₀ L s.heap news)
    (hm : (l, W.listOf [Value.str (PySem.Str.ofString " ") t0, Value.str (PySem.Str.ofString "\t") t1, Value.str (PySem.Str.ofString "  ") t2, Value.str (PySem.Str.ofString " \t") t3].toArray 0) ∈ news)
    (h : ∀ o t, o ∈ menuU → Q (.str (strL o) t) s)
    (hs : subscripted slice false (.ref l) (.int (n.fmod 4) u) = operate [.ref l, .int (n.fmod 4) u] (getItem (.ref l) (.int (n.fmod 4) u))) : wpAny (model prog w) A (subscriptTail value slice (.ref l) (.int (n.fmod 4) u)) Q E s := by
  have h0 : 0 ≤ n.fmod 4 := Int.fmod_nonneg_of_pos n (by omega)
  have h3 : n.fmod 4 < 4 := Int.fmod_lt_of_pos n (by omega)
  obtain ⟨k, hk⟩ := Int.eq_ofNat_of_zero_le h0
  rw [hk] at hs h3 ⊢
  have a0 : PySem.Str.ofString " " = strL [32] := by decide +kernel
  have a1 : PySem.Str.ofString "\t" = strL [9] := by decide +kernel
  have a2 : PySem.Str.ofString "  " = strL [32, 32] := by decide +kernel
  have a3 : PySem.Str.ofString " \t" = strL [32, 9] := by decide +kernel
  rcases k with _ | _ | _ | _ | k
  · exact lst_itemN N hm rfl (by simp) (by rw [a0]; exact h [32] _ (by decide)) hs
  · exact lst_itemN N hm rfl (by simp) (by rw [a1]; exact h [9] _ (by decide)) hs
  · exact lst_itemN N hm rfl (by simp) (by rw [a2]; exact h [32, 32] _ (by decide)) hs
  · exact lst_itemN N hm rfl (by simp) (by rw [a3]; exact h [32, 9] _ (by decide)) hs
  · omega
theorem pick_int {prog : Program} {w : World} {A : Around} {E : Value → Shared → Prop} {s : Shared} {h₀ : Heap} {L l : Addr} {news : List (Addr × Obj)} {value slice : PySem.Expr} {u : Tok} {i : Int} {vs : List Value} {ep : Nat} {Q : Value → Shared → Prop} (N : News h₀ L s.heap news)
    (hm : (l, W.listOf vs.toArray ep) ∈ news) (hI : IntsL vs) (hz : vs.length ≤ 100000) (h0 : 0 ≤ i) (h1 : i < vs.length)
    (h : ∀ n t, Q (.int n t) s)
    (hs : subscripted slice false (.ref l) (.int i u) = operate [.ref l, .int i u] (getItem (.ref l) (.int i u))) : wpAny (model prog w) A (subscriptTail value slice (.ref l) (.int i u)) Q E s := by
  obtain ⟨k, rfl⟩ := Int.eq_ofNat_of_zero_le h0
  have hk : k < vs.length := by omega
  obtain ⟨n, t, e⟩ := hI vs[k] (List.getElem_mem hk)
  exact lst_itemN N hm (v := .int n t) (by rw [List.getElem?_eq_getElem hk, e]) hz (h n t) hs
noncomputable def JUnits (news0 : List (Addr × Obj)) (i : Nat) (ys : List Value) (nw : List (Addr × Obj)) : Prop := nw = news0 ∧ ∃ us, SIs ys us ∧ us.length = i ∧ ∀ u ∈ us, u ∈ menuU
theorem SIs.snoc {ys : List Value} {us : List (List Nat)} {u : List Nat} {t : Tok} (h : SIs ys us) : SIs (ys ++ [.str (strL u) t]) (us ++ [u]) := by
  have h2 : StrsAre [Value.str (strL u) t] [strL u] := .cons (strL u) t .nil
  have := SIs.app h2 h
  show StrsAre _ _
  rw [List.map_append]
  exact this
noncomputable def V5 : VP := fun m' rest _ _ v3 v4 v5 _ => ∃ (c : Cl) (so : Bool) (hand e : Nat) (th te : Tok) (vc : Value) (U : Addr) (vs : List Value) (ep : Nat) (us : List (List Nat)), v3 = some vc ∧ CI rest vc c ∧ c.ok ∧ c.size = 7 ∧ v4 = some (.bool so) ∧ hand < 5 ∧ m' (PySem.Str.ofString "hand") = some (.int (hand : Int) th) ∧ (e = 10 ∨ e = 13) ∧ m' (PySem.Str.ofString "ending") = some (.str (strL [e]) te) ∧ v5 = some (.ref U) ∧ (U, W.listOf vs.toArray ep) ∈ rest ∧ SIs vs us ∧ us.length = 6 ∧ ∀ u ∈ us, u ∈ menuU
noncomputable def V6 : VP := fun m' rest _ _ v3 v4 v5 _ => ∃ (c : Cl) (so : Bool) (hand e : Nat) (th te : Tok) (vc : Value) (U : Addr) (vs : List Value) (ep : Nat) (us : List (List Nat)) (Rl : Addr) (rvs : List Value) (rep : Nat), v3 = some vc ∧ CI rest vc c ∧ c.ok ∧ c.size = 7 ∧ v4 = some (.bool so) ∧ hand < 5 ∧ m' (PySem.Str.ofString "hand") = some (.int (hand : Int) th) ∧ (e = 10 ∨ e = 13) ∧ m' (PySem.Str.ofString "ending") = some (.str (strL [e]) te) ∧ v5 = some (.ref U) ∧ (U, W.listOf vs.toArray ep) ∈ rest ∧ SIs vs us ∧ us.length = 6 ∧ (∀ u ∈ us, u ∈ menuU) ∧
  m' (PySem.Str.ofString "rows") = some (.ref Rl) ∧ (Rl, W.listOf rvs.toArray rep) ∈ rest ∧ RIs rest rvs ((0, shownL so c) :: brk 8 [(so, c)] 1)
theorem RIs.via {all big : List (Addr × Obj)} {vs : List Value} {rows : List (Nat × List Nat)} (h : RIs all vs rows) (hs : ∀ p ∈ all, Mine.nc p = true → p ∈ big) : RIs big vs rows := by
  induction h with
  | nil => exact .nil
  | cons hm _ ih => exact .cons (hs _ hm rfl) ih
theorem six_in {a b c d e f p : Addr × Obj} {rest : List (Addr × Obj)} (h : p ∈ rest) : p ∈ a :: b :: c :: d :: e :: f :: rest := .tail _ (.tail _ (.tail _ (.tail _ (.tail _ (.tail _ h)))))
theorem up6 {x a b c d q1 q2 q3 q4 q5 q6 : Addr × Obj} {rest big : List (Addr × Obj)} (hS : Sub (a :: b :: c :: d :: q1 :: q2 :: q3 :: q4 :: q5 :: q6 :: rest) big) : ∀ p ∈ rest, p ∈ x :: big :=
  fun p hp => List.mem_cons_of_mem _ (hS.h _ (.tail _ (.tail _ (.tail _ (.tail _ (six_in hp))))))
theorem nc_cell {c : Addr} {o : Obj} {v : Option Value} (h : o.data = .cell v) : nc (c, o) = false := by
  unfold nc; rw [h]
theorem six_ok {L : Addr} {all : List (Addr × Obj)} {o1 o2 o3 o4 o5 o6 : Obj} {v1 v2 v3 v4 v5 v6 : Option Value} (h1 : (L + 1, o1) ∈ all) (h2 : (L + 1 + 1, o2) ∈ all) (h3 : (L + 1 + 1 + 1, o3) ∈ all) (h4 : (L + 1 + 1 + 1 + 1, o4) ∈ all) (h5 : (L + 1 + 1 + 1 + 1 + 1, o5) ∈ all) (h6 : (L + 1 + 1 + 1 + 1 + 1 + 1, o6) ∈ all)
    (d1 : o1.data = .cell v1) (d2 : o2.data = .cell v2) (d3 : o3.data = .cell v3) (d4 : o4.data = .cell v4) (d5 : o5.data = .cell v5) (d6 : o6.data = .cell v6) :
    ∀ p ∈ ([(L + 1, o1), (L + 1 + 1, o2), (L + 1 + 1 + 1, o3), (L + 1 + 1 + 1 + 1, o4), (L + 1 + 1 + 1 + 1 + 1, o5), (L + 1 + 1 + 1 + 1 + 1 + 1, o6)] : List (Addr × Obj)), p ∈ all ∧ nc p = false := by
  intro p hp
  simp only [List.mem_cons, List.not_mem_nil, or_false] at hp
  rcases hp with rfl | rfl | rfl | rfl | rfl | rfl
  · exact ⟨h1, nc_cell d1⟩
  · exact ⟨h2, nc_cell d2⟩
  · exact ⟨h3, nc_cell d3⟩
  · exact ⟨h4, nc_cell d4⟩
  · exact ⟨h5, nc_cell d5⟩
  · exact ⟨h6, nc_cell d6⟩
theorem six_ap {L : Addr} {o1 o2 o3 o4 o5 o6 : Obj} : (([(L + 1, o1), (L + 1 + 1, o2), (L + 1 + 1 + 1, o3), (L + 1 + 1 + 1 + 1, o4), (L + 1 + 1 + 1 + 1 + 1, o5), (L + 1 + 1 + 1 + 1 + 1 + 1, o6)] : List (Addr × Obj)).map (·.1)).Nodup := by
  simp only [List.map_cons, List.map_nil, List.nodup_cons, List.mem_cons, List.not_mem_nil, or_false, not_or, not_false_eq_true, List.nodup_nil, and_true]
  refine ⟨⟨?_, ?_, ?_, ?_, ?_⟩, ⟨?_, ?_, ?_, ?_⟩, ⟨?_, ?_, ?_⟩, ⟨?_, ?_⟩, ?_⟩ <;> (show ¬ ((_ : Nat) = _); omega)
end Mine
end
section
open PySem PySem.W PySem.Spec PySem.Calls PyProof.Rows
set_option maxRecDepth 100000
set_option maxHeartbeats 1000000
namespace Mine
noncomputable def Cl.nd : Cl → Nat
  | .leaf _ => 0
  | .node _ l r => l.nd + r.nd + 1
theorem size_nd : ∀ c : Cl, c.size = 2 * c.nd + 1
  | .leaf _ => rfl
  | .node _ l r => by simp only [Cl.size, Cl.nd, size_nd l, size_nd r]; omega
noncomputable def nds : List (Bool × Cl) → Nat
  | [] => 0
  | p :: r => p.2.nd + nds r
theorem nds_app : ∀ (a b : List (Bool × Cl)), nds (a ++ b) = nds a + nds b
  | [], b => by simp [nds]
  | p :: a, b => by simp only [List.cons_append, nds, nds_app a b]; omega
theorem brkC_len : ∀ (n : Nat) (t : List (Bool × Cl)) (d : Nat), (brkC n t d).length + 2 ≤ 2 * 2 ^ nds t
  | 0, t, _ => by have := Nat.one_le_two_pow (n := nds t); simp only [brkC, List.length_nil]; omega
  | _ + 1, [], _ => by simp [brkC, nds]
  | n + 1, (_, .leaf _) :: t, d => by have := brkC_len n t d; simp only [brkC, nds, Cl.nd] at this ⊢; simpa using this
  | n + 1, (so, .node o l r) :: t, d => by
    simp only [brkC]
    have pw : ∀ a b : Nat, a ≤ b → 2 ^ a ≤ 2 ^ b := fun a b h => Nat.pow_le_pow_right (by decide) h
    have e : nds ((so, Cl.node o l r) :: t) = (l.nd + r.nd + nds t) + 1 := by simp only [nds, Cl.nd]; omega
    rw [e, Nat.pow_succ]
    split
    · have h := brkC_len n (t ++ [((tabO o).2.1 == so, l), ((tabO o).2.2 == so, r)]) (d + 2)
      have e2 : nds (t ++ [((tabO o).2.1 == so, l), ((tabO o).2.2 == so, r)]) = l.nd + r.nd + nds t := by rw [nds_app]; simp only [nds]; omega
      rw [e2] at h
      have := Nat.one_le_two_pow (n := l.nd + r.nd + nds t)
      simp only [List.length_cons]; omega
    · have h1 := brkC_len n (t ++ [((tabO o).2.1 == so, l)]) (d + 1)
      have h2 := brkC_len n (t ++ [((tabO o).2.2 == so, r)]) (d + 1)
      have e1 : nds (t ++ [((tabO o).2.1 == so, l)]) = l.nd + nds t := by rw [nds_app]; simp only [nds]; omega
      have e2 : nds (t ++ [((tabO o).2.2 == so, r)]) = r.nd + nds t := by rw [nds_app]; simp only [nds]; omega
      rw [e1] at h1
      rw [e2] at h2
      have p1 := pw (l.nd + nds t) (l.nd + r.nd + nds t) (by omega)
      have p2 := pw (r.nd + nds t) (l.nd + r.nd + nds t) (by omega)
      simp only [List.length_cons, List.length_append]; omega
noncomputable def okIn (t : List (Bool × Cl)) (m : Nat) : Prop := ∀ q ∈ t, q.2.ok ∧ q.2.nd ≤ m
theorem brkC_ok (m : Nat) : ∀ (n : Nat) (t : List (Bool × Cl)) (d : Nat), okIn t m → ∀ x ∈ brkC n t d, x.1 + 1 ≤ d + 2 * nds t ∧ x.2.2.ok ∧ x.2.2.nd ≤ m
  | 0, _, _, _, _, hx => by simp [brkC] at hx
  | _ + 1, [], _, _, _, hx => by simp [brkC] at hx
  | n + 1, (_, .leaf _) :: t, d, h, x, hx => by
    simp only [brkC] at hx
    have := brkC_ok m n t d (fun q hq => h q (.tail _ hq)) x hx
    refine ⟨?_, this.2⟩
    have h1 := this.1
    simp only [nds, Cl.nd]; omega
  | n + 1, (so, .node o l r) :: t, d, h, x, hx => by
    obtain ⟨⟨_, hl, hr⟩, hm⟩ := h _ (.head _)
    simp only [Cl.nd] at hm
    have ht : okIn t m := fun q hq => h q (.tail _ hq)
    have one : ∀ (s : Bool) (c : Cl), c.ok → c.nd ≤ m → okIn (t ++ [(s, c)]) m := fun s c h1 h2 q hq => by
      rcases List.mem_append.mp hq with hq | hq
      · exact ht q hq
      · rw [List.mem_singleton.mp hq]; exact ⟨h1, h2⟩
    have e : nds ((so, Cl.node o l r) :: t) = l.nd + r.nd + nds t + 1 := by simp only [nds, Cl.nd]; omega
    rw [e]
    simp only [brkC] at hx
    split at hx
    · have two : okIn (t ++ [((tabO o).2.1 == so, l), ((tabO o).2.2 == so, r)]) m := fun q hq => by
        rcases List.mem_append.mp hq with hq | hq
        · exact ht q hq
        · rcases List.mem_cons.mp hq with rfl | hq
          · exact ⟨hl, by show l.nd ≤ m; omega⟩
          · rw [List.mem_singleton.mp hq]; exact ⟨hr, by show r.nd ≤ m; omega⟩
      have e2 : nds (t ++ [((tabO o).2.1 == so, l), ((tabO o).2.2 == so, r)]) = l.nd + r.nd + nds t := by rw [nds_app]; simp only [nds]; omega
      rcases List.mem_cons.mp hx with rfl | hx
      · exact ⟨by show d + 1 ≤ _; omega, hl, by show l.nd ≤ m; omega⟩
      · rcases List.mem_cons.mp hx with rfl | hx
        · exact ⟨by show d + 1 + 1 ≤ _; omega, hr, by show r.nd ≤ m; omega⟩
        · have := brkC_ok m n _ _ two x hx
          rw [e2] at this
          exact ⟨by omega, this.2⟩
    · have e1 : nds (t ++ [((tabO o).2.1 == so, l)]) = l.nd + nds t := by rw [nds_app]; simp only [nds]; omega
      have e2 : nds (t ++ [((tabO o).2.2 == so, r)]) = r.nd + nds t := by rw [nds_app]; simp only [nds]; omega
      rcases List.mem_cons.mp hx with rfl | hx
      · exact ⟨by show d + 1 ≤ _; omega, hl, by show l.nd ≤ m; omega⟩
      · rcases List.mem_append.mp hx with hx | hx
        · have := brkC_ok m n _ _ (one _ l hl (by omega)) x hx
          rw [e1] at this
          exact ⟨by omega, this.2⟩
        · rcases List.mem_cons.mp hx with rfl | hx
          · exact ⟨by show d + 1 ≤ _; omega, hr, by show r.nd ≤ m; omega⟩
          · have := brkC_ok m n _ _ (one _ r hr (by omega)) x hx
            rw [e2] at this
            exact ⟨by omega, this.2⟩
theorem rows_facts (so : Bool) (c : Cl) (hok : c.ok) (hsz : c.size = 7) : (rowsC so c).length ≤ 15 ∧ (rowsC so c) ≠ [] ∧ (∀ x ∈ rowsC so c, x.1 ≤ 6 ∧ x.2.2.ok ∧ (shownL x.2.1 x.2.2).length ≤ 36) ∧ (rowsC so c).map showR = (0, shownL so c) :: brk 8 [(so, c)] 1 := by
  have hnd : c.nd = 3 := by have := size_nd c; omega
  have hn1 : nds [(so, c)] = 3 := by simp only [nds]; omega
  have hm : meas [(so, c)] + 1 = 8 := by simp only [meas]; omega
  have hlen : ∀ (s : Bool) (q : Cl), q.nd ≤ 3 → (shownL s q).length ≤ 36 := fun s q hq => by
    have h1 := textL_len q
    have h2 := size_nd q
    unfold shownL
    split
    · omega
    · simp only [List.length_cons]; omega
  have h1 := brkC_len (meas [(so, c)] + 1) [(so, c)] 1
  rw [hn1] at h1
  have h2 := brkC_ok 3 (meas [(so, c)] + 1) [(so, c)] 1 (fun q hq => by rw [List.mem_singleton.mp hq]; exact ⟨hok, by show c.nd ≤ 3; omega⟩)
  rw [hn1] at h2
  refine ⟨?_, by simp [rowsC], ?_, ?_⟩
  · simp only [rowsC, List.length_cons]; omega
  · intro x hx
    rcases List.mem_cons.mp hx with rfl | hx
    · exact ⟨by show 0 ≤ 6; omega, hok, hlen so c (by omega)⟩
    · obtain ⟨a1, a2, a3⟩ := h2 x hx
      exact ⟨by omega, a2, hlen _ _ a3⟩
  · rw [rowsC, List.map_cons, hm, brk_C]; rfl
end Mine
end
section
open PySem PySem.W PySem.Spec PySem.Calls PyProof.Rows
set_option maxRecDepth 100000
set_option maxHeartbeats 1000000
namespace Mine
noncomputable def ilN (cnt : List Nat) (ts : Nat) : Nat → Nat
  | 0 => 0
  | i + 1 => ilN cnt ts i + (ts + i) / ts * cnt.getD (ts + i) 0
theorem il_cast (cnt : List Nat) (ts : Nat) : ∀ n, ilS (natInts cnt) ts n = (ilN cnt ts n : Nat)
  | 0 => rfl
  | n + 1 => by
    have e : (natInts cnt).getD (ts + n) 0 = ((cnt.getD (ts + n) 0 : Nat) : Int) := by
      simp only [natInts, List.getD_eq_getElem?_getD, List.getElem?_map]
      cases cnt[ts + n]? <;> rfl
    have e2 : Int.fdiv ((ts + n : Nat) : Int) (ts : Int) = (((ts + n) / ts : Nat) : Int) := by
      rw [Int.fdiv_eq_ediv_of_nonneg _ (by omega)]; rfl
    simp only [ilS, ilN, il_cast cnt ts n, e, e2]
    push_cast
    rfl
theorem il_bump (cnt : List Nat) (k ts : Nat) : ∀ n, ilN (bump cnt k) ts n = ilN cnt ts n + (if ts ≤ k ∧ k < ts + n then k / ts else 0)
  | 0 => by simp [ilN]; omega
  | n + 1 => by
    simp only [ilN, bump_get, il_bump cnt k ts n]
    by_cases h1 : ts + n = k
    · subst h1
      have c1 : ¬ (ts ≤ ts + n ∧ ts + n < ts + n) := by omega
      have c2 : ts ≤ ts + n ∧ ts + n < ts + (n + 1) := by omega
      rw [if_neg c1, if_pos c2, if_pos rfl, Nat.mul_add]
      omega
    · rw [if_neg h1, Nat.add_zero]
      by_cases c1 : ts ≤ k ∧ k < ts + n
      · rw [if_pos c1, if_pos (by omega)]; omega
      · rw [if_neg c1, if_neg (by omega)]; omega
theorem il_more (cnt : List Nat) (ts : Nat) : ∀ m, ilN cnt ts (cnt.length - ts + m) = ilN cnt ts (cnt.length - ts)
  | 0 => rfl
  | m + 1 => by
    have e : cnt.length - ts + (m + 1) = (cnt.length - ts + m) + 1 := rfl
    rw [e]
    simp only [ilN]
    rw [il_more cnt ts m]
    have : cnt.getD (ts + (cnt.length - ts + m)) 0 = 0 := by
      rw [List.getD_eq_getElem?_getD, List.getElem?_eq_none (by omega)]; rfl
    rw [this]; omega
theorem lvl_nat (s : WS) (ts : Nat) : lvl s ts = ((s.b + ts * (ilN s.cnt ts (s.cnt.length - ts) + s.nt) : Nat) : Int) := by
  unfold lvl
  rw [il_cast]
  push_cast
  rfl
theorem lvl_sp (s : WS) (ts : Nat) : lvl s ts < lvl s.sp ts := by
  rw [lvl_nat, lvl_nat]
  simp only [WS.sp]
  omega
theorem lvl_tab (s : WS) (ts : Nat) (hts : 1 ≤ ts) : lvl s ts < lvl s.tab ts := by
  have e : s.tab = ⟨bump s.cnt s.b, 0, s.n + 1, s.nt + 1⟩ := rfl
  rw [lvl_nat, lvl_nat, e]
  simp only []
  have hl := bump_len s.cnt s.b
  have h1 : (bump s.cnt s.b).length - ts = s.cnt.length - ts + ((bump s.cnt s.b).length - ts - (s.cnt.length - ts)) := by omega
  have h2 : ilN (bump s.cnt s.b) ts ((bump s.cnt s.b).length - ts) = ilN s.cnt ts (s.cnt.length - ts) + s.b / ts := by
    rw [il_bump]
    have e3 : ilN s.cnt ts ((bump s.cnt s.b).length - ts) = ilN s.cnt ts (s.cnt.length - ts) := by rw [h1]; exact il_more _ _ _
    rw [e3]
    by_cases c : ts ≤ s.b
    · rw [if_pos ⟨c, by omega⟩]
    · rw [if_neg (by omega), Nat.div_eq_of_lt (by omega)]
  rw [h2]
  have hd := Nat.div_add_mod s.b ts
  have hm := Nat.mod_lt s.b (show ts > 0 by omega)
  have e4 : ts * (ilN s.cnt ts (s.cnt.length - ts) + s.b / ts + (s.nt + 1)) = ts * (ilN s.cnt ts (s.cnt.length - ts) + s.nt) + ts * (s.b / ts) + ts := by
    rw [show ilN s.cnt ts (s.cnt.length - ts) + s.b / ts + (s.nt + 1) = (ilN s.cnt ts (s.cnt.length - ts) + s.nt) + s.b / ts + 1 by omega, Nat.mul_add, Nat.mul_add]
    omega
  rw [e4]
  omega
structure Grow (s t : WS) (k : Nat) : Prop where
  n : t.n = s.n + k
  nt : s.nt ≤ t.nt
  lv : ∀ ts, 1 ≤ ts → lvl s ts ≤ lvl t ts ∧ (1 ≤ k → lvl s ts < lvl t ts)
  sm : s.cnt.length ≤ s.n → s.b ≤ s.n → t.cnt.length ≤ t.n ∧ t.b ≤ t.n
theorem ws_grow : ∀ (x : List Nat) (s : WS), blank x → Grow s (wsGo x s) x.length
  | [], s, _ => ⟨rfl, Nat.le_refl _, fun ts _ => ⟨Int.le_refl _, fun h => by simp at h⟩, fun h1 h2 => ⟨h1, h2⟩⟩
  | c :: x, s, h => by
    have hr : blank x := fun k hk => h k (.tail _ hk)
    simp only [wsGo]
    by_cases h32 : c = 32
    · rw [if_pos h32]
      have G := ws_grow x s.sp hr
      refine ⟨?_, ?_, fun ts hts => ?_, fun h1 h2 => G.sm (by simp only [WS.sp]; omega) (by simp only [WS.sp]; omega)⟩
      · have := G.n; simp only [WS.sp, List.length_cons] at this ⊢; omega
      · exact G.nt
      · have := (G.lv ts hts).1; have := lvl_sp s ts; exact ⟨by omega, fun _ => by omega⟩
    · have h9 : c = 9 := (h c (.head _)).resolve_left h32
      rw [if_neg h32, if_pos h9]
      have G := ws_grow x s.tab hr
      refine ⟨?_, ?_, fun ts hts => ?_, fun h1 h2 => G.sm ?_ ?_⟩
      · have := G.n; simp only [WS.tab, List.length_cons] at this ⊢; omega
      · exact Nat.le_trans (Nat.le_succ _) G.nt
      · have := (G.lv ts hts).1; have := lvl_tab s ts hts; exact ⟨by omega, fun _ => by omega⟩
      · have e : s.tab = ⟨bump s.cnt s.b, 0, s.n + 1, s.nt + 1⟩ := rfl
        rw [e]
        simp only []
        rw [bump_len]; omega
      · simp only [WS.tab]; omega
theorem joinE : ∀ ls : List (List Nat), joinL [] ls = ls.flatten
  | [] => rfl
  | [a] => by simp [joinL]
  | a :: b :: r => by
    have ih := joinE (b :: r)
    simp only [joinL, List.flatten_cons, List.nil_append] at ih ⊢
    rw [ih]
noncomputable def padU (us : List (List Nat)) : List (List Nat) := us ++ List.replicate 20 [32]
noncomputable def sdU (us : List (List Nat)) (d : Nat) : WS := wsGo (joinL [] ((padU us).take d)) ⟨[], 0, 0, 0⟩
theorem menu_blank {u : List Nat} (h : u ∈ menuU) : blank u ∧ 1 ≤ u.length ∧ u.length ≤ 2 := by
  simp only [menuU, List.mem_cons, List.not_mem_nil, or_false] at h
  rcases h with rfl | rfl | rfl | rfl <;> exact ⟨by intro k hk; simp at hk; omega, by decide, by decide⟩
theorem pad_all {us : List (List Nat)} (hU : ∀ u ∈ us, u ∈ menuU) : ∀ u ∈ padU us, u ∈ menuU := fun u hu => by
  rcases List.mem_append.mp hu with h | h
  · exact hU u h
  · rw [(List.mem_replicate.mp h).2]; decide
theorem flat_blank {ls : List (List Nat)} (h : ∀ u ∈ ls, u ∈ menuU) : blank ls.flatten := fun k hk => by
  obtain ⟨u, hu, hk⟩ := List.mem_flatten.mp hk
  exact (menu_blank (h u hu)).1 k hk
theorem flat_len : ∀ {ls : List (List Nat)}, (∀ u ∈ ls, u ∈ menuU) → ls.length ≤ ls.flatten.length ∧ ls.flatten.length ≤ 2 * ls.length
  | [], _ => by simp
  | u :: ls, h => by
    have ih := flat_len (ls := ls) fun v hv => h v (.tail _ hv)
    have hu := menu_blank (h u (.head _))
    simp only [List.flatten_cons, List.length_append, List.length_cons]
    omega
theorem leads_U (us : List (List Nat)) (hl : us.length = 6) (hU : ∀ u ∈ us, u ∈ menuU) : Leads (sdU us) := by
  have hP := pad_all hU
  have hT : ∀ d, ∀ u ∈ (padU us).take d, u ∈ menuU := fun d u hu => hP u (List.mem_of_mem_take hu)
  have hpl : (padU us).length = 26 := by simp [padU, hl]
  have hb : ∀ d, blank (joinL [] ((padU us).take d)) := fun d => by rw [joinE]; exact flat_blank (hT d)
  have hG : ∀ d, Grow ⟨[], 0, 0, 0⟩ (sdU us d) (joinL [] ((padU us).take d)).length := fun d => ws_grow _ _ (hb d)
  have hlen : ∀ d, d ≤ 20 → (joinL [] ((padU us).take d)).length ≤ 40 := fun d hd => by
    rw [joinE]
    have := flat_len (hT d)
    rw [List.length_take, hpl] at this
    omega
  have split : ∀ d e, d ≤ e → e ≤ 20 → ∃ y, blank y ∧ (d < e → 1 ≤ y.length) ∧ joinL [] ((padU us).take e) = joinL [] ((padU us).take d) ++ y := fun d e hde he => by
    refine ⟨(((padU us).take e).drop d).flatten, flat_blank fun u hu => hT e u (List.mem_of_mem_drop hu), fun h => ?_, ?_⟩
    · have := (flat_len (ls := ((padU us).take e).drop d) fun u hu => hT e u (List.mem_of_mem_drop hu)).1
      rw [List.length_drop, List.length_take, hpl] at this
      omega
    · rw [joinE, joinE, ← List.flatten_append]
      congr 1
      have e1 : (padU us).take d = ((padU us).take e).take d := by rw [List.take_take, Nat.min_eq_left hde]
      rw [e1, List.take_append_drop]
  have step : ∀ d e, d ≤ e → e ≤ 20 → ∃ k, (d < e → 1 ≤ k) ∧ Grow (sdU us d) (sdU us e) k := fun d e hde he => by
    obtain ⟨y, hy, hk, e1⟩ := split d e hde he
    refine ⟨y.length, hk, ?_⟩
    have := ws_grow y (sdU us d) hy
    unfold sdU at this ⊢
    rw [e1, ws_app _ _ _ (hb d)]
    exact this
  refine ⟨fun d hd => ?_, fun d e hde he => ?_, fun d e hed hd => ?_⟩
  · have G := hG d
    have h1 := G.sm (Nat.le_refl _) (Nat.le_refl _)
    have h2 := G.n
    have h3 := hlen d hd
    simp only at h2
    omega
  · obtain ⟨k, hk, G⟩ := step d e (by omega) he
    have := hk hde
    exact ⟨by have := G.n; omega, G.nt, fun ts hts => (G.lv ts (by omega)).2 this⟩
  · obtain ⟨k, hk, G⟩ := step e d hed hd
    have := G.n
    omega
end Mine
end
section
open PySem PySem.W PySem.Spec PySem.Calls PyProof.Rows
set_option maxRecDepth 100000
set_option maxHeartbeats 1000000
namespace Mine
theorem mem_join {sep : List Nat} {k : Nat} : ∀ {ls : List (List Nat)}, k ∈ joinL sep ls → k ∈ sep ∨ ∃ p ∈ ls, k ∈ p
  | [], h => by simp [joinL] at h
  | [a], h => .inr ⟨a, .head _, h⟩
  | a :: b :: r, h => by
    simp only [joinL, List.mem_append] at h
    rcases h with h | h | h
    · exact .inr ⟨a, .head _, h⟩
    · exact .inl h
    · rcases mem_join h with h | ⟨p, hp, hk⟩
      · exact .inl h
      · exact .inr ⟨p, .tail _ hp, hk⟩
theorem join_mem {sep : List Nat} {k : Nat} {p : List Nat} : ∀ {ls : List (List Nat)}, p ∈ ls → k ∈ p → k ∈ joinL sep ls
  | [a], hp, hk => by rw [List.mem_singleton.mp hp] at hk; exact hk
  | a :: b :: r, hp, hk => by
    simp only [joinL, List.mem_append]
    rcases List.mem_cons.mp hp with rfl | hp
    · exact .inl hk
    · exact .inr (.inr (join_mem hp hk))
theorem parts32 {x : List Nat} (h : blank x) : ∀ p ∈ cutL 9 x, ∀ k ∈ p, k = 32 := fun p hp k hk => by
  have h1 := cut_free 9 x p hp
  have h2 : k ∈ x := by rw [← cut_join 9 x]; exact join_mem hp hk
  rcases h k h2 with e | e
  · exact e
  · exact absurd (e ▸ hk) h1
theorem lead_facts (us : List (List Nat)) (hl : us.length = 6) (hU : ∀ u ∈ us, u ∈ menuU) (d i : Nat) (hd : d ≤ 6) : blank (leadL us d i) ∧ wsGo (leadL us d i) ⟨[], 0, 0, 0⟩ = sdU us d ∧ (leadL us d i).length = (sdU us d).n ∧ (leadL us d i).length ≤ 12 := by
  have hT : ∀ u ∈ us.take d, u ∈ menuU := fun u hu => hU u (List.mem_of_mem_take hu)
  have hJb : blank (joinL [] (us.take d)) := by rw [joinE]; exact flat_blank hT
  have hpad : (padU us).take d = us.take d := by unfold padU; rw [List.take_append_of_le_length (by omega)]
  have hsd : sdU us d = wsGo (joinL [] (us.take d)) ⟨[], 0, 0, 0⟩ := by unfold sdU; rw [hpad]
  have hJl : (joinL [] (us.take d)).length ≤ 12 := by
    rw [joinE]
    have := flat_len hT
    rw [List.length_take] at this
    omega
  have hp32 := parts32 hJb
  have hne : leadR us d ≠ [] := cut_ne 9 _
  have hR : joinL [9] (leadR us d) = joinL [] (us.take d) := cut_join 9 _
  have key : blank (leadL us d i) ∧ wsGo (leadL us d i) ⟨[], 0, 0, 0⟩ = sdU us d := by
    unfold leadL
    split
    · constructor
      · intro k hk
        rcases mem_join hk with h | ⟨p, hp, hk⟩
        · exact .inr (List.mem_singleton.mp h)
        · refine .inl (hp32 p ?_ k hk)
          unfold leadO at hp
          rcases List.mem_append.mp hp with hp | hp
          · exact List.dropLast_subset _ (List.mem_reverse.mp hp)
          · exact List.mem_of_mem_drop hp
      · rw [hsd, ← hR]
        exact ws_odd (leadR us d) hne hp32
    · rw [hR]
      exact ⟨hJb, hsd.symm⟩
  have g1 := (ws_grow _ ⟨[], 0, 0, 0⟩ key.1).n
  have g2 := (ws_grow _ ⟨[], 0, 0, 0⟩ hJb).n
  rw [key.2] at g1
  rw [← hsd] at g2
  simp only at g1 g2
  exact ⟨key.1, key.2, by omega, by omega⟩
theorem text_big : ∀ (c : Cl), ∀ k ∈ textL c, 34 ≤ k
  | .leaf k, j, hj => by
    simp only [textL, List.mem_singleton] at hj
    subst hj
    rcases k with _ | _ | k <;> simp [letC]
  | .node o l r, j, hj => by
    simp only [textL, List.mem_cons, List.mem_append, List.not_mem_nil, or_false] at hj
    rcases hj with rfl | h | h | h | rfl
    · omega
    · exact text_big l j h
    · rcases o with _ | _ | _ | _ | _ | o <;> simp [opL] at h <;> omega
    · exact text_big r j h
    · omega
theorem shown_big (so : Bool) (c : Cl) : ∀ k ∈ shownL so c, 34 ≤ k := fun k hk => by
  unfold shownL at hk
  split at hk
  · exact text_big c k hk
  · rcases List.mem_cons.mp hk with rfl | hk
    · omega
    · exact text_big c k hk
noncomputable def lnOf (us : List (List Nat)) (i : Nat) (x : Rw) : Ln := ⟨leadL us x.1 i ++ shownL x.2.1 x.2.2, x.1, shownL x.2.1 x.2.2, valR x⟩
noncomputable def lnsFrom (us : List (List Nat)) : Nat → List Rw → List Ln
  | _, [] => []
  | k, x :: r => lnOf us k x :: lnsFrom us (k + 1) r
noncomputable def linesFrom (us : List (List Nat)) : Nat → List (Nat × List Nat) → List (List Nat)
  | _, [] => []
  | k, q :: r => (leadL us q.1 k ++ q.2) :: linesFrom us (k + 1) r
theorem lns_x (us : List (List Nat)) : ∀ (xs : List Rw) (k : Nat), (lnsFrom us k xs).map (·.x) = linesFrom us k (xs.map showR)
  | [], _ => rfl
  | x :: r, k => by simp only [lnsFrom, List.map_cons, linesFrom, lns_x us r (k + 1)]; rfl
theorem lns_of (us : List (List Nat)) : ∀ (xs : List Rw) (k : Nat), LnsOf (lnsFrom us k xs) xs
  | [], _ => .nil
  | _ :: r, k => .cons rfl rfl rfl (lns_of us r (k + 1))
theorem ln_ok (us : List (List Nat)) (hl : us.length = 6) (hU : ∀ u ∈ us, u ∈ menuU) (i : Nat) (x : Rw) (h1 : x.1 ≤ 6) (h2 : x.2.2.ok) (h3 : (shownL x.2.1 x.2.2).length ≤ 36) : LnOk (sdU us) (lnOf us i x) := by
  obtain ⟨f1, f2, f3, f4⟩ := lead_facts us hl hU x.1 i h1
  refine ⟨?_, ?_, ?_, ?_, fun _ => ?_⟩
  · simp only [lnOf, List.length_append]; omega
  · show x.1 ≤ 20; omega
  · show wsGo (leadL us x.1 i ++ shownL x.2.1 x.2.2) _ = sdU us x.1
    rw [ws_app _ _ _ f1, f2]
    cases e : shownL x.2.1 x.2.2 with
    | nil => exact absurd e (shown_ne _ _)
    | cons k r =>
      have := shown_big x.2.1 x.2.2 k (by rw [e]; exact .head _)
      exact ws_stop k r _ (by omega) (by omega)
  · show (leadL us x.1 i ++ shownL x.2.1 x.2.2).drop (sdU us x.1).n = shownL x.2.1 x.2.2
    rw [← f3, List.drop_left]
  · obtain ⟨fin, e1, e2, e3⟩ := run_tkS x.2.1 x.2.2
    exact ⟨tkS x.2.1 x.2.2, fin, (flat_tkS _ _).symm, e1, ok_tkS _ _ h2, e2, e3⟩
theorem lns_ok (us : List (List Nat)) (hl : us.length = 6) (hU : ∀ u ∈ us, u ∈ menuU) : ∀ (xs : List Rw) (k : Nat), (∀ x ∈ xs, x.1 ≤ 6 ∧ x.2.2.ok ∧ (shownL x.2.1 x.2.2).length ≤ 36) → ∀ ln ∈ lnsFrom us k xs, LnOk (sdU us) ln
  | [], _, _, ln, h => by simp [lnsFrom] at h
  | x :: r, k, hx, ln, h => by
    simp only [lnsFrom, List.mem_cons] at h
    rcases h with rfl | h
    · obtain ⟨a1, a2, a3⟩ := hx x (.head _)
      exact ln_ok us hl hU k x a1 a2 a3
    · exact lns_ok us hl hU r (k + 1) (fun y hy => hx y (.tail _ hy)) ln h
theorem lines_chars (us : List (List Nat)) (hl : us.length = 6) (hU : ∀ u ∈ us, u ∈ menuU) : ∀ (xs : List Rw) (k : Nat), (∀ x ∈ xs, x.1 ≤ 6 ∧ x.2.2.ok ∧ (shownL x.2.1 x.2.2).length ≤ 36) → ∀ p ∈ linesFrom us k (xs.map showR), p.length ≤ 48 ∧ ∀ j ∈ p, j ≠ 10 ∧ j ≠ 13
  | [], _, _, p, h => by simp [linesFrom] at h
  | x :: r, k, hx, p, h => by
    simp only [List.map_cons, linesFrom, List.mem_cons] at h
    rcases h with rfl | h
    · obtain ⟨a1, a2, a3⟩ := hx x (.head _)
      obtain ⟨f1, f2, f3, f4⟩ := lead_facts us hl hU x.1 k a1
      simp only [showR]
      refine ⟨by rw [List.length_append]; omega, fun j hj => ?_⟩
      rcases List.mem_append.mp hj with hj | hj
      · rcases f1 j hj with e | e <;> omega
      · have := shown_big _ _ j hj
        omega
    · exact lines_chars us hl hU r (k + 1) (fun y hy => hx y (.tail _ hy)) p h
theorem lines_len (us : List (List Nat)) : ∀ (qs : List (Nat × List Nat)) (k : Nat), (linesFrom us k qs).length = qs.length
  | [], _ => rfl
  | _ :: r, k => by simp only [linesFrom, List.length_cons, lines_len us r (k + 1)]
theorem sum_le {B : Nat} : ∀ {ls : List (List Nat)}, (∀ p ∈ ls, p.length ≤ B) → sumL ls ≤ ls.length * B
  | [], _ => by simp [sumL]
  | p :: r, h => by
    have ih := sum_le (ls := r) fun q hq => h q (.tail _ hq)
    have e : sumL (p :: r) = p.length + sumL r := by simp [sumL]
    have := h p (.head _)
    rw [e, List.length_cons, Nat.succ_mul]; omega
theorem LIs_of : ∀ (lns : List Ln) {vs : List Value}, SIs vs (lns.map (·.x)) → LIs vs lns
  | [], _, h => by
    have h' : StrsAre _ [] := h
    cases h'
    exact .nil
  | ln :: r, _, h => by
    have h' : StrsAre _ (strL ln.x :: (r.map (·.x)).map strL) := h
    cases h' with
    | cons y t h2 => exact .cons (LIs_of r h2)
/-- the page, and what is read of it -/
theorem page_facts (us : List (List Nat)) (hl : us.length = 6) (hU : ∀ u ∈ us, u ∈ menuU) (so : Bool) (c : Cl) (hok : c.ok) (hsz : c.size = 7) (e : Nat) (he : e = 10 ∨ e = 13) :
    (joinL [e] (linesFrom us 0 ((rowsC so c).map showR))).length ≤ 1000 ∧ cutL e (joinL [e] (linesFrom us 0 ((rowsC so c).map showR))) = (lnsFrom us 0 (rowsC so c)).map (·.x) ∧
    sumL (linesFrom us 0 ((rowsC so c).map showR)) + (linesFrom us 0 ((rowsC so c).map showR)).length * 1 ≤ 1000 := by
  obtain ⟨r1, r2, r3, r4⟩ := rows_facts so c hok hsz
  have hc := lines_chars us hl hU (rowsC so c) 0 r3
  have hlen : (linesFrom us 0 ((rowsC so c).map showR)).length = (rowsC so c).length := by rw [lines_len, List.length_map]
  have hne : linesFrom us 0 ((rowsC so c).map showR) ≠ [] := fun h => by
    rw [h] at hlen
    exact r2 (List.length_eq_zero_iff.mp hlen.symm)
  have hs := sum_le (B := 48) fun p hp => (hc p hp).1
  have hj := joinL_len [e] (linesFrom us 0 ((rowsC so c).map showR))
  simp only [List.length_cons, List.length_nil] at hj
  refine ⟨by omega, ?_, by omega⟩
  rw [lns_x]
  refine join_uniq e _ _ (cut_ne e _) hne (cut_free e _) (fun p hp hep => ?_) (cut_join e _)
  have := (hc p hp).2 e hep
  omega
theorem told_page (us : List (List Nat)) (hl : us.length = 6) (hU : ∀ u ∈ us, u ∈ menuU) (so : Bool) (c : Cl) (hok : c.ok) (hsz : c.size = 7) :
    (∀ ln ∈ lnsFrom us 0 (rowsC so c) ++ [⟨[], 0, [], 0⟩], LnOk (sdU us) ln) ∧ (lnsFrom us 0 (rowsC so c)).length ≤ 500 ∧ Told (lnsFrom us 0 (rowsC so c) ++ [⟨[], 0, [], 0⟩]) [] 0 (M (sgn so c)) := by
  obtain ⟨r1, r2, r3, r4⟩ := rows_facts so c hok hsz
  refine ⟨fun ln h => ?_, ?_, told_all so c _ rfl rfl _ (lns_of us _ 0)⟩
  · rcases List.mem_append.mp h with h | h
    · exact lns_ok us hl hU (rowsC so c) 0 r3 ln h
    · rw [List.mem_singleton.mp h]
      exact ⟨by simp, by simp, rfl, rfl, fun h => absurd rfl h⟩
  · have : ((lnsFrom us 0 (rowsC so c)).map (·.x)).length = (rowsC so c).length := by rw [lns_x, lines_len, List.length_map]
    rw [List.length_map] at this
    omega
end Mine
end
section
open PySem PySem.W PySem.Spec PySem.Calls PyProof.Rows
set_option maxRecDepth 100000
set_option maxHeartbeats 1000000
namespace Mine
noncomputable def JLn (us : List (List Nat)) (rows : List (Nat × List Nat)) (news0 : List (Addr × Obj)) (i : Nat) (ys : List Value) (nw : List (Addr × Obj)) : Prop := nw = news0 ∧ SIs ys ((linesFrom us 0 rows).take i)
theorem lines_at (us : List (List Nat)) : ∀ (rows : List (Nat × List Nat)) (k i : Nat) {d : Nat} {x : List Nat}, rows[i]? = some (d, x) → (linesFrom us k rows)[i]? = some (leadL us d (k + i) ++ x)
  | [], _, _, _, _, h => by simp at h
  | q :: r, k, 0, d, x, h => by
    simp only [List.getElem?_cons_zero, Option.some.injEq] at h
    subst h
    simp [linesFrom]
  | q :: r, k, i + 1, d, x, h => by
    simp only [List.getElem?_cons_succ] at h
    simp only [linesFrom, List.getElem?_cons_succ]
    rw [lines_at us r (k + 1) i h, show k + 1 + i = k + (i + 1) by omega]
theorem RIs.at {news : List (Addr × Obj)} : ∀ {vs : List Value} {rows : List (Nat × List Nat)} {i : Nat} {v : Value}, RIs news vs rows → vs[i]? = some v → ∃ a d x t u, v = .ref a ∧ rows[i]? = some (d, x) ∧ (a, tupO [.int (d : Nat) t, .str ⟨x.toArray⟩ u]) ∈ news
  | _, _, _, _, .nil, h => by simp at h
  | _, _, 0, _, .cons hm r, h => by
    simp only [List.getElem?_cons_zero, Option.some.injEq] at h
    exact ⟨_, _, _, _, _, h.symm, rfl, hm⟩
  | _, _, i + 1, _, .cons hm r, h => by
    simp only [List.getElem?_cons_succ] at h ⊢
    exact RIs.at r h
theorem JLn.step {us : List (List Nat)} {rows : List (Nat × List Nat)} {i d : Nat} {ys : List Value} {x : List Nat} {t : Tok} (h : SIs ys ((linesFrom us 0 rows).take i)) (hr : rows[i]? = some (d, x)) : SIs (ys ++ [.str ⟨(leadL us d i ++ x).toArray⟩ t]) ((linesFrom us 0 rows).take (i + 1)) := by
  have e := lines_at us rows 0 i hr
  rw [Nat.zero_add] at e
  rw [List.take_add_one, e]
  exact SIs.snoc h
noncomputable def V7 : VP := fun m' rest _ _ v3 v4 _ _ => ∃ (c : Cl) (so : Bool) (hand e : Nat) (th te tp : Tok) (vc : Value) (us : List (List Nat)), v3 = some vc ∧ CI rest vc c ∧ c.ok ∧ c.size = 7 ∧ v4 = some (.bool so) ∧ hand < 5 ∧ m' (PySem.Str.ofString "hand") = some (.int (hand : Int) th) ∧ (e = 10 ∨ e = 13) ∧ m' (PySem.Str.ofString "ending") = some (.str (strL [e]) te) ∧ us.length = 6 ∧ (∀ u ∈ us, u ∈ menuU) ∧
  m' (PySem.Str.ofString "page") = some (.str (strL (joinL [e] (linesFrom us 0 ((rowsC so c).map showR)))) tp)
noncomputable def V8 (w : World) : VP := fun m' rest _ _ v3 v4 _ v6 => ∃ (c : Cl) (so : Bool) (hand e : Nat) (th te tp : Tok) (vc dv : Value) (us : List (List Nat)), v3 = some vc ∧ CI rest vc c ∧ c.ok ∧ c.size = 7 ∧ v4 = some (.bool so) ∧ hand < 5 ∧ m' (PySem.Str.ofString "hand") = some (.int (hand : Int) th) ∧ (e = 10 ∨ e = 13) ∧ m' (PySem.Str.ofString "ending") = some (.str (strL [e]) te) ∧ us.length = 6 ∧ (∀ u ∈ us, u ∈ menuU) ∧
  m' (PySem.Str.ofString "page") = some (.str (strL (joinL [e] (linesFrom us 0 ((rowsC so c).map showR)))) tp) ∧ v6 = some dv ∧ DictAt w hand rest dv
theorem DictAt.via {w : World} {hand : Nat} {all big : List (Addr × Obj)} {v : Value} (h : DictAt w hand all v) (hs : ∀ p ∈ all, Mine.nc p = true → p ∈ big) : DictAt w hand big v := by
  obtain ⟨d, o, kvs, e, lo, hm, hE, hK⟩ := h
  refine ⟨d, o, kvs, e, lo, hs _ hm ?_, hE, hK⟩
  obtain ⟨_, ep, hd⟩ := hE
  unfold Mine.nc
  rw [hd]
theorem look_same (ps qs : List (Nat × List Nat)) (h1 : (ps.all fun p => lookS qs p.1 == p.2) = true) (h2 : (qs.all fun p => lookS ps p.1 == p.2) = true) (k : Nat) : lookS ps k = lookS qs k := by
  rcases look_cases ps k with h | ⟨h, _⟩
  · have := List.all_eq_true.mp h1 _ h
    exact (beq_iff_eq.mp this).symm
  · rcases look_cases qs k with g | ⟨g, _⟩
    · have := List.all_eq_true.mp h2 _ g
      exact beq_iff_eq.mp this
    · rw [h, g]
theorem look_DP (hand k : Nat) : lookS (spD hand) k = lookS (spP hand) k := by
  rcases hand with _ | _ | _ | _ | hand
  rotate_left 4
  · change lookS (spD 4) k = lookS (spP 4) k
    exact look_same _ _ (by decide +kernel) (by decide +kernel) k
  all_goals exact look_same _ _ (by decide +kernel) (by decide +kernel) k
theorem kvs_val {kvs : List (Value × Value)} {ps : List (Nat × List Nat)} (h : KvsOk kvs ps) (c : Nat) (t : Tok) : ∃ t', (valueAt (strPairs kvs) (strL [c])).getD (.str (strL [c]) t) = .str (strL (lookS ps c)) t' := by
  induction h with
  | nil => exact ⟨t, rfl⟩
  | @cons c0 z x y t0 u r ps h1 h2 _ _ _ _ ih =>
    obtain ⟨t', e⟩ := ih
    simp only [strPairs, valueAt, List.find?_cons, lookS] at e ⊢
    have e1 : x = strL [c0] := h1
    by_cases hc : c = c0
    · subst hc
      rw [if_pos rfl]
      have : decide (x = strL [c]) = true := decide_eq_true e1
      rw [this]
      exact ⟨u, by rw [h2]; rfl⟩
    · rw [if_neg hc]
      have : decide (x = strL [c]) = false := decide_eq_false fun e2 => hc (by
        rw [e1] at e2
        have := congrArg (fun s : Str => s.cps.toList) e2
        simpa [strL] using this.symm)
      rw [this]
      exact ⟨t', e⟩
section
variable {w : World} {A : Around} {E : Value → Shared → Prop} {s : Shared} {h₀ : Heap} {L : Addr} {m : Str → Option Value} {news : List (Addr × Obj)}
theorem get_sign {hand c : Nat} {d : Addr} {t t2 : Tok} {Q : Value → Shared → Prop} (N : News h₀ L s.heap news) (hD : DictAt w hand news (.ref d))
    (h : ∀ t' tk, Q (.str ⟨(lookS (spP hand) c).toArray⟩ t') { s with toks := tk }) : wpAny (model PySem.Challenge.rw_tp0054_01.row.prog w) A (call (.builtin "dict.get") [.ref d, .str ⟨#[c]⟩ t, .str ⟨#[c]⟩ t2]) Q E s := by
  obtain ⟨d', o, kvs, e, lo, hm, hE, hK⟩ := hD
  cases e
  have hds := ents_dict (prog := PySem.Challenge.rw_tp0054_01.row.prog) (w := w) hE (kvs_str hK) (by rw [kvs_keys hK]; exact spD_nodup hand)
  have hDO := kda_dict N hm hds
  obtain ⟨t', e⟩ := kvs_val hK c t2
  refine call_meetsIn PySem.F.slot_dict_get hDO.typeIs PySem.F.entry_dict_get (PySem.F.args_dict_get_3 _ _ _) (meets_dict_get_default (PySem.strKind _ _) d (strKind_is _ _ _ _) lo _) ⟨_, hDO.mapOf, ?_⟩
  have e' : (valueAt (strPairs kvs) (⟨#[c]⟩ : Str)).getD (.str ⟨#[c]⟩ t2) = .str ⟨(lookS (spP hand) c).toArray⟩ t' := by
    rw [← look_DP]; exact e
  show Q _ _
  rw [e']
  exact h t' _
theorem get_meth {hand : Nat} {d : Addr} {pl : Sem Bool} {Q : Value × List Value → Shared → Prop} (N : News h₀ L s.heap news) (hD : DictAt w hand news (.ref d)) (h : Q (.builtin "dict.get", [.ref d]) s) :
    wpAny (model PySem.Challenge.rw_tp0054_01.row.prog w) A (getMethod (.ref d) (PySem.Str.ofString "get") pl) Q E s := by
  obtain ⟨d', o, kvs, e, lo, hm, hE, hK⟩ := hD
  cases e
  have hds := ents_dict (prog := PySem.Challenge.rw_tp0054_01.row.prog) (w := w) hE (kvs_str hK) (by rw [kvs_keys hK]; exact spD_nodup hand)
  exact kob_method PySem.F.slot_dict_get PySem.F.type_dict_get N hm hds h
end
theorem DictAt.mono {w : World} {hand : Nat} {all big : List (Addr × Obj)} {v : Value} (h : DictAt w hand all v) (hs : ∀ p ∈ all, p ∈ big) : DictAt w hand big v := h.via fun p hp _ => hs p hp
theorem DictAt.ref {w : World} {hand : Nat} {all : List (Addr × Obj)} {v : Value} (h : DictAt w hand all v) : ∃ d, v = .ref d := let ⟨d, _, _, e, _⟩ := h; ⟨d, e⟩
noncomputable def JSg (hand : Nat) (P : List Nat) (news0 : List (Addr × Obj)) (i : Nat) (ys : List Value) (nw : List (Addr × Obj)) : Prop := nw = news0 ∧ SIs ys ((P.take i).map (lookS (spP hand)))
theorem JSg.step {hand : Nat} {P : List Nat} {i c : Nat} {ys : List Value} {t : Tok} (h : SIs ys ((P.take i).map (lookS (spP hand)))) (hc : P[i]? = some c) : SIs (ys ++ [.str ⟨(lookS (spP hand) c).toArray⟩ t]) ((P.take (i + 1)).map (lookS (spP hand))) := by
  rw [List.take_add_one, hc, List.map_append]
  exact SIs.snoc h
theorem join_multi (hand : Nat) (P : List Nat) : joinL [] (P.map (lookS (spP hand))) = multi (spP hand) P := by
  rw [joinE, multi_flat _ (spP_good hand), List.flatMap]
theorem sum_look (hand : Nat) (P : List Nat) : sumL (P.map (lookS (spP hand))) ≤ 6 * P.length := by
  have h : ∀ ls : List (List Nat), sumL ls = ls.flatten.length := fun ls => by
    induction ls with
    | nil => rfl
    | cons a r ih =>
      have e : sumL (a :: r) = a.length + sumL r := by simp [sumL]
      rw [e, ih, List.flatten_cons, List.length_append]
  rw [h, ← joinE, join_multi]
  exact multi_len _ (spP_good hand) P
noncomputable def V9 (w : World) : VP := fun m' rest _ _ v3 v4 _ v6 => ∃ (c : Cl) (so : Bool) (hand e : Nat) (th te tp ts : Tok) (vc dv : Value) (us : List (List Nat)), v3 = some vc ∧ CI rest vc c ∧ c.ok ∧ c.size = 7 ∧ v4 = some (.bool so) ∧ hand < 5 ∧ m' (PySem.Str.ofString "hand") = some (.int (hand : Int) th) ∧ (e = 10 ∨ e = 13) ∧ m' (PySem.Str.ofString "ending") = some (.str (strL [e]) te) ∧ us.length = 6 ∧ (∀ u ∈ us, u ∈ menuU) ∧
  m' (PySem.Str.ofString "page") = some (.str (strL (joinL [e] (linesFrom us 0 ((rowsC so c).map showR)))) tp) ∧ v6 = some dv ∧ DictAt w hand rest dv ∧ m' (PySem.Str.ofString "sent") = some (.str (strL (multi (spP hand) (joinL [e] (linesFrom us 0 ((rowsC so c).map showR))))) ts)
noncomputable def V10 (w : World) : VP := V9 w
noncomputable def V11 (_ : World) : VP := fun m' rest _ _ v3 v4 _ _ => ∃ (c : Cl) (so : Bool) (tt : Tok) (vc : Value), v3 = some vc ∧ CI rest vc c ∧ c.ok ∧ c.size = 7 ∧ v4 = some (.bool so) ∧ m' (PySem.Str.ofString "told") = some (.int (M (sgn so c)) tt)
theorem bv_eq {prog : Program} {w : World} {A : Around} {E : Value → Shared → Prop} {s : Shared} {v : Value} {b so : Bool} {Q : Value → Shared → Prop} (hv : BV v b) (h : Q (.bool (b == so)) s) : wpAny (model prog w) A (compareOp .Eq v (.bool so)) Q E s := by
  cases hv
  · refine PySem.EqBoolInt.eq_int_bool ?_
    have e : ((if b = true then (1 : Int) else 0) == (if so = true then 1 else 0)) = (b == so) := by cases b <;> cases so <;> rfl
    first | (rw [e]; exact h) | (simp only [e]; exact h)
  · exact eq_bool h
noncomputable def powL (f : Nat → Bool) : Nat → List Int
  | 0 => []
  | i + 1 => powL f i ++ if f i then [2 ^ i] else []
theorem pow8 : ∀ a b c d e f g h : Bool, List.sum (α := Int) ((((((((([] ++ if a then [2 ^ 0] else []) ++ if b then [2 ^ 1] else []) ++ if c then [2 ^ 2] else []) ++ if d then [2 ^ 3] else []) ++ if e then [2 ^ 4] else []) ++ if f then [2 ^ 5] else []) ++ if g then [2 ^ 6] else []) ++ if h then [2 ^ 7] else []) : List Int) = (((a).toNat + (2 * (b).toNat + (4 * (c).toNat + (8 * (d).toNat + (16 * (e).toNat + (32 * (f).toNat + (64 * (g).toNat + 128 * (h).toNat)))))) : Nat) : Int) := by decide +kernel
theorem pow_sum (f : Nat → Bool) : (powL f 8).sum = M f := pow8 _ _ _ _ _ _ _ _
noncomputable def JRow (f : Nat → Bool) (news0 : List (Addr × Obj)) (i : Nat) (ys : List Value) (nw : List (Addr × Obj)) : Prop := nw = news0 ∧ IntsAre ys (powL f i)
theorem JRow.yes {f : Nat → Bool} {i : Nat} {ys : List Value} {n : Int} {t : Tok} (h : IntsAre ys (powL f i)) (hf : f i = true) (hn : n = 2 ^ i) : IntsAre (ys ++ [.int n t]) (powL f (i + 1)) := by
  subst hn
  simp only [powL, hf, if_true]
  exact ints_app (.cons _ _ .nil) h
theorem JRow.no {f : Nat → Bool} {i : Nat} {ys : List Value} (h : IntsAre ys (powL f i)) (hf : f i = false) : IntsAre ys (powL f (i + 1)) := by
  simp only [powL, hf, Bool.false_eq_true, if_false, List.append_nil]
  exact h
theorem tests_one {prog : Program} {w : World} {A : Around} {c : Expr} {env : Env} {k : Bool → Shared → Prop} {E : Value → Shared → Prop} {s : Shared} (h : wpAny (model prog w) A (isTrue c env (eval c env)) k E s) : Tests prog w A [c] env k E s := h
end Mine
end
section
open PySem PySem.W PySem.Spec PySem.Calls PyProof.Rows
set_option maxRecDepth 100000
set_option maxHeartbeats 4000000
namespace Mine
theorem laW18 : True := by
  k_with_none
  k_with "execs cons" => (k_here; first | k_gentoks | (with_reducible refine exq ?_; intro Q9 hQ9))
  k_with "k_unfold" => (with_reducible refine hQ9 _ _ ?_; clear hQ9)
  trivial
section
theorem ln135 : True := by
  k_with "tb_start" => first | with_reducible assumption | with_reducible exact List.mem_cons_self | (refine' List.mem_cons_of_mem _ ?_; tb_start) | ((with_reducible apply Sub.mem); (with_reducible assumption); tb_start)
  trivial
theorem ln136 : True := by
  k_with "k_all" => first | with_reducible assumption | exact fun p hp => Nat.ne_of_lt ((by with_reducible assumption : ∀ q ∈ _, q.1 < _) p hp) | exact allLt_to (by with_reducible assumption) | exact allLt_to (And.right (by with_reducible assumption))
  trivial
theorem ln137 : True := by
  k_with "eval Name" => (k_here; (with_reducible show wpAny _ _ (eval (Expr.Name _ _) (LCg.compEnvC _ _ _ _)) _ _ _); k_dflt (refine' lcf_cell ?z136N ?z136c ?z136m ?z136d ?_ ?z136a ?z136b; (case z136a => rfl); (case z136b => rfl); (case z136N => k_asm); (case z136c => rfl); (case z136m => tb_start); (case z136d => with_reducible assumption); k_whole))
  trivial
theorem ln138 : True := by
  k_with "call builtin:sum" => (k_here; k_dflt (refine' sum_L ?z137k1 ?z137k2 ?z137k3 ?z137k4 ?z137k5 ?_; (case z137k1 => rfl); (case z137k2 => k_asm); (case z137k3 => k_asm); (case z137k4 => tb_start); (case z137k5 => with_reducible assumption); k_whole; intro h' tk' t' n' F' N'))
  trivial
theorem ln139 : True := by
  k_with "subscriptTail Name Slice ref ref" => (k_here; k_dflt (refine' cut5 (s := ⟨_, _, _, _, _⟩) ?z138k1 ?z138k2 ?z138k3 ?z138k4 ?z138k5 ?z138k8 ?_ ?z138k6 ?z138k7; (case z138k1 => k_asm); (case z138k2 => k_asm); (case z138k3 => tb_start); (case z138k4 => with_reducible assumption); (case z138k5 => omega); (case z138k8 => decide); (case z138k6 => with_unfolding_all rfl); (case z138k7 => intro _; with_unfolding_all rfl); k_whole; intro x' h' zs' hzs' F' N' l1'))
  trivial
theorem ln140 : True := by
  k_with "storeName" => (k_here; k_dflt (first
  | (refine' store_reg _ 1 ?z139kF ?z139kN (six_ok ?z139h1 ?z139h2 ?z139h3 ?z139h4 ?z139h5 ?z139h6 ?z139d1 ?z139d2 ?z139d3 ?z139d4 ?z139d5 ?z139d6) six_ap ?z139ki ?z139kc ?_ ?z139kk ?z139kx; (case z139ki => exact rfl); (case z139kF => k_asm); (case z139kc => exact rfl); (case z139kk => exact rfl); (case z139kx => exact rfl); (case z139kN => k_asm); (case z139h1 => tb_start); (case z139h2 => tb_start); (case z139h3 => tb_start); (case z139h4 => tb_start); (case z139h5 => tb_start); (case z139h6 => tb_start); (case z139d1 => with_reducible assumption); (case z139d2 => with_reducible assumption); (case z139d3 => with_reducible assumption); (case z139d4 => with_reducible assumption); (case z139d5 => with_reducible assumption); (case z139d6 => with_reducible assumption); k_whole)
  | (refine' store_reg _ 2 ?z139kF ?z139kN (six_ok ?z139h1 ?z139h2 ?z139h3 ?z139h4 ?z139h5 ?z139h6 ?z139d1 ?z139d2 ?z139d3 ?z139d4 ?z139d5 ?z139d6) six_ap ?z139ki ?z139kc ?_ ?z139kk ?z139kx; (case z139ki => exact rfl); (case z139kF => k_asm); (case z139kc => exact rfl); (case z139kk => exact rfl); (case z139kx => exact rfl); (case z139kN => k_asm); (case z139h1 => tb_start); (case z139h2 => tb_start); (case z139h3 => tb_start); (case z139h4 => tb_start); (case z139h5 => tb_start); (case z139h6 => tb_start); (case z139d1 => with_reducible assumption); (case z139d2 => with_reducible assumption); (case z139d3 => with_reducible assumption); (case z139d4 => with_reducible assumption); (case z139d5 => with_reducible assumption); (case z139d6 => with_reducible assumption); k_whole)
  | (refine' store_reg _ 3 ?z139kF ?z139kN (six_ok ?z139h1 ?z139h2 ?z139h3 ?z139h4 ?z139h5 ?z139h6 ?z139d1 ?z139d2 ?z139d3 ?z139d4 ?z139d5 ?z139d6) six_ap ?z139ki ?z139kc ?_ ?z139kk ?z139kx; (case z139ki => exact rfl); (case z139kF => k_asm); (case z139kc => exact rfl); (case z139kk => exact rfl); (case z139kx => exact rfl); (case z139kN => k_asm); (case z139h1 => tb_start); (case z139h2 => tb_start); (case z139h3 => tb_start); (case z139h4 => tb_start); (case z139h5 => tb_start); (case z139h6 => tb_start); (case z139d1 => with_reducible assumption); (case z139d2 => with_reducible assumption); (case z139d3 => with_reducible assumption); (case z139d4 => with_reducible assumption); (case z139d5 => with_reducible assumption); (case z139d6 => with_reducible assumption); k_whole)
  | (refine' store_reg _ 4 ?z139kF ?z139kN (six_ok ?z139h1 ?z139h2 ?z139h3 ?z139h4 ?z139h5 ?z139h6 ?z139d1 ?z139d2 ?z139d3 ?z139d4 ?z139d5 ?z139d6) six_ap ?z139ki ?z139kc ?_ ?z139kk ?z139kx; (case z139ki => exact rfl); (case z139kF => k_asm); (case z139kc => exact rfl); (case z139kk => exact rfl); (case z139kx => exact rfl); (case z139kN => k_asm); (case z139h1 => tb_start); (case z139h2 => tb_start); (case z139h3 => tb_start); (case z139h4 => tb_start); (case z139h5 => tb_start); (case z139h6 => tb_start); (case z139d1 => with_reducible assumption); (case z139d2 => with_reducible assumption); (case z139d3 => with_reducible assumption); (case z139d4 => with_reducible assumption); (case z139d5 => with_reducible assumption); (case z139d6 => with_reducible assumption); k_whole)
  | (refine' store_reg _ 5 ?z139kF ?z139kN (six_ok ?z139h1 ?z139h2 ?z139h3 ?z139h4 ?z139h5 ?z139h6 ?z139d1 ?z139d2 ?z139d3 ?z139d4 ?z139d5 ?z139d6) six_ap ?z139ki ?z139kc ?_ ?z139kk ?z139kx; (case z139ki => exact rfl); (case z139kF => k_asm); (case z139kc => exact rfl); (case z139kk => exact rfl); (case z139kx => exact rfl); (case z139kN => k_asm); (case z139h1 => tb_start); (case z139h2 => tb_start); (case z139h3 => tb_start); (case z139h4 => tb_start); (case z139h5 => tb_start); (case z139h6 => tb_start); (case z139d1 => with_reducible assumption); (case z139d2 => with_reducible assumption); (case z139d3 => with_reducible assumption); (case z139d4 => with_reducible assumption); (case z139d5 => with_reducible assumption); (case z139d6 => with_reducible assumption); k_whole)); intro h' o' rest' F' N' d' hin' hn'; (try dsimp only [List.set, List.cons_append, List.nil_append] at N'))
  trivial
theorem ln141 : True := by
  k_with "call ref" => (k_here; k_dflt (first
  | (refine' ConU.use (joined_ _ _ _ _ _ _ _ _ _ _ _ ?z140km) ?z140k1 ?z140k2 ?z140k3 ?z140k4 ?z140k5 ?z140k6 ?z140k7 ?z140k8 ?_; (case z140k1 => k_asm); (case z140k2 => k_asm); (case z140k3 => k_asm); (case z140k4 => k_asm); (case z140k5 => k_asm); (case z140k6 => first | exact rfl | assumption); (case z140km => tb_start); (case z140k7 => ktr_room); (case z140k8 => ktr_units); k_whole; intro r9 big9 h9 tk9 F9 N9 hs9 ho9; (have hS9 := Sub.mk hs9); clear hs9; (try dsimp only); (try k_fold))))
  trivial
theorem ln142 : True := by
  k_with "eval Name" => (k_here; (with_reducible show wpAny _ _ (eval (Expr.Name _ _) (envOfC _ _ _ _ _)) _ _ _); k_dflt (refine' nameX_C ?z141N ?z141c ?z141m ?z141d ?_ ?z141a ?z141b ?z141e; (case z141b => exact rfl); (case z141a => exact rfl); (case z141e => decide); (case z141N => k_asm); (case z141c => exact rfl); (case z141m => tb_start); (case z141d => with_reducible assumption); k_whole))
  trivial
theorem ln143 : True := by
  k_with "subscriptTail Name Constant ref int" => (k_here; (with_reducible show wpAny _ _ (subscriptTail _ _ (Value.ref _) (Value.int _ _)) _ _ _); k_dflt (refine' lst_item ?z142k1 ?z142k2 ?z142k3 ?z142k4 ?z142k5 ?_ ?z142k6; (case z142k1 => k_asm); (case z142k2 => tb_start); (case z142k3 => decide); (case z142k4 => decide); (case z142k5 => exact rfl); (case z142k6 => with_unfolding_all rfl); k_whole))
  trivial
theorem ln144 : True := by
  k_with "assign Tuple" => (k_here; k_dflt (refine' assign3 ?z143k1 ?z143k2 ?z143k3 ?z143k4 ?_; (case z143k1 => exact rfl); (case z143k2 => k_asm); (case z143k3 => k_asm); (case z143k4 => exact .head _); k_whole; intro h' F' N'))
  trivial
theorem ln145 : True := by
  k_with "subscriptTail Name BinOp ref int" => (k_here; k_dflt (refine' pick_int ?z144k1 ?z144k2 ?z144k3 ?z144k4 ?z144k5 ?z144k6 ?_ ?z144k7; (case z144k1 => k_asm); (case z144k2 => tb_start); (case z144k3 => with_reducible assumption); (case z144k4 => simp); (case z144k5 => with_reducible assumption); (case z144k6 => with_reducible assumption); (case z144k7 => with_unfolding_all rfl); k_whole; intro n9 t9))
  trivial
theorem ln146 : True := by
  k_with "subscriptTail List cons BinOp ref int" => (k_here; k_dflt (refine' pick4 ?z145k1 ?z145k2 ?_ ?z145k3; (case z145k1 => k_asm); (case z145k2 => tb_start); (case z145k3 => with_unfolding_all rfl); k_whole; intro o9 t9 ho9))
  trivial
theorem ln147 : True := by
  k_with "newList" => (k_here; k_dflt (refine' newList_K ?z146k1 ?z146k2 ?_; (case z146k1 => k_asm); (case z146k2 => k_asm); k_whole); intro l' h' F' N' l1)
  trivial
theorem ln148 : True := by
  k_with "call ref" => (k_here; (with_reducible show wpAny _ _ (call (Value.ref 172) _) _ _ _); k_dflt (
  refine' Con.use0 (shown_ _ _ (CI.mono (by assumption) ?z147kS) ?z147kZ) ?z147k1 ?z147k2 ?z147k3 ?z147k4 ?z147k5 ?z147k6 ?z147k7 ?z147k8 ?_; (case z147k1 => k_asm); (case z147k2 => k_asm); (case z147k3 => k_asm); (case z147k4 => k_asm); (case z147k5 => k_asm); (case z147k6 => first | exact rfl | assumption); (case z147k7 => ktr_room); (case z147k8 => ktr_units); (case z147kS => (intro p9 hp9; tb_start)); (case z147kZ => omega); k_whole; intro t9 h9 tk9 F9 N9; (try dsimp only); (try k_fold)))
  trivial
theorem ln149 : True := by
  k_with "call ref" => (k_here; (with_reducible show wpAny _ _ (call (Value.ref 177) _) _ _ _); k_dflt (
  refine' ConU.use (IHB.use (n := 8) (broken_ _ 8 (by decide)) ?z148km (TIs.cons ?z148kt (CI.mono (by with_reducible assumption) ?z148kS) .nil) ?z148kk ?z148ke ?z148kl) ?z148k1 ?z148k2 ?z148k3 ?z148k4 ?z148k5 ?z148k6 ?z148k7 ?z148k8 ?_; (case z148k1 => k_asm); (case z148k2 => k_asm); (case z148k3 => k_asm); (case z148k4 => k_asm); (case z148k5 => k_asm); (case z148k6 => first | exact rfl | assumption); (case z148km => tb_start); (case z148kt => tb_start); (case z148kS => (intro p9 hp9; tb_start)); (case z148kk => exact rfl); (case z148ke => with_reducible assumption); (case z148kl => ((simp only [List.length_cons, List.length_nil]); omega)); (case z148k7 => ktr_room); (case z148k8 => ktr_units); k_whole; intro r9 big9 h9 tk9 F9 N9 hs9 ho9; obtain ⟨a9, vs9, ep9, e9, hm9, hr9⟩ := ho9; subst e9; (have hS9 := Sub.mk hs9); (have hl9 := RIs.le hr9 (by decide)); clear hs9; (try dsimp only); (try k_fold)))
  trivial
theorem ln150 : True := by
  k_with "binaryOp Add ref ref" => (k_here; k_dflt (refine' lst_addO ?z149k1 ?z149k2 ?z149k3 ?z149k4 ?z149k5 ?_; (case z149k1 => k_asm); (case z149k2 => k_asm); (case z149k3 => tb_start); (case z149k4 => tb_start); (case z149k5 => ((try simp only [List.length_append, List.length_cons, List.length_nil]); omega)); k_whole; intro x' h' F' N' l1'))
  trivial
theorem ln151 : True := by
  k_with "call ref" => (k_here; (with_reducible show wpAny _ _ (call (Value.ref 184) _) _ _ _); k_dflt (
  refine' ConU.use (line_ _ _ _ _ _ _ _ _ ?z150km ?z150kS ?z150ku ?z150kr ?z150kt ?z150kz) ?z150k1 ?z150k2 ?z150k3 ?z150k4 ?z150k5 ?z150k6 ?z150k7 ?z150k8 ?_; (case z150k1 => k_asm); (case z150k2 => k_asm); (case z150k3 => k_asm); (case z150k4 => k_asm); (case z150k5 => k_asm); (case z150k6 => first | exact rfl | assumption); (case z150km => tb_start); (case z150kS => with_reducible assumption); (case z150kr => tb_start); (case z150ku => omega); (case z150kt => with_reducible assumption); (case z150kz => with_reducible assumption); (case z150k7 => ktr_room); (case z150k8 => ktr_units); k_whole; intro r9 big9 h9 tk9 F9 N9 hs9 ho9; obtain ⟨t9, e9⟩ := ho9; subst e9; (have hS9 := Sub.mk hs9); clear hs9; (try dsimp only); (try k_fold)))
  trivial
theorem ln152 : True := by
  k_with "call ref" => (k_here; (with_reducible show wpAny _ _ (call (Value.ref 146) _) _ _ _); k_dflt (
  refine' ConU.use (spelled_ _ _ ?z151kh _) ?z151k1 ?z151k2 ?z151k3 ?z151k4 ?z151k5 ?z151k6 ?z151k7 ?z151k8 ?_; (case z151k1 => k_asm); (case z151k2 => k_asm); (case z151k3 => k_asm); (case z151k4 => k_asm); (case z151k5 => k_asm); (case z151k6 => first | exact rfl | assumption); (case z151kh => with_reducible assumption); (case z151k7 => ktr_room); (case z151k8 => ktr_units); k_whole; intro r9 big9 h9 tk9 F9 N9 hs9 ho9; (have hS9 := Sub.mk hs9); clear hs9; (try dsimp only); (try k_fold)))
  trivial
theorem ln153 : True := by
  k_with "call ref" => (k_here; (with_reducible show wpAny _ _ (call (Value.ref 139) _) _ _ _); k_dflt (
  refine' Con.use0 (sent_ _ _ _ _ _ _ ?z152kh ?z152kl) ?z152k1 ?z152k2 ?z152k3 ?z152k4 ?z152k5 ?z152k6 ?z152k7 ?z152k8 ?_; (case z152k1 => k_asm); (case z152k2 => k_asm); (case z152k3 => k_asm); (case z152k4 => k_asm); (case z152k5 => k_asm); (case z152k6 => first | exact rfl | assumption); (case z152kh => with_reducible assumption); (case z152kl => with_reducible assumption); (case z152k7 => ktr_room); (case z152k8 => ktr_units); k_whole; intro t9 h9 tk9 F9 N9; (try dsimp only); (try k_fold)))
  trivial
theorem ln154 : True := by
  k_with "call ref" => (k_here; (with_reducible show wpAny _ _ (call (Value.ref 205) _) _ _ _); k_dflt (
  refine' Con.use1 (so_ _ _ _ ?z153kr (CI.mono (by assumption) ?z153kS)) ?z153k1 ?z153k2 ?z153k3 ?z153k4 ?z153k5 ?z153k6 ?z153k7 ?z153k8 ?_; (case z153k1 => k_asm); (case z153k2 => k_asm); (case z153k3 => k_asm); (case z153k4 => k_asm); (case z153k5 => k_asm); (case z153k6 => first | exact rfl | assumption); (case z153k7 => ktr_room); (case z153k8 => ktr_units); (case z153kr => with_reducible assumption); (case z153kS => (intro p9 hp9; tb_start)); k_whole; intro r9 h9 tk9 hv9 F9 N9; (try dsimp only); (try k_fold)))
  trivial
theorem law_walk : PySem.Challenge.rw_tp0054_01.Holds := hd (by rfl) (by rfl) (by rfl) (by
  w_strict (
  k_go0
  (all_goals try k_fold)
  (with_reducible rename World => ww)
  repeat' ((fail_if_success (with_reducible show wpAny _ _ (exec (Stmt.Assign _ _ _) _) _ _ _)); first | (k_unfold; (try dsimp only)) | (k_end; kc_close) | walk1 | (dsimp only; walk1) | (leave1; walk_say "STEP leave1"; (try dsimp only)) | fail "no step")
  (with_reducible rename Fr _ _ _ _ => FF)
  refine law_aft V1 FF ?now1 ?after1
  case now1 =>
    repeat' ((fail_if_success (with_reducible show Aft _ _ _ _ _ _)); first | (k_unfold; (try dsimp only)) | (k_end; kc_close) | walk1 | (dsimp only; walk1) | (leave1; walk_say "STEP leave1"; (try dsimp only)) | fail "no step")
    (with_reducible rename IntsAre _ (List.map _ _) => hI8)
    (with_reducible rename Fr _ _ _ _ => FFe)
    (with_reducible rename News _ _ _ _ => NNe)
    have hcl := hI8.length
    rw [List.length_map, List.length_take] at hcl

    refine' LSt.aft FFe NNe ?h1s1 ?h2s1 ?h3s1 ?h4s1 ?h5s1 ?h6s1 ?d1s1 ?d2s1 ?d3s1 ?d4s1 ?d5s1 ?d6s1 ⟨_, _, rfl, nc_mem ?hms1 rfl, intsL_of hI8, ?hzs1⟩
    case h1s1 => tb_start
    case h2s1 => tb_start
    case h3s1 => tb_start
    case h4s1 => tb_start
    case h5s1 => tb_start
    case h6s1 => tb_start
    case d1s1 => with_reducible assumption
    case d2s1 => with_reducible assumption
    case d3s1 => with_reducible assumption
    case d4s1 => with_reducible assumption
    case d5s1 => with_reducible assumption
    case d6s1 => with_reducible assumption
    case hms1 => tb_start
    case hzs1 => omega
  clear FF
  intro h' tk m' v1 v2 v3 v4 v5 v6 o1 o2 o3 o4 o5 o6 rest F' N' d1 d2 d3 d4 d5 d6 q1 q2 q3 q4 q5 q6 hV
  obtain ⟨D1, ys1, e1, hm1, hI1, hl1⟩ := hV
  subst e1
  repeat' ((fail_if_success (with_reducible show wpAny _ _ (exec (Stmt.Assign _ _ _) _) _ _ _)); first | (k_unfold; (try dsimp only)) | (k_end; kc_close) | walk1 | (dsimp only; walk1) | (leave1; walk_say "STEP leave1"; (try dsimp only)) | fail "no step")
  (with_reducible rename Fr _ _ _ _ => FF)
  refine law_aft V2 FF ?now2 ?after2
  case now2 =>
    k_dflt (refine' wpAny_Assign_Name ?kgs2 ?kss2; (case kss2 => with_unfolding_all rfl); k_whole)
    k_dflt (refine' comp_J FF ?k1s2 ?k2s2 ?k3s2 ?k4s2 ?k5s2 ?_ ?k6s2; (case k1s2 => decide); (case k2s2 => with_unfolding_all rfl); (case k3s2 => decide); (case k4s2 => rfl); (case k5s2 => decide); (case k6s2 => intro _; rfl); k_whole)
    repeat' ((fail_if_success (with_reducible show wpAny _ _ (call (Value.type "enumerate") _) _ _ _)); first | (k_unfold; (try dsimp only)) | (k_end; kc_close) | walk1 | (dsimp only; walk1) | (leave1; walk_say "STEP leave1"; (try dsimp only)) | fail "no step")
    (with_reducible rename Fr _ _ _ _ => FF1)
    (with_reducible rename News _ _ _ _ => NN1)
    refine' comp_enum (ep := 0) ?k1s2 ?k2s2 ?k3s2 ?k4s2 ?k5s2 FF1 NN1 (.head _) ?k6s2 JInt ?k7s2 ?k8s2 ?turns2 ?fins2
    case k1s2 => rfl
    case k2s2 => rfl
    case k3s2 => rfl
    case k4s2 => rfl
    case k5s2 => decide
    case k6s2 => simp
    case k7s2 => exact ⟨fun v hv => (nomatch hv), rfl, rfl⟩
    case k8s2 => exact fun i ys nw hJ => ⟨fun p hp => hJ.2.2.symm ▸ hp⟩
    case turns2 =>
      intro I g hI i ys' news₁ C oC D m₂ h tk its E' hi hJ hits hoC hB F₁ N₁ off₁ hCw hDw hCD
      obtain ⟨oI, oI2, rfl⟩ := its2 hits
      obtain ⟨v, u, hv, e1, e2⟩ := hB
      obtain ⟨j1, j2, j3⟩ := hJ
      subst j3
      obtain ⟨n5, t5, rfl⟩ : ∃ n t, v = .int n t := by
        rcases i with _ | _ | _ | _ | _ | i
        · exact ⟨_, _, by simpa using hv.symm⟩
        · exact ⟨_, _, by simpa using hv.symm⟩
        · exact ⟨_, _, by simpa using hv.symm⟩
        · exact ⟨_, _, by simpa using hv.symm⟩
        · exact ⟨_, _, by simpa using hv.symm⟩
        · exact absurd hi (by simp)
      refine tests_nil ?_
      dsimp only [List.cons_append, List.nil_append] at N₁ ⊢
      repeat' ((fail_if_success (with_reducible show CEnd _ _ _ _ _ _ _)); first | (k_unfold; (try dsimp only)) | (k_end; kc_close) | walk1 | (dsimp only; walk1) | (leave1; walk_say "STEP leave1"; (try dsimp only)) | fail "no step")
      (with_reducible rename Fr _ _ _ _ => FFe)
      (with_reducible rename News _ _ _ _ => NNe)
      refine CEnd.intro FFe NNe _ (fun p hp => List.mem_cons_of_mem _ hp) off₁ ⟨?kas2, ?kbs2, rfl⟩
      case kas2 =>
        intro v hv
        rcases List.mem_append.mp hv with hv | hv
        · exact j1 v hv
        · exact ⟨_, _, List.mem_singleton.mp hv⟩
      case kbs2 => simp [j2]
    case fins2 =>
      intro D h tk ys' news' F' N' oD hJ
      obtain ⟨j1, j2, rfl⟩ := hJ
      obtain ⟨n0, n1, n2, n3, n4, t0, t1, t2, t3, t4, rfl⟩ := five j1 j2
      repeat' ((fail_if_success (with_reducible show Aft _ _ _ _ _ _)); first | (k_unfold; (try dsimp only)) | (k_end; kc_close) | walk1 | (dsimp only; walk1) | (leave1; walk_say "STEP leave1"; (try dsimp only)) | fail "no step")
      (with_reducible rename Fr _ _ _ _ => FFe)
      (with_reducible rename News _ _ _ _ => NNe)
      (with_reducible rename (∀ p ∈ _, nc p = true → p ∈ _) => hin)
      refine' LSt.aft FFe NNe ?h1s2 ?h2s2 ?h3s2 ?h4s2 ?h5s2 ?h6s2 ?d1s2 ?d2s2 ?d3s2 ?d4s2 ?d5s2 ?d6s2 (exI11 n4 D n0 n1 n2 n3 t0 t1 t2 t3 t4 ⟨rfl, nc_mem ?hms2 rfl⟩)
      case h1s2 => tb_start
      case h2s2 => tb_start
      case h3s2 => tb_start
      case h4s2 => tb_start
      case h5s2 => tb_start
      case h6s2 => tb_start
      case d1s2 => with_reducible assumption
      case d2s2 => with_reducible assumption
      case d3s2 => with_reducible assumption
      case d4s2 => with_reducible assumption
      case d5s2 => with_reducible assumption
      case d6s2 => with_reducible assumption
      case hms2 => exact six_in (hin _ (.head _) rfl)
  clear N' d1 d2 d3 d4 d5 d6 q1 q2 q3 q4 q5 q6
  clear hm1
  clear FF
  intro h' tk m' v1 v2 v3 v4 v5 v6 o1 o2 o3 o4 o5 o6 rest F' N' d1 d2 d3 d4 d5 d6 q1 q2 q3 q4 q5 q6 hV
  obtain ⟨n4, D2, n0, n1, n2, n3, t0, t1, t2, t3, t4, e1, hm2⟩ := hV
  subst e1
  repeat' ((fail_if_success (with_reducible show wpAny _ _ (exec (Stmt.Assign _ _ _) _) _ _ _)); first | (k_unfold; (try dsimp only)) | (k_end; kc_close) | walk1 | (dsimp only; walk1) | (leave1; walk_say "STEP leave1"; (try dsimp only)) | fail "no step")
  (with_reducible rename Fr _ _ _ _ => FF)
  refine law_aft V3 FF ?now3 ?after3
  case now3 =>
    repeat' ((fail_if_success (with_reducible show wpAny _ _ (call (Value.ref _) _) _ _ _)); first | (k_unfold; (try dsimp only)) | (k_end; kc_close) | walk1 | (dsimp only; walk1) | (leave1; walk_say "STEP leave1"; (try dsimp only)) | fail "no step")
    walk1
    (with_reducible rename (∃ c : Cl, CI _ _ c ∧ c.ok ∧ c.size = 7) => hcl)
    obtain ⟨c, hCI, hok, hsz⟩ := hcl
    repeat' ((fail_if_success (with_reducible show Aft _ _ _ _ _ _)); first | (k_unfold; (try dsimp only)) | (k_end; kc_close) | walk1 | (dsimp only; walk1) | (leave1; walk_say "STEP leave1"; (try dsimp only)) | fail "no step")
    (with_reducible rename (∀ p ∈ _, nc p = true → p ∈ _) => hinB)
    (with_reducible rename (∀ p ∈ (_, tupO _) :: _, nc p = true → p ∈ _) => hinA)
    (with_reducible rename Sub _ _ => hS)
    (with_reducible rename Fr _ _ _ _ => FFe)
    (with_reducible rename News _ _ _ _ => NNe)
    obtain ⟨hand, hh5, hlt5⟩ : ∃ hand : Nat, n4.fmod 5 = (hand : Int) ∧ hand < 5 := by
      have h0 : 0 ≤ n4.fmod 5 := Int.fmod_nonneg_of_pos _ (by omega)
      have h1 : n4.fmod 5 < 5 := Int.fmod_lt_of_pos _ (by omega)
      obtain ⟨p, hp⟩ := Int.eq_ofNat_of_zero_le h0
      exact ⟨p, hp, by omega⟩
    refine' LSt.aft FFe NNe ?h1s3 ?h2s3 ?h3s3 ?h4s3 ?h5s3 ?h6s3 ?d1s3 ?d2s3 ?d3s3 ?d4s3 ?d5s3 ?d6s3 (exI6 n4 c _ hand _ _ ⟨?hDs3, rfl, ?hCs3, hok, hsz, rfl, hlt5, ?hes3⟩)
    case h1s3 => tb_start
    case h2s3 => tb_start
    case h3s3 => tb_start
    case h4s3 => tb_start
    case h5s3 => tb_start
    case h6s3 => tb_start
    case d1s3 => with_reducible assumption
    case d2s3 => with_reducible assumption
    case d3s3 => with_reducible assumption
    case d4s3 => with_reducible assumption
    case d5s3 => with_reducible assumption
    case d6s3 => with_reducible assumption
    case hDs3 => exact ⟨D2, n0, n1, n2, n3, t0, t1, t2, t3, t4, rfl, nc_mem (six_in (hinB _ (six_in (hinA _ (.tail _ (hS.h _ (six_in hm2))) rfl)) rfl)) rfl⟩
    case hCs3 => exact hCI.via fun p hp hn => nc_mem (six_in (hinB _ (six_in (hinA _ (.tail _ hp) hn)) hn)) hn
    case hes3 => rw [← hh5]; rfl
  clear N' d1 d2 d3 d4 d5 d6 q1 q2 q3 q4 q5 q6
  clear hm2
  clear FF
  intro h' tk m' v1 v2 v3 v4 v5 v6 o1 o2 o3 o4 o5 o6 rest F' N' d1 d2 d3 d4 d5 d6 q1 q2 q3 q4 q5 q6 hV
  refine ex6 hV ?_
  intro n4 c so hand th vc hX9
  refine an8 hX9 ?_
  intro hD e3 hCI hok hsz e4 hhd em
  clear hX9 hV
  subst e3 e4
  refine canon1G em F' ?_
  clear em F'
  intro mr F'
  obtain ⟨D2, n0, n1, n2, n3, t0, t1, t2, t3, t4, e2, hm2⟩ := hD
  subst e2
  repeat' ((fail_if_success (with_reducible show wpAny _ _ (exec (Stmt.Assign _ _ _) _) _ _ _)); first | (k_unfold; (try dsimp only)) | (k_end; kc_close) | walk1 | (dsimp only; walk1) | (leave1; walk_say "STEP leave1"; (try dsimp only)) | fail "no step")
  (with_reducible rename Fr _ _ _ _ => FF)
  refine law_aft V4 FF ?now4 ?after4
  case now4 =>
    repeat' ((fail_if_success (with_reducible show wpAny _ _ (subscriptTail (Expr.Constant _ _ _) _ _ _) _ _ _)); first | (k_unfold; (try dsimp only)) | (k_end; kc_close) | walk1 | (dsimp only; walk1) | (leave1; walk_say "STEP leave1"; (try dsimp only)) | fail "no step")
    have hcase : (n4.fdiv 10).fmod 2 = 0 ∨ (n4.fdiv 10).fmod 2 = 1 := by
      have h0 : 0 ≤ (n4.fdiv 10).fmod 2 := Int.fmod_nonneg_of_pos _ (by omega)
      have h1 : (n4.fdiv 10).fmod 2 < 2 := Int.fmod_lt_of_pos _ (by omega)
      omega
    rcases hcase with hc | hc
    · rw [hc]
      repeat' ((fail_if_success (with_reducible show Aft _ _ _ _ _ _)); first | (k_unfold; (try dsimp only)) | (k_end; kc_close) | walk1 | (dsimp only; walk1) | (leave1; walk_say "STEP leave1"; (try dsimp only)) | fail "no step")
      (with_reducible rename Fr _ _ _ _ => FFe)
      (with_reducible rename News _ _ _ _ => NNe)
      refine' LSt.aft FFe NNe ?h1s4 ?h2s4 ?h3s4 ?h4s4 ?h5s4 ?h6s4 ?d1s4 ?d2s4 ?d3s4 ?d4s4 ?d5s4 ?d6s4 (exI8 n4 c so hand 10 th _ vc ⟨⟨D2, n0, n1, n2, n3, t0, t1, t2, t3, t4, rfl, nc_mem (six_in hm2) rfl⟩, rfl, hCI.via fun p hp hn => nc_mem (six_in hp) hn, hok, hsz, rfl, hhd, ?hes4, .inl rfl, ?hfs4⟩)
      case h1s4 => tb_start
      case h2s4 => tb_start
      case h3s4 => tb_start
      case h4s4 => tb_start
      case h5s4 => tb_start
      case h6s4 => tb_start
      case d1s4 => with_reducible assumption
      case d2s4 => with_reducible assumption
      case d3s4 => with_reducible assumption
      case d4s4 => with_reducible assumption
      case d5s4 => with_reducible assumption
      case d6s4 => with_reducible assumption
      case hes4 => rfl
      case hfs4 => rw [← lit_lf]; rfl
    · rw [hc]
      repeat' ((fail_if_success (with_reducible show Aft _ _ _ _ _ _)); first | (k_unfold; (try dsimp only)) | (k_end; kc_close) | walk1 | (dsimp only; walk1) | (leave1; walk_say "STEP leave1"; (try dsimp only)) | fail "no step")
      (with_reducible rename Fr _ _ _ _ => FFe)
      (with_reducible rename News _ _ _ _ => NNe)
      refine' LSt.aft FFe NNe ?h1s4 ?h2s4 ?h3s4 ?h4s4 ?h5s4 ?h6s4 ?d1s4 ?d2s4 ?d3s4 ?d4s4 ?d5s4 ?d6s4 (exI8 n4 c so hand 13 th _ vc ⟨⟨D2, n0, n1, n2, n3, t0, t1, t2, t3, t4, rfl, nc_mem (six_in hm2) rfl⟩, rfl, hCI.via fun p hp hn => nc_mem (six_in hp) hn, hok, hsz, rfl, hhd, ?hes4, .inr rfl, ?hfs4⟩)
      case h1s4 => tb_start
      case h2s4 => tb_start
      case h3s4 => tb_start
      case h4s4 => tb_start
      case h5s4 => tb_start
      case h6s4 => tb_start
      case d1s4 => with_reducible assumption
      case d2s4 => with_reducible assumption
      case d3s4 => with_reducible assumption
      case d4s4 => with_reducible assumption
      case d5s4 => with_reducible assumption
      case d6s4 => with_reducible assumption
      case hes4 => rfl
      case hfs4 => rw [← lit_cr]; rfl
  clear N' d1 d2 d3 d4 d5 d6 q1 q2 q3 q4 q5 q6
  clear hm2 hCI hok hsz hhd
  clear FF
  intro h' tk m' v1 v2 v3 v4 v5 v6 o1 o2 o3 o4 o5 o6 rest F' N' d1 d2 d3 d4 d5 d6 q1 q2 q3 q4 q5 q6 hV
  refine ex8 hV ?_
  intro n4 c so hand e th te vc hX9
  refine an10 hX9 ?_
  intro hD e3 hCI hok hsz e4 hhd em he em2
  clear hX9 hV
  subst e3 e4
  refine canon2G em em2 F' ?_
  clear em em2 F'
  intro mr F'
  obtain ⟨D2, n0, n1, n2, n3, t0, t1, t2, t3, t4, e2, hm2⟩ := hD
  subst e2
  repeat' ((fail_if_success (with_reducible show wpAny _ _ (exec (Stmt.Assign _ _ _) _) _ _ _)); first | (k_unfold; (try dsimp only)) | (k_end; kc_close) | walk1 | (dsimp only; walk1) | (leave1; walk_say "STEP leave1"; (try dsimp only)) | fail "no step")
  (with_reducible rename Fr _ _ _ _ => FF)
  refine law_aft V5 FF ?now5 ?after5
  case now5 =>
    k_dflt (refine' wpAny_Assign_Name ?kgs5 ?kss5; (case kss5 => with_unfolding_all rfl); k_whole)
    k_dflt (refine' comp_J FF ?k1s5 ?k2s5 ?k3s5 ?k4s5 ?k5s5 ?_ ?k6s5; (case k1s5 => decide); (case k2s5 => with_unfolding_all rfl); (case k3s5 => decide); (case k4s5 => rfl); (case k5s5 => decide); (case k6s5 => intro _; rfl); k_whole)
    repeat' ((fail_if_success (with_reducible show wpAny _ _ (call (Value.type "range") _) _ _ _)); first | (k_unfold; (try dsimp only)) | (k_end; kc_close) | walk1 | (dsimp only; walk1) | (leave1; walk_say "STEP leave1"; (try dsimp only)) | fail "no step")
    (with_reducible rename Fr _ _ _ _ => FF1)
    (with_reducible rename News _ _ _ _ => NN1)
    refine' comp_range (n := 6) ?k1s5 ?k2s5 ?k3s5 FF1 NN1 ?k6s5 JUnits ?k7s5 ?turns5 ?fins5
    case k1s5 => rfl
    case k2s5 => rfl
    case k3s5 => rfl
    case k6s5 => decide
    case k7s5 => exact ⟨rfl, [], .nil, rfl, fun u hu => (nomatch hu)⟩
    case turns5 =>
      intro I g hI i ys' news₁ C oC D m₂ h tk its E' hi hJ hits hoC hB F₁ N₁ off₁ hCw hDw hCD
      obtain ⟨oI, rfl⟩ := its1 hits
      obtain ⟨v, e1, u, rfl⟩ := hB
      obtain ⟨rfl, us, j1, j2, j3⟩ := hJ
      refine tests_nil ?_
      dsimp only [List.cons_append, List.nil_append] at N₁ ⊢
      have b0 : 0 ≤ ((0 : Int) + (i : Int)).fmod 4 := Int.fmod_nonneg_of_pos _ (by omega)
      have b1 : ((0 : Int) + (i : Int)).fmod 4 < 4 := Int.fmod_lt_of_pos _ (by omega)
      have b2 : ((0 : Int) + (i : Int)).fmod 4 < ([Value.int n0 t0, .int n1 t1, .int n2 t2, .int n3 t3, .int n4 t4].length : Nat) := by simp only [List.length_cons, List.length_nil]; omega
      have hIv : IntsL [Value.int n0 t0, .int n1 t1, .int n2 t2, .int n3 t3, .int n4 t4] := by
        intro v hv
        simp only [List.mem_cons, List.not_mem_nil, or_false] at hv
        rcases hv with rfl | rfl | rfl | rfl | rfl <;> exact ⟨_, _, rfl⟩
      repeat' ((fail_if_success (with_reducible show CEnd _ _ _ _ _ _ _)); first | (k_unfold; (try dsimp only)) | (k_end; kc_close) | walk1 | (dsimp only; walk1) | (leave1; walk_say "STEP leave1"; (try dsimp only)) | fail "no step")
      (with_reducible rename Fr _ _ _ _ => FFe)
      (with_reducible rename News _ _ _ _ => NNe)
      (with_reducible rename _ ∈ menuU => hou)
      refine CEnd.intro FFe NNe _ (fun p hp => List.mem_cons_of_mem _ hp) off₁ ⟨rfl, us ++ [_], SIs.snoc j1, by simp [j2], ?kbs5⟩
      case kbs5 =>
        intro v hv
        rcases List.mem_append.mp hv with hv | hv
        · exact j3 v hv
        · rw [List.mem_singleton.mp hv]; exact hou
    case fins5 =>
      intro D h tk ys' news' F' N' oD hJ
      obtain ⟨rfl, us, j1, j2, j3⟩ := hJ
      repeat' ((fail_if_success (with_reducible show Aft _ _ _ _ _ _)); first | (k_unfold; (try dsimp only)) | (k_end; kc_close) | walk1 | (dsimp only; walk1) | (leave1; walk_say "STEP leave1"; (try dsimp only)) | fail "no step")
      (with_reducible rename (∀ p ∈ _, nc p = true → p ∈ _) => hin)
      (with_reducible rename Fr _ _ _ _ => FFe)
      (with_reducible rename News _ _ _ _ => NNe)
      refine' LSt.aft FFe NNe ?h1s5 ?h2s5 ?h3s5 ?h4s5 ?h5s5 ?h6s5 ?d1s5 ?d2s5 ?d3s5 ?d4s5 ?d5s5 ?d6s5 (exI11 c so hand e th te vc D ys' ys'.length us ⟨rfl, hCI.via fun p hp hn => nc_mem (six_in (hin _ (.tail _ (six_in hp)) hn)) hn, hok, hsz, rfl, hhd, ?hfs5, he, ?hgs5, rfl, nc_mem (six_in (hin _ (.head _) rfl)) rfl, j1, j2, j3⟩)
      case h1s5 => tb_start
      case h2s5 => tb_start
      case h3s5 => tb_start
      case h4s5 => tb_start
      case h5s5 => tb_start
      case h6s5 => tb_start
      case d1s5 => with_reducible assumption
      case d2s5 => with_reducible assumption
      case d3s5 => with_reducible assumption
      case d4s5 => with_reducible assumption
      case d5s5 => with_reducible assumption
      case d6s5 => with_reducible assumption
      case hfs5 => rfl
      case hgs5 => rfl
  clear N' d1 d2 d3 d4 d5 d6 q1 q2 q3 q4 q5 q6
  clear hm2 hCI hok hsz hhd
  clear FF
  intro h' tk m' v1 v2 v3 v4 v5 v6 o1 o2 o3 o4 o5 o6 rest F' N' d1 d2 d3 d4 d5 d6 q1 q2 q3 q4 q5 q6 hV
  refine ex11 hV ?_
  intro c so hand e th te vc U uvs uep us hX9
  refine an14 hX9 ?_
  intro e3 hCI hok hsz e4 hhd em he em2 e5 hmU hSU hlU hU
  clear hX9 hV
  subst e3 e4 e5
  refine canon2G em em2 F' ?_
  clear em em2 F'
  intro mr F'
  repeat' ((fail_if_success (with_reducible show wpAny _ _ (exec (Stmt.Assign _ _ _) _) _ _ _)); first | (k_unfold; (try dsimp only)) | (k_end; kc_close) | walk1 | (dsimp only; walk1) | (leave1; walk_say "STEP leave1"; (try dsimp only)) | fail "no step")
  (with_reducible rename Fr _ _ _ _ => FF)
  refine law_aft V6 FF ?now6 ?after6
  case now6 =>
    have hms : meas [(so, c)] < 8 := by simp only [meas]; omega
    repeat' ((fail_if_success (with_reducible show Aft _ _ _ _ _ _)); first | (k_unfold; (try dsimp only)) | (k_end; kc_close) | walk1 | (dsimp only; walk1) | (leave1; walk_say "STEP leave1"; (try dsimp only)) | fail "no step")
    (with_reducible rename RIs _ _ _ => hr9)
    (with_reducible rename Sub _ _ => hS)
    (with_reducible rename Fr _ _ _ _ => FFe)
    (with_reducible rename News _ _ _ _ => NNe)
    refine' LSt.aft FFe NNe ?h1s6 ?h2s6 ?h3s6 ?h4s6 ?h5s6 ?h6s6 ?d1s6 ?d2s6 ?d3s6 ?d4s6 ?d5s6 ?d6s6 (exI14 c so hand e th te vc U uvs uep us _ _ 0 ⟨rfl, hCI.via fun p hp hn => nc_mem (up6 hS p hp) hn, hok, hsz, rfl, hhd, ?hfs6, he, ?hgs6, rfl, nc_mem (up6 hS _ hmU) rfl, hSU, hlU, hU, rfl, nc_mem (.head _) rfl, RIs.cons' (nc_mem (.tail _ (hS.h _ (.tail _ (.tail _ (.tail _ (.head _)))))) rfl) rfl (hr9.via fun p hp hn => nc_mem (.tail _ hp) hn)⟩)
    case h1s6 => tb_start
    case h2s6 => tb_start
    case h3s6 => tb_start
    case h4s6 => tb_start
    case h5s6 => tb_start
    case h6s6 => tb_start
    case d1s6 => with_reducible assumption
    case d2s6 => with_reducible assumption
    case d3s6 => with_reducible assumption
    case d4s6 => with_reducible assumption
    case d5s6 => with_reducible assumption
    case d6s6 => with_reducible assumption
    case hfs6 => rfl
    case hgs6 => rfl
  clear N' d1 d2 d3 d4 d5 d6 q1 q2 q3 q4 q5 q6
  clear hmU hCI hok hsz hhd hSU hlU hU
  clear FF
  intro h' tk m' v1 v2 v3 v4 v5 v6 o1 o2 o3 o4 o5 o6 rest F' N' d1 d2 d3 d4 d5 d6 q1 q2 q3 q4 q5 q6 hV
  refine ex14 hV ?_
  intro c so hand e th te vc U uvs uep us Rl rvs rep hX9
  refine an17 hX9 ?_
  intro e3 hCI hok hsz e4 hhd em he em2 e5 hmU hSU hlU hU em3 hmR hR
  clear hX9 hV
  subst e3 e4 e5
  refine canon3G em em2 em3 F' ?_
  clear em em2 em3 F'
  intro mr F'
  obtain ⟨hR1, hR2, hR3, hrows⟩ := rows_facts so c hok hsz
  rw [← hrows] at hR
  repeat' ((fail_if_success (with_reducible show wpAny _ _ (exec (Stmt.Assign _ _ _) _) _ _ _)); first | (k_unfold; (try dsimp only)) | (k_end; kc_close) | walk1 | (dsimp only; walk1) | (leave1; walk_say "STEP leave1"; (try dsimp only)) | fail "no step")
  (with_reducible rename Fr _ _ _ _ => FF)
  refine law_aft V7 FF ?now7 ?after7
  case now7 =>
    have hsu : sumL us ≤ 1000 := by
      have := sum_le (B := 2) fun p hp => (menu_blank (hU p hp)).2.2
      omega
    repeat' ((fail_if_success (with_reducible show wpAny _ _ (spliced _) _ _ _)); first | (k_unfold; (try dsimp only)) | (k_end; kc_close) | walk1 | (dsimp only; walk1) | (leave1; walk_say "STEP leave1"; (try dsimp only)) | fail "no step")
    refine spliced_more ?_
    (with_reducible rename Fr _ _ _ _ => FF1)
    k_dflt (refine' comp_J FF1 ?k1s7 ?k2s7 ?k3s7 ?k4s7 ?k5s7 ?_ ?k6s7; (case k1s7 => decide); (case k2s7 => with_unfolding_all rfl); (case k3s7 => decide); (case k4s7 => rfl); (case k5s7 => decide); (case k6s7 => intro _; rfl); k_whole)
    repeat' ((fail_if_success (with_reducible show wpAny _ _ (call (Value.type "enumerate") _) _ _ _)); first | (k_unfold; (try dsimp only)) | (k_end; kc_close) | walk1 | (dsimp only; walk1) | (leave1; walk_say "STEP leave1"; (try dsimp only)) | fail "no step")
    (with_reducible rename News _ _ _ _ => NN1)
    (with_reducible rename Fr _ _ _ _ => FF2)
    have hvl := RIs.length hR
    rw [List.length_map] at hvl
    refine' comp_enum (ep := rep) ?k1s7 ?k2s7 ?k3s7 ?k4s7 ?k5s7 FF2 NN1 (six_in hmR) ?k6s7 (JLn us ((rowsC so c).map showR)) ?k7s7 ?k8s7 ?turns7 ?fins7
    case k1s7 => rfl
    case k2s7 => rfl
    case k3s7 => rfl
    case k4s7 => rfl
    case k5s7 => decide
    case k6s7 => omega
    case k7s7 => exact ⟨rfl, .nil⟩
    case k8s7 => exact fun i ys nw hJ => ⟨fun p hp => hJ.1.symm ▸ hp⟩
    case turns7 =>
      intro I g hI i ys' news₁ C oC D m₂ h tk its E' hi hJ hits hoC hB F₁ N₁ off₁ hCw hDw hCD
      obtain ⟨oI, oI2, rfl⟩ := its2 hits
      obtain ⟨v, u, hv, e1, e2⟩ := hB
      obtain ⟨rfl, j1⟩ := hJ
      obtain ⟨ra, rd, rx, rt, ru, rfl, hri, hrm⟩ := hR.at hv
      refine tests_nil ?_
      dsimp only [List.cons_append, List.nil_append] at N₁ ⊢
      have hxl : rx.length ≤ 1000 := by
        have hq := List.mem_of_getElem? hri
        obtain ⟨x, hx, hxe⟩ := List.mem_map.mp hq
        have := (hR3 x hx).2.2
        have e3 : rx = shownL x.2.1 x.2.2 := (congrArg Prod.snd hxe).symm
        rw [e3]; omega
      repeat' ((fail_if_success (with_reducible show CEnd _ _ _ _ _ _ _)); first | (k_unfold; (try dsimp only)) | (k_end; kc_close) | walk1 | (dsimp only; walk1) | (leave1; walk_say "STEP leave1"; (try dsimp only)) | fail "no step")
      (with_reducible rename Sub _ _ => hS)
      (with_reducible rename Fr _ _ _ _ => FFe)
      (with_reducible rename News _ _ _ _ => NNe)
      refine CEnd.intro FFe NNe _ hS.h off₁ ⟨rfl, JLn.step j1 hri⟩
    case fins7 =>
      intro D h tk ys' news' F' N' oD hJ
      obtain ⟨rfl, j1⟩ := hJ
      rw [List.take_of_length_le (by rw [lines_len, List.length_map]; omega)] at j1
      obtain ⟨pf1, pf2, pf3⟩ := page_facts us hlU hU so c hok hsz e he
      repeat' ((fail_if_success (with_reducible show wpAny _ _ (call (Value.builtin "str.join") _) _ _ _)); first | (k_unfold; (try dsimp only)) | (k_end; kc_close) | walk1 | (dsimp only; walk1) | (leave1; walk_say "STEP leave1"; (try dsimp only)) | fail "no step")
      (with_reducible rename News _ _ _ _ => NNj)
      refine join_at (x := strL [e]) (sep := [e]) rfl NNj (.head _) j1 (by simp only [List.length_cons, List.length_nil]; omega) fun t9 tk9 => ?_
      repeat' ((fail_if_success (with_reducible show Aft _ _ _ _ _ _)); first | (k_unfold; (try dsimp only)) | (k_end; kc_close) | walk1 | (dsimp only; walk1) | (leave1; walk_say "STEP leave1"; (try dsimp only)) | fail "no step")
      (with_reducible rename Fr _ _ _ _ => FFe)
      (with_reducible rename News _ _ _ _ => NNe)
      refine' LSt.aft FFe NNe ?h1s7 ?h2s7 ?h3s7 ?h4s7 ?h5s7 ?h6s7 ?d1s7 ?d2s7 ?d3s7 ?d4s7 ?d5s7 ?d6s7 (exI9 c so hand e th te _ vc us ⟨rfl, hCI.via fun p hp hn => nc_mem (.tail _ (six_in hp)) hn, hok, hsz, rfl, hhd, ?hfs7, he, ?hgs7, hlU, hU, ?hks7⟩)
      case h1s7 => tb_start
      case h2s7 => tb_start
      case h3s7 => tb_start
      case h4s7 => tb_start
      case h5s7 => tb_start
      case h6s7 => tb_start
      case d1s7 => with_reducible assumption
      case d2s7 => with_reducible assumption
      case d3s7 => with_reducible assumption
      case d4s7 => with_reducible assumption
      case d5s7 => with_reducible assumption
      case d6s7 => with_reducible assumption
      case hfs7 => rfl
      case hgs7 => rfl
      case hks7 => rfl
  clear N' d1 d2 d3 d4 d5 d6 q1 q2 q3 q4 q5 q6
  clear hmU hCI hhd hSU hmR hR hR1 hR2 hR3 hrows hok hsz hlU hU
  clear FF
  intro h' tk m' v1 v2 v3 v4 v5 v6 o1 o2 o3 o4 o5 o6 rest F' N' d1 d2 d3 d4 d5 d6 q1 q2 q3 q4 q5 q6 hV
  refine ex9 hV ?_
  intro c so hand e th te tp vc us hX9
  refine an12 hX9 ?_
  intro e3 hCI hok hsz e4 hhd em he em2 hlU hU em3
  clear hX9 hV
  subst e3 e4
  refine canon3G em em2 em3 F' ?_
  clear em em2 em3 F'
  intro mr F'
  repeat' ((fail_if_success (with_reducible show wpAny _ _ (exec (Stmt.Assign _ _ _) _) _ _ _)); first | (k_unfold; (try dsimp only)) | (k_end; kc_close) | walk1 | (dsimp only; walk1) | (leave1; walk_say "STEP leave1"; (try dsimp only)) | fail "no step")
  (with_reducible rename Fr _ _ _ _ => FF)
  refine law_aft (V8 ww) FF ?now8 ?after8
  case now8 =>
    repeat' ((fail_if_success (with_reducible show wpAny _ _ (call (Value.ref _) _) _ _ _)); first | (k_unfold; (try dsimp only)) | (k_end; kc_close) | walk1 | (dsimp only; walk1) | (leave1; walk_say "STEP leave1"; (try dsimp only)) | fail "no step")
    walk1

    repeat' ((fail_if_success (with_reducible show Aft _ _ _ _ _ _)); first | (k_unfold; (try dsimp only)) | (k_end; kc_close) | walk1 | (dsimp only; walk1) | (leave1; walk_say "STEP leave1"; (try dsimp only)) | fail "no step")


    (with_reducible rename (∀ p ∈ _, nc p = true → p ∈ _) => hin)
    (with_reducible rename Sub _ _ => hS)
    (with_reducible rename DictAt _ _ _ _ => hD)
    (with_reducible rename Fr _ _ _ _ => FFe)
    (with_reducible rename News _ _ _ _ => NNe)
    refine' LSt.aft FFe NNe ?h1s8 ?h2s8 ?h3s8 ?h4s8 ?h5s8 ?h6s8 ?d1s8 ?d2s8 ?d3s8 ?d4s8 ?d5s8 ?d6s8 (exI10 c so hand e th te tp vc _ us ⟨rfl, hCI.via fun p hp hn => nc_mem (six_in (hin _ (hS.h _ (six_in hp)) hn)) hn, hok, hsz, rfl, hhd, ?hfs8, he, ?hgs8, hlU, hU, ?hks8, rfl, hD.via fun p hp hn => nc_mem (six_in (hin _ hp hn)) hn⟩)
    case h1s8 => tb_start
    case h2s8 => tb_start
    case h3s8 => tb_start
    case h4s8 => tb_start
    case h5s8 => tb_start
    case h6s8 => tb_start
    case d1s8 => with_reducible assumption
    case d2s8 => with_reducible assumption
    case d3s8 => with_reducible assumption
    case d4s8 => with_reducible assumption
    case d5s8 => with_reducible assumption
    case d6s8 => with_reducible assumption
    case hfs8 => rfl
    case hgs8 => rfl
    case hks8 => rfl
  clear N' d1 d2 d3 d4 d5 d6 q1 q2 q3 q4 q5 q6
  clear hCI hhd hok hsz hlU hU
  clear FF
  intro h' tk m' v1 v2 v3 v4 v5 v6 o1 o2 o3 o4 o5 o6 rest F' N' d1 d2 d3 d4 d5 d6 q1 q2 q3 q4 q5 q6 hV
  refine ex10 hV ?_
  intro c so hand e th te tp vc dv us hX9
  refine an14 hX9 ?_
  intro e3 hCI hok hsz e4 hhd em he em2 hlU hU em3 e6 hDA
  clear hX9 hV
  subst e3 e4 e6
  refine canon3G em em2 em3 F' ?_
  clear em em2 em3 F'
  intro mr F'
  repeat' ((fail_if_success (with_reducible show wpAny _ _ (exec (Stmt.Assign _ _ _) _) _ _ _)); first | (k_unfold; (try dsimp only)) | (k_end; kc_close) | walk1 | (dsimp only; walk1) | (leave1; walk_say "STEP leave1"; (try dsimp only)) | fail "no step")
  (with_reducible rename Fr _ _ _ _ => FF)
  refine law_aft (V9 ww) FF ?now9 ?after9
  case now9 =>
    obtain ⟨pf1, pf2, pf3⟩ := page_facts us hlU hU so c hok hsz e he
    have hpl : (joinL [e] (linesFrom us 0 ((rowsC so c).map showR))).length ≤ 10000 := by omega
    repeat' ((fail_if_success (with_reducible show Aft _ _ _ _ _ _)); first | (k_unfold; (try dsimp only)) | (k_end; kc_close) | walk1 | (dsimp only; walk1) | (leave1; walk_say "STEP leave1"; (try dsimp only)) | fail "no step")
    (with_reducible rename Fr _ _ _ _ => FFe)
    (with_reducible rename News _ _ _ _ => NNe)
    refine' LSt.aft FFe NNe ?h1s9 ?h2s9 ?h3s9 ?h4s9 ?h5s9 ?h6s9 ?d1s9 ?d2s9 ?d3s9 ?d4s9 ?d5s9 ?d6s9 (exI11 c so hand e th te tp _ vc dv us ⟨rfl, hCI.via fun p hp hn => nc_mem (six_in hp) hn, hok, hsz, rfl, hhd, ?hfs9, he, ?hgs9, hlU, hU, ?hks9, rfl, hDA.via fun p hp hn => nc_mem (six_in hp) hn, ?hqs9⟩)
    case h1s9 => tb_start
    case h2s9 => tb_start
    case h3s9 => tb_start
    case h4s9 => tb_start
    case h5s9 => tb_start
    case h6s9 => tb_start
    case d1s9 => with_reducible assumption
    case d2s9 => with_reducible assumption
    case d3s9 => with_reducible assumption
    case d4s9 => with_reducible assumption
    case d5s9 => with_reducible assumption
    case d6s9 => with_reducible assumption
    case hfs9 => rfl
    case hgs9 => rfl
    case hks9 => rfl
    case hqs9 => rfl
  clear N' d1 d2 d3 d4 d5 d6 q1 q2 q3 q4 q5 q6
  clear hCI hhd hok hsz hlU hU hDA
  clear FF
  intro h' tk m' v1 v2 v3 v4 v5 v6 o1 o2 o3 o4 o5 o6 rest F' N' d1 d2 d3 d4 d5 d6 q1 q2 q3 q4 q5 q6 hV
  refine ex11 hV ?_
  intro c so hand e th te tp ts vc dv us hX9
  refine an15 hX9 ?_
  intro e3 hCI hok hsz e4 hhd em he em2 hlU hU em3 e6 hDA em4
  clear hX9 hV
  subst e3 e4 e6
  refine canon4G em em2 em3 em4 F' ?_
  clear em em2 em3 em4 F'
  intro mr F'
  repeat' ((fail_if_success (with_reducible show wpAny _ _ (exec (Stmt.If _ _ _ _) _) _ _ _)); first | (k_unfold; (try dsimp only)) | (k_end; kc_close) | walk1 | (dsimp only; walk1) | (leave1; walk_say "STEP leave1"; (try dsimp only)) | fail "no step")
  (with_reducible rename Fr _ _ _ _ => FF)
  refine law_aft (V10 ww) FF ?now10 ?after10
  case now10 =>
    obtain ⟨d, rfl⟩ := hDA.ref
    obtain ⟨pf1, pf2, pf3⟩ := page_facts us hlU hU so c hok hsz e he
    generalize hP : joinL [e] (linesFrom us 0 ((rowsC so c).map showR)) = P at pf1 pf2 FF
    refine wpAny_If ?_
    refine wpAny_isTrue_Compare1 ?_
    repeat' ((fail_if_success (with_reducible show wpAny _ _ (spliced _) _ _ _)); first | (k_unfold; (try dsimp only)) | (k_end; kc_close) | walk1 | (dsimp only; walk1) | (leave1; walk_say "STEP leave1"; (try dsimp only)) | fail "no step")
    refine spliced_more ?_
    (with_reducible rename Fr _ _ _ _ => FF1)
    k_dflt (refine' comp_J FF1 ?k1s10 ?k2s10 ?k3s10 ?k4s10 ?k5s10 ?_ ?k6s10; (case k1s10 => decide); (case k2s10 => with_unfolding_all rfl); (case k3s10 => decide); (case k4s10 => rfl); (case k5s10 => decide); (case k6s10 => intro _; rfl); k_whole)
    repeat' ((fail_if_success (with_reducible show wpAny _ _ (pyIter _) _ _ _)); first | (k_unfold; (try dsimp only)) | (k_end; kc_close) | walk1 | (dsimp only; walk1) | (leave1; walk_say "STEP leave1"; (try dsimp only)) | fail "no step")

    (with_reducible rename News _ _ _ _ => NN1)
    (with_reducible rename Fr _ _ _ _ => FF2)
    refine' comp_str (y := P) ?k1s10 ?k2s10 ?k3s10 FF2 NN1 ?k6s10 (JSg hand P) ?k7s10 ?turns10 ?fins10
    case k1s10 => rfl
    case k2s10 => rfl
    case k3s10 => rfl
    case k6s10 => omega
    case k7s10 => exact ⟨rfl, .nil⟩
    case turns10 =>
      intro I g hI i ys' news₁ C oC D m₂ h tk its E' hi hJ hits hoC hB F₁ N₁ off₁ hCw hDw hCD
      obtain ⟨oI, rfl⟩ := its1 hits
      obtain ⟨v, e1, cc, u, hci, rfl⟩ := hB
      obtain ⟨rfl, j1⟩ := hJ
      refine tests_nil ?_
      dsimp only [List.cons_append, List.nil_append] at N₁ ⊢
      repeat' ((fail_if_success (with_reducible show wpAny _ _ (getMethod _ _ _) _ _ _)); first | (k_unfold; (try dsimp only)) | (k_end; kc_close) | walk1 | (dsimp only; walk1) | (leave1; walk_say "STEP leave1"; (try dsimp only)) | fail "no step")
      (with_reducible rename News _ _ _ _ => NNm)
      refine get_meth (hand := hand) NNm (hDA.mono fun p hp => ?hmms10) ?_
      case hmms10 => tb_start
      repeat' ((fail_if_success (with_reducible show wpAny _ _ (call (Value.builtin "dict.get") _) _ _ _)); first | (k_unfold; (try dsimp only)) | (k_end; kc_close) | walk1 | (dsimp only; walk1) | (leave1; walk_say "STEP leave1"; (try dsimp only)) | fail "no step")
      refine get_sign (hand := hand) NNm (hDA.mono fun p hp => ?hmm2s10) fun t9 tk9 => ?_
      case hmm2s10 => tb_start
      repeat' ((fail_if_success (with_reducible show CEnd _ _ _ _ _ _ _)); first | (k_unfold; (try dsimp only)) | (k_end; kc_close) | walk1 | (dsimp only; walk1) | (leave1; walk_say "STEP leave1"; (try dsimp only)) | fail "no step")

      (with_reducible rename Fr _ _ _ _ => FFe)
      (with_reducible rename News _ _ _ _ => NNe)
      refine CEnd.intro FFe NNe _ (fun p hp => hp) off₁ ⟨rfl, JSg.step j1 hci⟩
    case fins10 =>
      intro D h tk ys' news' F' N' oD hJ
      obtain ⟨rfl, j1⟩ := hJ
      rw [List.take_length] at j1
      repeat' ((fail_if_success (with_reducible show wpAny _ _ (call (Value.builtin "str.join") _) _ _ _)); first | (k_unfold; (try dsimp only)) | (k_end; kc_close) | walk1 | (dsimp only; walk1) | (leave1; walk_say "STEP leave1"; (try dsimp only)) | fail "no step")
      (with_reducible rename News _ _ _ _ => NNj)
      refine join_at (sep := []) lit_nl NNj (.head _) j1 ?hzs10 fun t9 tk9 => ?_
      case hzs10 =>
        have h1 := sum_look hand P
        simp only [List.length_nil, List.length_map]
        omega
      rw [join_multi]
      repeat' ((fail_if_success (with_reducible show ite _ _ _)); first | (k_unfold; (try dsimp only)) | (k_end; kc_close) | walk1 | (dsimp only; walk1) | (leave1; walk_say "STEP leave1"; (try dsimp only)) | fail "no step")
      have hne : (strL (multi (spP hand) P) != (⟨(multi (spP hand) P).toArray⟩ : Str)) = false := bne_self_eq_false _
      rw [hne]
      refine ite_ff ?_
      repeat' ((fail_if_success (with_reducible show Aft _ _ _ _ _ _)); first | (k_unfold; (try dsimp only)) | (k_end; kc_close) | walk1 | (dsimp only; walk1) | (leave1; walk_say "STEP leave1"; (try dsimp only)) | fail "no step")
      subst hP
      (with_reducible rename Fr _ _ _ _ => FFe)
      (with_reducible rename News _ _ _ _ => NNe)
      refine' LSt.aft FFe NNe ?h1s10 ?h2s10 ?h3s10 ?h4s10 ?h5s10 ?h6s10 ?d1s10 ?d2s10 ?d3s10 ?d4s10 ?d5s10 ?d6s10 (exI11 c so hand e th te tp ts vc _ us ⟨rfl, hCI.via fun p hp hn => nc_mem (.tail _ (six_in hp)) hn, hok, hsz, rfl, hhd, ?hfs10, he, ?hgs10, hlU, hU, ?hks10, rfl, hDA.via fun p hp hn => nc_mem (.tail _ (six_in hp)) hn, ?hqs10⟩)
      case h1s10 => tb_start
      case h2s10 => tb_start
      case h3s10 => tb_start
      case h4s10 => tb_start
      case h5s10 => tb_start
      case h6s10 => tb_start
      case d1s10 => with_reducible assumption
      case d2s10 => with_reducible assumption
      case d3s10 => with_reducible assumption
      case d4s10 => with_reducible assumption
      case d5s10 => with_reducible assumption
      case d6s10 => with_reducible assumption
      case hfs10 => rfl
      case hgs10 => rfl
      case hks10 => rfl
      case hqs10 => rfl
  clear N' d1 d2 d3 d4 d5 d6 q1 q2 q3 q4 q5 q6
  clear hCI hhd hok hsz hlU hU hDA
  clear FF
  intro h' tk m' v1 v2 v3 v4 v5 v6 o1 o2 o3 o4 o5 o6 rest F' N' d1 d2 d3 d4 d5 d6 q1 q2 q3 q4 q5 q6 hV
  refine ex11 hV ?_
  intro c so hand e th te tp ts vc dv us hX9
  refine an15 hX9 ?_
  intro e3 hCI hok hsz e4 hhd em he em2 hlU hU em3 e6 hDA em4
  clear hX9 hV
  subst e3 e4 e6
  refine canon4G em em2 em3 em4 F' ?_
  clear em em2 em3 em4 F'
  intro mr F'
  repeat' ((fail_if_success (with_reducible show wpAny _ _ (exec (Stmt.Assign _ _ _) _) _ _ _)); first | (k_unfold; (try dsimp only)) | (k_end; kc_close) | walk1 | (dsimp only; walk1) | (leave1; walk_say "STEP leave1"; (try dsimp only)) | fail "no step")
  (with_reducible rename Fr _ _ _ _ => FF)
  refine law_aft (V11 ww) FF ?now11 ?after11
  case now11 =>
    obtain ⟨d, rfl⟩ := hDA.ref
    obtain ⟨pf1, pf2, pf3⟩ := page_facts us hlU hU so c hok hsz e he
    obtain ⟨tp1, tp2, tp3⟩ := told_page us hlU hU so c hok hsz
    generalize hP : joinL [e] (linesFrom us 0 ((rowsC so c).map showR)) = P at pf1 pf2 FF
    repeat' ((fail_if_success (with_reducible show wpAny _ _ (call (Value.ref _) _) _ _ _)); first | (k_unfold; (try dsimp only)) | (k_end; kc_close) | walk1 | (dsimp only; walk1) | (leave1; walk_say "STEP leave1"; (try dsimp only)) | fail "no step")

    k_dflt (refine' ConU.use (back_ ww hand P ts ?hXs11 (hDA.mono ?hmms11)) ?k1s11 ?k2s11 ?k3s11 ?k4s11 ?k5s11 ?k6s11 ?k7s11 ?k8s11 ?_)
    (case hXs11 => omega)
    (case k1s11 => k_asm)
    (case k2s11 => k_asm)
    (case k3s11 => k_asm)
    (case k4s11 => k_asm)
    (case k5s11 => k_asm)
    (case k6s11 => first | exact rfl | assumption)
    (case k7s11 => ktr_room)
    (case k8s11 => ktr_units)
    (case hmms11 => exact fun p hp => six_in hp)
    k_whole
    intro r9 big9 h9 tk9 F9 N9 hs9 ho9
    obtain ⟨t9, e9⟩ := ho9
    subst e9
    have hS9 := Sub.mk hs9
    clear hs9
    try dsimp only
    try k_fold
    repeat' ((fail_if_success (with_reducible show wpAny _ _ (call (Value.builtin "str.split") _) _ _ _)); first | (k_unfold; (try dsimp only)) | (k_end; kc_close) | walk1 | (dsimp only; walk1) | (leave1; walk_say "STEP leave1"; (try dsimp only)) | fail "no step")

    refine split_at (c := e) (x := P) rfl F9 N9 (by omega) fun D ws h' tk hSw F' N' l1 => ?_
    rw [pf2] at hSw
    have hLI := LIs_of _ hSw
    repeat' ((fail_if_success (with_reducible show wpAny _ _ (call (Value.ref _) _) _ _ _)); first | (k_unfold; (try dsimp only)) | (k_end; kc_close) | walk1 | (dsimp only; walk1) | (leave1; walk_say "STEP leave1"; (try dsimp only)) | fail "no step")

    (with_reducible rename Fr _ _ _ _ => FFt)
    (with_reducible rename News _ _ _ _ => NNt)
    k_dflt (refine' ConU.use (told_ ww (leads_U us hlU hU) (lnsFrom us 0 (rowsC so c)) ⟨[], 0, [], 0⟩ _ (List.mem_cons_self) hLI rfl tp1 tp2 tp3) ?k1s11 FFt ?k3s11 NNt ?k5s11 ?k6s11 ?k7s11 ?k8s11 ?_)
    (case k1s11 => k_asm)
    (case k3s11 => k_asm)
    (case k5s11 => k_asm)
    (case k6s11 => first | exact rfl | assumption)
    (case k7s11 => ktr_room)
    (case k8s11 => ktr_units)
    k_whole
    intro r8 big8 h8 tk8 F8 N8 hs8 ho8
    obtain ⟨t8, e8⟩ := ho8
    subst e8
    have hS8 := Sub.mk hs8
    clear hs8
    try dsimp only
    try k_fold
    repeat' ((fail_if_success (with_reducible show Aft _ _ _ _ _ _)); first | (k_unfold; (try dsimp only)) | (k_end; kc_close) | walk1 | (dsimp only; walk1) | (leave1; walk_say "STEP leave1"; (try dsimp only)) | fail "no step")
    (with_reducible rename Fr _ _ _ _ => FFe)
    (with_reducible rename News _ _ _ _ => NNe)

    refine' LSt.aft FFe NNe ?h1s11 ?h2s11 ?h3s11 ?h4s11 ?h5s11 ?h6s11 ?d1s11 ?d2s11 ?d3s11 ?d4s11 ?d5s11 ?d6s11 (exI4 c so _ vc ⟨rfl, hCI.via fun p hp hn => nc_mem (hS8.h _ (.tail _ (hS9.h _ (six_in hp)))) hn, hok, hsz, rfl, ?hfs11⟩)
    case h1s11 => tb_start
    case h2s11 => tb_start
    case h3s11 => tb_start
    case h4s11 => tb_start
    case h5s11 => tb_start
    case h6s11 => tb_start
    case d1s11 => with_reducible assumption
    case d2s11 => with_reducible assumption
    case d3s11 => with_reducible assumption
    case d4s11 => with_reducible assumption
    case d5s11 => with_reducible assumption
    case d6s11 => with_reducible assumption
    case hfs11 => rfl
  clear N' d1 d2 d3 d4 d5 d6 q1 q2 q3 q4 q5 q6
  clear hCI hhd hok hsz hlU hU hDA
  clear FF
  intro h' tk m' v1 v2 v3 v4 v5 v6 o1 o2 o3 o4 o5 o6 rest F' N' d1 d2 d3 d4 d5 d6 q1 q2 q3 q4 q5 q6 hV
  refine ex4 hV ?_
  intro c so tt vc hX9
  refine an6 hX9 ?_
  intro e3 hCI hok hsz e4 em
  clear hX9 hV
  subst e3 e4
  refine canon1G em F' ?_
  clear em F'
  intro mr F'
  repeat' ((fail_if_success (with_reducible show wpAny _ _ (exec (Stmt.Return _ _) _) _ _ _)); first | (k_unfold; (try dsimp only)) | (k_end; kc_close) | walk1 | (dsimp only; walk1) | (leave1; walk_say "STEP leave1"; (try dsimp only)) | fail "no step")
  repeat' ((fail_if_success (with_reducible show wpAny _ _ (spliced _) _ _ _)); first | (k_unfold; (try dsimp only)) | (k_end; kc_close) | walk1 | (dsimp only; walk1) | (leave1; walk_say "STEP leave1"; (try dsimp only)) | fail "no step")
  refine spliced_more ?_
  (with_reducible rename Fr _ _ _ _ => FF1)
  k_dflt (refine' comp_J FF1 ?k1s12 ?k2s12 ?k3s12 ?k4s12 ?k5s12 ?_ ?k6s12; (case k1s12 => decide); (case k2s12 => with_unfolding_all rfl); (case k3s12 => decide); (case k4s12 => rfl); (case k5s12 => decide); (case k6s12 => intro _; rfl); k_whole)
  repeat' ((fail_if_success (with_reducible show wpAny _ _ (call (Value.type "range") _) _ _ _)); first | (k_unfold; (try dsimp only)) | (k_end; kc_close) | walk1 | (dsimp only; walk1) | (leave1; walk_say "STEP leave1"; (try dsimp only)) | fail "no step")
  (with_reducible rename News _ _ _ _ => NN1)
  (with_reducible rename Fr _ _ _ _ => FF2)
  refine' comp_range (n := 8) ?k1s12 ?k2s12 ?k3s12 FF2 NN1 ?k6s12 (JRow (sgn so c)) ?k7s12 ?turns12 ?fins12
  case k1s12 => rfl
  case k2s12 => rfl
  case k3s12 => rfl
  case k6s12 => decide
  case k7s12 => exact ⟨rfl, .nil⟩
  case turns12 =>
    intro I g hI i ys' news₁ C oC D m₂ h tk its E' hi hJ hits hoC hB F₁ N₁ off₁ hCw hDw hCD
    obtain ⟨oI, rfl⟩ := its1 hits
    obtain ⟨v, e1, u, rfl⟩ := hB
    obtain ⟨rfl, j1⟩ := hJ
    rw [Int.zero_add] at e1
    refine tests_one ?_
    dsimp only [List.cons_append, List.nil_append] at N₁ ⊢
    refine wpAny_isTrue_Compare1 ?_
    repeat' ((fail_if_success (with_reducible show wpAny _ _ (compareOp _ _ _) _ _ _)); first | (k_unfold; (try dsimp only)) | (k_end; kc_close) | walk1 | (dsimp only; walk1) | (leave1; walk_say "STEP leave1"; (try dsimp only)) | fail "no step")
    (with_reducible rename BV _ _ => hv9)
    refine bv_eq hv9 ?_
    repeat' ((fail_if_success (with_reducible show ite _ _ _)); first | (k_unfold; (try dsimp only)) | (k_end; kc_close) | walk1 | (dsimp only; walk1) | (leave1; walk_say "STEP leave1"; (try dsimp only)) | fail "no step")
    by_cases hb : sgn so c i = true
    · have hb' : (soB c i == so) = true := hb
      rw [hb']
      refine ite_tt ?_
      repeat' ((fail_if_success (with_reducible show CEnd _ _ _ _ _ _ _)); first | (k_unfold; (try dsimp only)) | (k_end; kc_close) | walk1 | (dsimp only; walk1) | (leave1; walk_say "STEP leave1"; (try dsimp only)) | fail "no step")
      (with_reducible rename Fr _ _ _ _ => FFe)
      (with_reducible rename News _ _ _ _ => NNe)
      exact CEnd.intro FFe NNe _ (fun p hp => hp) off₁ ⟨rfl, JRow.yes j1 hb rfl⟩
    · have hb0 : sgn so c i = false := by simpa using hb
      have hb' : (soB c i == so) = false := hb0
      rw [hb']
      refine ite_ff ?_
      (with_reducible rename Fr _ _ _ _ => FFe)
      (with_reducible rename News _ _ _ _ => NNe)
      exact CEnd.intro FFe NNe _ (fun p hp => hp) off₁ ⟨rfl, JRow.no j1 hb0⟩
  case fins12 =>
    intro D h tk ys' news' F' N' oD hJ
    obtain ⟨rfl, j1⟩ := hJ
    repeat' ((fail_if_success (with_reducible show wpAny _ _ (call (Value.builtin "sum") _) _ _ _)); first | (k_unfold; (try dsimp only)) | (k_end; kc_close) | walk1 | (dsimp only; walk1) | (leave1; walk_say "STEP leave1"; (try dsimp only)) | fail "no step")
    (with_reducible rename News _ _ _ _ => NNj)
    (with_reducible rename Fr _ _ _ _ => FFj)
    refine sumK (by rfl) FFj NNj (lst_is NNj (.head _)) j1 ?_
    intro h' tk' t' F' N'
    rw [pow_sum]
    repeat' ((fail_if_success (with_reducible show wpAny _ _ (compareOp _ _ _) _ _ _)); first | (k_unfold; (try dsimp only)) | (k_end; kc_close) | walk1 | (dsimp only; walk1) | (leave1; walk_say "STEP leave1"; (try dsimp only)) | fail "no step")
    walk1
    have hMM : (M (sgn so c) == M (sgn so c)) = true := beq_self_eq_true _
    rw [hMM]

    k_steps
    skip))
end
end Mine
end
set_option maxRecDepth 100000 in
set_option maxHeartbeats 4000000 in
theorem PySem.Challenge.cw_tp0054_01_holds : PySem.Challenge.rw_tp0054_01.Holds := by
  exact Mine.law_walk
