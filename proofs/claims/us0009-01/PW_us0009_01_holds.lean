import PyProof.Rows.All
import Wide.All
import OpenK.AllK
import Wide.FinOn
import PySem.Challenge.RW_us0009_01
set_option Elab.async false
set_option maxRecDepth 100000
section
open PySem PySem.W PyProof.Rows
namespace Mine
section
theorem wipeHKa : True := by k_with_none; w_top off; trivial
abbrev PW : Program := PySem.Challenge.rw_us0009_01.row.prog
set_option maxHeartbeats 8000000 in
noncomputable def hd.view_39 : Program := by
  refine (?f : ∀ (x0 x1 x2 x3 x4 x5 x6 x7 x8 x9 x10 x11 x12 x13 x14 x15 x16 x17 x18 x19 x20 x21 x22 x23 x24 x25 x26 x27 x28 x29 x30 x31 x32 x33 x34 x35 x36 x37 x38 x39 x40 x41 x42 x43 x44 x45 x46 x47 x48 x49 x50 x51 x52 x53 x54 x55 x56 x57 x58 x59 x60 x61 x62 x63 x64 x65 x66 x67 x68 x69 x70 x71 x72 x73 x74 x75 x76 x77 x78 x79 : Stmt), PW.main.body = (x0 :: x1 :: x2 :: x3 :: x4 :: x5 :: x6 :: x7 :: x8 :: x9 :: x10 :: x11 :: x12 :: x13 :: x14 :: x15 :: x16 :: x17 :: x18 :: x19 :: x20 :: x21 :: x22 :: x23 :: x24 :: x25 :: x26 :: x27 :: x28 :: x29 :: x30 :: x31 :: x32 :: x33 :: x34 :: x35 :: x36 :: x37 :: x38 :: x39 :: x40 :: x41 :: x42 :: x43 :: x44 :: x45 :: x46 :: x47 :: x48 :: x49 :: x50 :: x51 :: x52 :: x53 :: x54 :: x55 :: x56 :: x57 :: x58 :: x59 :: x60 :: x61 :: x62 :: x63 :: x64 :: x65 :: x66 :: x67 :: x68 :: x69 :: x70 :: x71 :: x72 :: x73 :: x74 :: x75 :: x76 :: x77 :: x78 :: x79 :: []) → Program) _ _ _ _ _ _ _ _ _ _ _ _ _ _ _ _ _ _ _ _ _ _ _ _ _ _ _ _ _ _ _ _ _ _ _ _ _ _ _ _ _ _ _ _ _ _ _ _ _ _ _ _ _ _ _ _ _ _ _ _ _ _ _ _ _ _ _ _ _ _ _ _ _ _ _ _ _ _ _ _ rfl
  exact fun x0 x1 x2 x3 x4 x5 x6 x7 x8 x9 x10 x11 x12 x13 x14 x15 x16 x17 x18 x19 x20 x21 x22 x23 x24 x25 x26 x27 x28 x29 x30 x31 x32 x33 x34 x35 x36 x37 x38 x39 x40 x41 x42 x43 x44 x45 x46 x47 x48 x49 x50 x51 x52 x53 x54 x55 x56 x57 x58 x59 x60 x61 x62 x63 x64 x65 x66 x67 x68 x69 x70 x71 x72 x73 x74 x75 x76 x77 x78 x79 _ => { PySem.Challenge.pw_us0009_01 with main := { PySem.Challenge.pw_us0009_01.main with body := (x0 :: x2 :: x3 :: x9 :: x10 :: x11 :: x12 :: x14 :: x15 :: x16 :: x17 :: x18 :: x19 :: x20 :: x21 :: x22 :: x23 :: x24 :: x25 :: x26 :: x27 :: x28 :: x29 :: x30 :: x31 :: x32 :: x33 :: x34 :: x35 :: x36 :: x37 :: x38 :: x39 :: x40 :: x41 :: x42 :: x43 :: x44 :: x45 :: x46 :: x47 :: x48 :: x49 :: x50 :: x51 :: x52 :: x53 :: x54 :: x55 :: x56 :: x57 :: x58 :: x59 :: x60 :: x61 :: x62 :: x63 :: x64 :: x65 :: x66 :: x67 :: x69 :: x70 :: x71 :: x72 :: x73 :: x74 :: x75 :: x76 :: x77 :: x78 :: x79 :: []) } }
set_option maxHeartbeats 8000000 in
/-- the objects of the top that the law reaches; the defs' parameters, bodies and scopes are read out of the given program -/
noncomputable def hd.heap_39 : Params → Frag := by
  refine (?f : ∀ (p0 : Arguments) (b0 : List Stmt) (s0 : Scope) (_ : PW.theDef (Str.ofString "pretty_flags") = some (p0, b0, s0)) (p1 : Arguments) (b1 : List Stmt) (s1 : Scope) (_ : PW.theDef (Str.ofString "insort_right") = some (p1, b1, s1)) (p2 : Arguments) (b2 : List Stmt) (s2 : Scope) (_ : PW.theDef (Str.ofString "bisect_right") = some (p2, b2, s2)) (p3 : Arguments) (b3 : List Stmt) (s3 : Scope) (_ : PW.theDef (Str.ofString "bisect_left") = some (p3, b3, s3)) (p4 : Arguments) (b4 : List Stmt) (s4 : Scope) (_ : PW.theDef (Str.ofString "quotedata") = some (p4, b4, s4)) (p5 : Arguments) (b5 : List Stmt) (s5 : Scope) (_ : PW.theDef (Str.ofString "ISTERMINAL") = some (p5, b5, s5)) (p6 : Arguments) (b6 : List Stmt) (s6 : Scope) (_ : PW.theDef (Str.ofString "ISNONTERMINAL") = some (p6, b6, s6)) (p7 : Arguments) (b7 : List Stmt) (s7 : Scope) (_ : PW.theDef (Str.ofString "ISEOF") = some (p7, b7, s7)) (p8 : Arguments) (b8 : List Stmt) (s8 : Scope) (_ : PW.theDef (Str.ofString "_law_numbers") = some (p8, b8, s8)) (p9 : Arguments) (b9 : List Stmt) (s9 : Scope) (_ : PW.theDef (Str.ofString "_law_board") = some (p9, b9, s9)) (p10 : Arguments) (b10 : List Stmt) (s10 : Scope) (_ : PW.theDef (Str.ofString "_law_partner") = some (p10, b10, s10)) (p11 : Arguments) (b11 : List Stmt) (s11 : Scope) (_ : PW.theDef (Str.ofString "_law_mail") = some (p11, b11, s11)) (p12 : Arguments) (b12 : List Stmt) (s12 : Scope) (_ : PW.theDef (Str.ofString "_law_read") = some (p12, b12, s12)) (p13 : Arguments) (b13 : List Stmt) (s13 : Scope) (_ : PW.theDef (Str.ofString "_law_words") = some (p13, b13, s13)) (p14 : Arguments) (b14 : List Stmt) (s14 : Scope) (_ : PW.theDef (Str.ofString "_law_rooks") = some (p14, b14, s14)) (p15 : Arguments) (b15 : List Stmt) (s15 : Scope) (_ : PW.theDef (Str.ofString "_law_meant") = some (p15, b15, s15)) (p16 : Arguments) (b16 : List Stmt) (s16 : Scope) (_ : PW.theDef (Str.ofString "_law_spread") = some (p16, b16, s16)) (p17 : Arguments) (b17 : List Stmt) (s17 : Scope) (_ : PW.theDef (Str.ofString "_law_agree") = some (p17, b17, s17)) (p18 : Arguments) (b18 : List Stmt) (s18 : Scope) (_ : PW.theDef (Str.ofString "law") = some (p18, b18, s18)), Params → Frag) _ _ _ rfl _ _ _ rfl _ _ _ rfl _ _ _ rfl _ _ _ rfl _ _ _ rfl _ _ _ rfl _ _ _ rfl _ _ _ rfl _ _ _ rfl _ _ _ rfl _ _ _ rfl _ _ _ rfl _ _ _ rfl _ _ _ rfl _ _ _ rfl _ _ _ rfl _ _ _ rfl _ _ _ rfl
  exact fun p0 b0 s0 _ p1 b1 s1 _ p2 b2 s2 _ p3 b3 s3 _ p4 b4 s4 _ p5 b5 s5 _ p6 b6 s6 _ p7 b7 s7 _ p8 b8 s8 _ p9 b9 s9 _ p10 b10 s10 _ p11 b11 s11 _ p12 b12 s12 _ p13 b13 s13 _ p14 b14 s14 _ p15 b15 s15 _ p16 b16 s16 _ p17 b17 s17 _ p18 b18 s18 _ (P : Params) => ((
    (nat_lit 2, (Obj.mk Value.none Option.none (Data.dict #[(DictEntry.mk (PyData.keyHash P (Str.ofString "\x69mport.loaded._sre")) (Value.str (Str.ofString "\x69mport.loaded._sre") 183) (Value.bool Bool.true)), (DictEntry.mk (PyData.keyHash P (Str.ofString "class._frozen_importlib.BuiltinImporter")) (Value.str (Str.ofString "class._frozen_importlib.BuiltinImporter") 185) (Value.ref 14)), (DictEntry.mk (PyData.keyHash P (Str.ofString "watched.\x69mport")) (Value.str (Str.ofString "watched.\x69mport") 206) (Value.ref 18)), (DictEntry.mk (PyData.keyHash P (Str.ofString "class._frozen_importlib.ModuleSpec")) (Value.str (Str.ofString "class._frozen_importlib.ModuleSpec") 216) (Value.ref 22)), (DictEntry.mk (PyData.keyHash P (Str.ofString "sys.modules.booked-epoch")) (Value.str (Str.ofString "sys.modules.booked-epoch") 245) (Value.int (3 : Int) 0)), (DictEntry.mk (PyData.keyHash P (Str.ofString "\x69mport.later-laid._sre")) (Value.str (Str.ofString "\x69mport.later-laid._sre") 270) (Value.bool Bool.true)), (DictEntry.mk (PyData.keyHash P (Str.ofString "watched.library")) (Value.str (Str.ofString "watched.library") 272) (Value.ref 27)), (DictEntry.mk (PyData.keyHash P (Str.ofString "watched.library-objects")) (Value.str (Str.ofString "watched.library-objects") 0) (Value.str (Str.ofString "\x0c") 0)), (DictEntry.mk (PyData.keyHash P (Str.ofString "watched.library-deep._sre")) (Value.str (Str.ofString "watched.library-deep._sre") 273) (Value.str (Str.ofString "\x04\x00\x00\x0b\x04\x00\x00\x0b\x04\x00\x00\x03\x04\x00\x00\x0b\x08\x04dict\x02") 0))] 9) #[])) ::
    (nat_lit 3, (Obj.mk (Value.type "dict") Option.none (Data.dict (List.toArray ((DictEntry.mk (PyData.keyHash P (Str.ofString "__name__")) (Value.str (Str.ofString "__name__") 165) (Value.str (Str.ofString "law_us0009_01") 657)) :: (DictEntry.mk (PyData.keyHash P (Str.ofString "__doc__")) (Value.str (Str.ofString "__doc__") 166) Value.none) :: (DictEntry.mk (PyData.keyHash P (Str.ofString "__package__")) (Value.str (Str.ofString "__package__") 167) Value.none) :: (DictEntry.mk (PyData.keyHash P (Str.ofString "__loader__")) (Value.str (Str.ofString "__loader__") 168) (Value.builtin "__main__.__loader__#opaque")) :: (DictEntry.mk (PyData.keyHash P (Str.ofString "__spec__")) (Value.str (Str.ofString "__spec__") 169) Value.none) :: (DictEntry.mk (PyData.keyHash P (Str.ofString "__annotations__")) (Value.str (Str.ofString "__annotations__") 170) (Value.ref 6)) :: (DictEntry.mk (PyData.keyHash P (Str.ofString "__builtins__")) (Value.str (Str.ofString "__builtins__") 171) (Value.ref 4)) :: (DictEntry.mk (PyData.keyHash P (Str.ofString "__file__")) (Value.str (Str.ofString "__file__") 173) (Value.str (Str.ofString "/claim/cut.py") 172)) :: (DictEntry.mk (PyData.keyHash P (Str.ofString "__cached__")) (Value.str (Str.ofString "__cached__") 174) Value.none) :: (DictEntry.mk (PyData.keyHash P (Str.ofString "_sre")) (Value.str (Str.ofString "_sre") 275) (Value.ref 12)) :: (DictEntry.mk (PyData.keyHash P (Str.ofString "COMPILER_FLAG_NAMES")) (Value.str (Str.ofString "COMPILER_FLAG_NAMES") 314) (Value.ref 32)) :: (DictEntry.mk (PyData.keyHash P (Str.ofString "pretty_flags")) (Value.str (Str.ofString "pretty_flags") 324) (Value.ref 39)) :: (DictEntry.mk (PyData.keyHash P (Str.ofString "insort_right")) (Value.str (Str.ofString "insort_right") 339) (Value.ref 48)) :: (DictEntry.mk (PyData.keyHash P (Str.ofString "bisect_right")) (Value.str (Str.ofString "bisect_right") 353) (Value.ref 57)) :: (DictEntry.mk (PyData.keyHash P (Str.ofString "bisect_left")) (Value.str (Str.ofString "bisect_left") 367) (Value.ref 66)) :: (DictEntry.mk (PyData.keyHash P (Str.ofString "_twin_re_1")) (Value.str (Str.ofString "_twin_re_1") 385) (Value.ref 71)) :: (DictEntry.mk (PyData.keyHash P (Str.ofString "_twin_re_2")) (Value.str (Str.ofString "_twin_re_2") 427) (Value.ref 76)) :: (DictEntry.mk (PyData.keyHash P (Str.ofString "CRLF")) (Value.str (Str.ofString "CRLF") 429) (Value.str (Str.ofString "\x0d\n") 428)) :: (DictEntry.mk (PyData.keyHash P (Str.ofString "quotedata")) (Value.str (Str.ofString "quotedata") 436) (Value.ref 83)) :: (DictEntry.mk (PyData.keyHash P (Str.ofString "ENDMARKER")) (Value.str (Str.ofString "ENDMARKER") 440) (Value.int (0 : Int) 439)) :: (DictEntry.mk (PyData.keyHash P (Str.ofString "LPAR")) (Value.str (Str.ofString "LPAR") 442) (Value.int (7 : Int) 441)) :: (DictEntry.mk (PyData.keyHash P (Str.ofString "RPAR")) (Value.str (Str.ofString "RPAR") 444) (Value.int (8 : Int) 443)) :: (DictEntry.mk (PyData.keyHash P (Str.ofString "LSQB")) (Value.str (Str.ofString "LSQB") 446) (Value.int (9 : Int) 445)) :: (DictEntry.mk (PyData.keyHash P (Str.ofString "RSQB")) (Value.str (Str.ofString "RSQB") 448) (Value.int (10 : Int) 447)) :: (DictEntry.mk (PyData.keyHash P (Str.ofString "COLON")) (Value.str (Str.ofString "COLON") 450) (Value.int (11 : Int) 449)) :: (DictEntry.mk (PyData.keyHash P (Str.ofString "COMMA")) (Value.str (Str.ofString "COMMA") 452) (Value.int (12 : Int) 451)) :: (DictEntry.mk (PyData.keyHash P (Str.ofString "SEMI")) (Value.str (Str.ofString "SEMI") 454) (Value.int (13 : Int) 453)) :: (DictEntry.mk (PyData.keyHash P (Str.ofString "PLUS")) (Value.str (Str.ofString "PLUS") 456) (Value.int (14 : Int) 455)) :: (DictEntry.mk (PyData.keyHash P (Str.ofString "MINUS")) (Value.str (Str.ofString "MINUS") 458) (Value.int (15 : Int) 457)) :: (DictEntry.mk (PyData.keyHash P (Str.ofString "STAR")) (Value.str (Str.ofString "STAR") 460) (Value.int (16 : Int) 459)) :: (DictEntry.mk (PyData.keyHash P (Str.ofString "SLASH")) (Value.str (Str.ofString "SLASH") 462) (Value.int (17 : Int) 461)) :: (DictEntry.mk (PyData.keyHash P (Str.ofString "VBAR")) (Value.str (Str.ofString "VBAR") 464) (Value.int (18 : Int) 463)) :: (DictEntry.mk (PyData.keyHash P (Str.ofString "AMPER")) (Value.str (Str.ofString "AMPER") 466) (Value.int (19 : Int) 465)) :: (DictEntry.mk (PyData.keyHash P (Str.ofString "LESS")) (Value.str (Str.ofString "LESS") 468) (Value.int (20 : Int) 467)) :: (DictEntry.mk (PyData.keyHash P (Str.ofString "GREATER")) (Value.str (Str.ofString "GREATER") 470) (Value.int (21 : Int) 469)) :: (DictEntry.mk (PyData.keyHash P (Str.ofString "EQUAL")) (Value.str (Str.ofString "EQUAL") 472) (Value.int (22 : Int) 471)) :: (DictEntry.mk (PyData.keyHash P (Str.ofString "DOT")) (Value.str (Str.ofString "DOT") 474) (Value.int (23 : Int) 473)) :: (DictEntry.mk (PyData.keyHash P (Str.ofString "PERCENT")) (Value.str (Str.ofString "PERCENT") 476) (Value.int (24 : Int) 475)) :: (DictEntry.mk (PyData.keyHash P (Str.ofString "LBRACE")) (Value.str (Str.ofString "LBRACE") 478) (Value.int (25 : Int) 477)) :: (DictEntry.mk (PyData.keyHash P (Str.ofString "RBRACE")) (Value.str (Str.ofString "RBRACE") 480) (Value.int (26 : Int) 479)) :: (DictEntry.mk (PyData.keyHash P (Str.ofString "EQEQUAL")) (Value.str (Str.ofString "EQEQUAL") 482) (Value.int (27 : Int) 481)) :: (DictEntry.mk (PyData.keyHash P (Str.ofString "NOTEQUAL")) (Value.str (Str.ofString "NOTEQUAL") 484) (Value.int (28 : Int) 483)) :: (DictEntry.mk (PyData.keyHash P (Str.ofString "LESSEQUAL")) (Value.str (Str.ofString "LESSEQUAL") 486) (Value.int (29 : Int) 485)) :: (DictEntry.mk (PyData.keyHash P (Str.ofString "GREATEREQUAL")) (Value.str (Str.ofString "GREATEREQUAL") 488) (Value.int (30 : Int) 487)) :: (DictEntry.mk (PyData.keyHash P (Str.ofString "TILDE")) (Value.str (Str.ofString "TILDE") 490) (Value.int (31 : Int) 489)) :: (DictEntry.mk (PyData.keyHash P (Str.ofString "CIRCUMFLEX")) (Value.str (Str.ofString "CIRCUMFLEX") 492) (Value.int (32 : Int) 491)) :: (DictEntry.mk (PyData.keyHash P (Str.ofString "LEFTSHIFT")) (Value.str (Str.ofString "LEFTSHIFT") 494) (Value.int (33 : Int) 493)) :: (DictEntry.mk (PyData.keyHash P (Str.ofString "RIGHTSHIFT")) (Value.str (Str.ofString "RIGHTSHIFT") 496) (Value.int (34 : Int) 495)) :: (DictEntry.mk (PyData.keyHash P (Str.ofString "DOUBLESTAR")) (Value.str (Str.ofString "DOUBLESTAR") 498) (Value.int (35 : Int) 497)) :: (DictEntry.mk (PyData.keyHash P (Str.ofString "PLUSEQUAL")) (Value.str (Str.ofString "PLUSEQUAL") 500) (Value.int (36 : Int) 499)) :: (DictEntry.mk (PyData.keyHash P (Str.ofString "MINEQUAL")) (Value.str (Str.ofString "MINEQUAL") 502) (Value.int (37 : Int) 501)) :: (DictEntry.mk (PyData.keyHash P (Str.ofString "STAREQUAL")) (Value.str (Str.ofString "STAREQUAL") 504) (Value.int (38 : Int) 503)) :: (DictEntry.mk (PyData.keyHash P (Str.ofString "SLASHEQUAL")) (Value.str (Str.ofString "SLASHEQUAL") 506) (Value.int (39 : Int) 505)) :: (DictEntry.mk (PyData.keyHash P (Str.ofString "PERCENTEQUAL")) (Value.str (Str.ofString "PERCENTEQUAL") 508) (Value.int (40 : Int) 507)) :: (DictEntry.mk (PyData.keyHash P (Str.ofString "AMPEREQUAL")) (Value.str (Str.ofString "AMPEREQUAL") 510) (Value.int (41 : Int) 509)) :: (DictEntry.mk (PyData.keyHash P (Str.ofString "VBAREQUAL")) (Value.str (Str.ofString "VBAREQUAL") 512) (Value.int (42 : Int) 511)) :: (DictEntry.mk (PyData.keyHash P (Str.ofString "CIRCUMFLEXEQUAL")) (Value.str (Str.ofString "CIRCUMFLEXEQUAL") 514) (Value.int (43 : Int) 513)) :: (DictEntry.mk (PyData.keyHash P (Str.ofString "LEFTSHIFTEQUAL")) (Value.str (Str.ofString "LEFTSHIFTEQUAL") 516) (Value.int (44 : Int) 515)) :: (DictEntry.mk (PyData.keyHash P (Str.ofString "RIGHTSHIFTEQUAL")) (Value.str (Str.ofString "RIGHTSHIFTEQUAL") 518) (Value.int (45 : Int) 517)) :: (DictEntry.mk (PyData.keyHash P (Str.ofString "DOUBLESTAREQUAL")) (Value.str (Str.ofString "DOUBLESTAREQUAL") 520) (Value.int (46 : Int) 519)) :: (DictEntry.mk (PyData.keyHash P (Str.ofString "DOUBLESLASH")) (Value.str (Str.ofString "DOUBLESLASH") 522) (Value.int (47 : Int) 521)) :: (DictEntry.mk (PyData.keyHash P (Str.ofString "DOUBLESLASHEQUAL")) (Value.str (Str.ofString "DOUBLESLASHEQUAL") 524) (Value.int (48 : Int) 523)) :: (DictEntry.mk (PyData.keyHash P (Str.ofString "AT")) (Value.str (Str.ofString "AT") 526) (Value.int (49 : Int) 525)) :: (DictEntry.mk (PyData.keyHash P (Str.ofString "ATEQUAL")) (Value.str (Str.ofString "ATEQUAL") 528) (Value.int (50 : Int) 527)) :: (DictEntry.mk (PyData.keyHash P (Str.ofString "RARROW")) (Value.str (Str.ofString "RARROW") 530) (Value.int (51 : Int) 529)) :: (DictEntry.mk (PyData.keyHash P (Str.ofString "ELLIPSIS")) (Value.str (Str.ofString "ELLIPSIS") 532) (Value.int (52 : Int) 531)) :: (DictEntry.mk (PyData.keyHash P (Str.ofString "COLONEQUAL")) (Value.str (Str.ofString "COLONEQUAL") 534) (Value.int (53 : Int) 533)) :: (DictEntry.mk (PyData.keyHash P (Str.ofString "EXCLAMATION")) (Value.str (Str.ofString "EXCLAMATION") 536) (Value.int (54 : Int) 535)) :: (DictEntry.mk (PyData.keyHash P (Str.ofString "NT_OFFSET")) (Value.str (Str.ofString "NT_OFFSET") 538) (Value.int (256 : Int) 537)) :: (DictEntry.mk (PyData.keyHash P (Str.ofString "EXACT_TOKEN_TYPES")) (Value.str (Str.ofString "EXACT_TOKEN_TYPES") 635) (Value.ref 84)) :: (DictEntry.mk (PyData.keyHash P (Str.ofString "ISTERMINAL")) (Value.str (Str.ofString "ISTERMINAL") 642) (Value.ref 93)) :: (DictEntry.mk (PyData.keyHash P (Str.ofString "ISNONTERMINAL")) (Value.str (Str.ofString "ISNONTERMINAL") 649) (Value.ref 100)) :: (DictEntry.mk (PyData.keyHash P (Str.ofString "ISEOF")) (Value.str (Str.ofString "ISEOF") 656) (Value.ref 107)) :: (DictEntry.mk (PyData.keyHash P (Str.ofString "_law_numbers")) (Value.str (Str.ofString "_law_numbers") 668) (Value.ref 114)) :: (DictEntry.mk (PyData.keyHash P (Str.ofString "_law_board")) (Value.str (Str.ofString "_law_board") 677) (Value.ref 121)) :: (DictEntry.mk (PyData.keyHash P (Str.ofString "_law_partner")) (Value.str (Str.ofString "_law_partner") 683) (Value.ref 126)) :: (DictEntry.mk (PyData.keyHash P (Str.ofString "_law_mail")) (Value.str (Str.ofString "_law_mail") 693) (Value.ref 133)) :: (DictEntry.mk (PyData.keyHash P (Str.ofString "_law_read")) (Value.str (Str.ofString "_law_read") 706) (Value.ref 140)) :: (DictEntry.mk (PyData.keyHash P (Str.ofString "_law_words")) (Value.str (Str.ofString "_law_words") 713) (Value.ref 147)) :: (DictEntry.mk (PyData.keyHash P (Str.ofString "_law_rooks")) (Value.str (Str.ofString "_law_rooks") 731) (Value.ref 154)) :: (DictEntry.mk (PyData.keyHash P (Str.ofString "_law_meant")) (Value.str (Str.ofString "_law_meant") 741) (Value.ref 161)) :: (DictEntry.mk (PyData.keyHash P (Str.ofString "_law_spread")) (Value.str (Str.ofString "_law_spread") 754) (Value.ref 168)) :: (DictEntry.mk (PyData.keyHash P (Str.ofString "_law_agree")) (Value.str (Str.ofString "_law_agree") 772) (Value.ref 175)) :: (DictEntry.mk (PyData.keyHash P (Str.ofString "law")) (Value.str (Str.ofString "law") 778) (Value.ref 180)) :: [])) 84) #[])) ::
    (nat_lit 32, (Obj.mk (Value.type "dict") Option.none (Data.dict #[(DictEntry.mk (1 : Int) (Value.int (1 : Int) 284) (Value.str (Str.ofString "OPTIMIZED") 285)), (DictEntry.mk (2 : Int) (Value.int (2 : Int) 286) (Value.str (Str.ofString "NEWLOCALS") 287)), (DictEntry.mk (4 : Int) (Value.int (4 : Int) 288) (Value.str (Str.ofString "VARARGS") 289)), (DictEntry.mk (8 : Int) (Value.int (8 : Int) 290) (Value.str (Str.ofString "VARKEYWORDS") 291)), (DictEntry.mk (16 : Int) (Value.int (16 : Int) 292) (Value.str (Str.ofString "NESTED") 293)), (DictEntry.mk (32 : Int) (Value.int (32 : Int) 294) (Value.str (Str.ofString "GENERATOR") 295)), (DictEntry.mk (64 : Int) (Value.int (64 : Int) 296) (Value.str (Str.ofString "NOFREE") 297)), (DictEntry.mk (128 : Int) (Value.int (128 : Int) 298) (Value.str (Str.ofString "COROUTINE") 299)), (DictEntry.mk (256 : Int) (Value.int (256 : Int) 300) (Value.str (Str.ofString "ITERABLE_COROUTINE") 301)), (DictEntry.mk (512 : Int) (Value.int (512 : Int) 302) (Value.str (Str.ofString "ASYNC_GENERATOR") 303))] 10) #[])) ::
    (nat_lit 33, (Obj.mk (Value.type "tuple") Option.none (Data.seq #[] 0) #[])) ::
    (nat_lit 35, (Obj.mk (Value.type "tuple") Option.none (Data.seq #[(Value.str (Str.ofString "flags") 318), (Value.str (Str.ofString "names") 319), (Value.str (Str.ofString "i") 320), (Value.str (Str.ofString "flag") 321)] 0) #[])) ::
    (nat_lit 36, (Obj.mk (Value.type "tuple") Option.none (Data.seq #[] 0) #[])) ::
    (nat_lit 38, (Obj.mk (Value.type "code") Option.none (Data.fields #[(Value.str (Str.ofString "pretty_flags") 315), (Value.str (Str.ofString "pretty_flags") 316), (Value.str (Str.ofString "/claim/cut.py") 317), (Value.int (4 : Int) 0), (Value.int (1 : Int) 0), (Value.int (0 : Int) 0), (Value.int (0 : Int) 0), (Value.int (3 : Int) 0), (Value.ref 33), (Value.bool Bool.true), (Value.int (276 : Int) 0), (Value.ref 34), Value.none, (Value.ref 35), (Value.ref 36), (Value.ref 37), (Value.int (322 : Int) 0), (Value.int (4 : Int) 0), (Value.str (Str.ofString "/claim/cut.py") 323)]) #[])) ::
    (nat_lit 39, (Obj.mk (Value.type "function") Option.none (Data.func (FuncData.mk (Str.ofString "pretty_flags") (Str.ofString "pretty_flags") p0 (FuncBody.stmts b0) s0 3 [] Value.none Value.none Value.none (Value.str (Str.ofString "cpy313.dis") 282) Option.none (Value.ref 38) Value.none 0)) #[])) ::
    (nat_lit 40, (Obj.mk (Value.type "tuple") Option.none (Data.seq #[(Value.int (0 : Int) 327), Value.none] 0) #[])) ::
    (nat_lit 41, (Obj.mk (Value.type "dict") Option.none (Data.dict #[(DictEntry.mk (PyData.keyHash P (Str.ofString "key")) (Value.str (Str.ofString "key") 328) Value.none)] 1) #[])) ::
    (nat_lit 42, (Obj.mk (Value.type "tuple") Option.none (Data.seq #[] 0) #[])) ::
    (nat_lit 44, (Obj.mk (Value.type "tuple") Option.none (Data.seq #[(Value.str (Str.ofString "a") 332), (Value.str (Str.ofString "x") 333), (Value.str (Str.ofString "lo") 334), (Value.str (Str.ofString "hi") 335), (Value.str (Str.ofString "key") 336)] 0) #[])) ::
    (nat_lit 45, (Obj.mk (Value.type "tuple") Option.none (Data.seq #[] 0) #[])) ::
    (nat_lit 47, (Obj.mk (Value.type "code") Option.none (Data.fields #[(Value.str (Str.ofString "insort_right") 329), (Value.str (Str.ofString "insort_right") 330), (Value.str (Str.ofString "/claim/cut.py") 331), (Value.int (17 : Int) 0), (Value.int (4 : Int) 0), (Value.int (0 : Int) 0), (Value.int (1 : Int) 0), (Value.int (3 : Int) 0), (Value.ref 42), (Value.bool Bool.true), (Value.int (276 : Int) 0), (Value.ref 43), Value.none, (Value.ref 44), (Value.ref 45), (Value.ref 46), (Value.int (337 : Int) 0), (Value.int (17 : Int) 0), (Value.str (Str.ofString "/claim/cut.py") 338)]) #[])) ::
    (nat_lit 48, (Obj.mk (Value.type "function") Option.none (Data.func (FuncData.mk (Str.ofString "insort_right") (Str.ofString "insort_right") p1 (FuncBody.stmts b1) s1 3 [] (Value.ref 40) (Value.ref 41) Value.none (Value.str (Str.ofString "cpy313.bisect") 325) Option.none (Value.ref 47) Value.none 0)) #[])) ::
    (nat_lit 49, (Obj.mk (Value.type "tuple") Option.none (Data.seq #[(Value.int (0 : Int) 340), Value.none] 0) #[])) ::
    (nat_lit 50, (Obj.mk (Value.type "dict") Option.none (Data.dict #[(DictEntry.mk (PyData.keyHash P (Str.ofString "key")) (Value.str (Str.ofString "key") 341) Value.none)] 1) #[])) ::
    (nat_lit 51, (Obj.mk (Value.type "tuple") Option.none (Data.seq #[] 0) #[])) ::
    (nat_lit 53, (Obj.mk (Value.type "tuple") Option.none (Data.seq #[(Value.str (Str.ofString "a") 345), (Value.str (Str.ofString "x") 346), (Value.str (Str.ofString "lo") 347), (Value.str (Str.ofString "hi") 348), (Value.str (Str.ofString "key") 349), (Value.str (Str.ofString "mid") 350)] 0) #[])) ::
    (nat_lit 54, (Obj.mk (Value.type "tuple") Option.none (Data.seq #[] 0) #[])) ::
    (nat_lit 56, (Obj.mk (Value.type "code") Option.none (Data.fields #[(Value.str (Str.ofString "bisect_right") 342), (Value.str (Str.ofString "bisect_right") 343), (Value.str (Str.ofString "/claim/cut.py") 344), (Value.int (23 : Int) 0), (Value.int (4 : Int) 0), (Value.int (0 : Int) 0), (Value.int (1 : Int) 0), (Value.int (3 : Int) 0), (Value.ref 51), (Value.bool Bool.true), (Value.int (276 : Int) 0), (Value.ref 52), Value.none, (Value.ref 53), (Value.ref 54), (Value.ref 55), (Value.int (351 : Int) 0), (Value.int (23 : Int) 0), (Value.str (Str.ofString "/claim/cut.py") 352)]) #[])) ::
    (nat_lit 57, (Obj.mk (Value.type "function") Option.none (Data.func (FuncData.mk (Str.ofString "bisect_right") (Str.ofString "bisect_right") p2 (FuncBody.stmts b2) s2 3 [] (Value.ref 49) (Value.ref 50) Value.none (Value.str (Str.ofString "cpy313.bisect") 325) Option.none (Value.ref 56) Value.none 0)) #[])) ::
    (nat_lit 58, (Obj.mk (Value.type "tuple") Option.none (Data.seq #[(Value.int (0 : Int) 354), Value.none] 0) #[])) ::
    (nat_lit 59, (Obj.mk (Value.type "dict") Option.none (Data.dict #[(DictEntry.mk (PyData.keyHash P (Str.ofString "key")) (Value.str (Str.ofString "key") 355) Value.none)] 1) #[])) ::
    (nat_lit 60, (Obj.mk (Value.type "tuple") Option.none (Data.seq #[] 0) #[])) ::
    (nat_lit 62, (Obj.mk (Value.type "tuple") Option.none (Data.seq #[(Value.str (Str.ofString "a") 359), (Value.str (Str.ofString "x") 360), (Value.str (Str.ofString "lo") 361), (Value.str (Str.ofString "hi") 362), (Value.str (Str.ofString "key") 363), (Value.str (Str.ofString "mid") 364)] 0) #[])) ::
    (nat_lit 63, (Obj.mk (Value.type "tuple") Option.none (Data.seq #[] 0) #[])) ::
    (nat_lit 65, (Obj.mk (Value.type "code") Option.none (Data.fields #[(Value.str (Str.ofString "bisect_left") 356), (Value.str (Str.ofString "bisect_left") 357), (Value.str (Str.ofString "/claim/cut.py") 358), (Value.int (43 : Int) 0), (Value.int (4 : Int) 0), (Value.int (0 : Int) 0), (Value.int (1 : Int) 0), (Value.int (3 : Int) 0), (Value.ref 60), (Value.bool Bool.true), (Value.int (276 : Int) 0), (Value.ref 61), Value.none, (Value.ref 62), (Value.ref 63), (Value.ref 64), (Value.int (365 : Int) 0), (Value.int (43 : Int) 0), (Value.str (Str.ofString "/claim/cut.py") 366)]) #[])) ::
    (nat_lit 66, (Obj.mk (Value.type "function") Option.none (Data.func (FuncData.mk (Str.ofString "bisect_left") (Str.ofString "bisect_left") p3 (FuncBody.stmts b3) s3 3 [] (Value.ref 58) (Value.ref 59) Value.none (Value.str (Str.ofString "cpy313.bisect") 325) Option.none (Value.ref 65) Value.none 0)) #[])) ::
    (nat_lit 70, (Obj.mk (Value.type "tuple") Option.none (Data.seq #[(Value.int (14 : Int) 0), (Value.int (4 : Int) 0), (Value.int (0 : Int) 0), (Value.int (1 : Int) 0), (Value.int (1 : Int) 0), (Value.int (6 : Int) 0), (Value.int (1 : Int) 0), (Value.int (16 : Int) 0), (Value.int (46 : Int) 0), (Value.int (1 : Int) 0)] 0) #[])) ::
    (nat_lit 71, (Obj.mk (Value.type "re.Pattern") Option.none (Data.fields #[(Value.str (Str.ofString "(?m)^\\.") 371), (Value.int (40 : Int) 384), (Value.int (0 : Int) 0), Value.none, Value.none, (Value.ref 70), (Value.int (0 : Int) 0)]) #[])) ::
    (nat_lit 75, (Obj.mk (Value.type "tuple") Option.none (Data.seq #[(Value.int (14 : Int) 0), (Value.int (9 : Int) 0), (Value.int (4 : Int) 0), (Value.int (1 : Int) 0), (Value.int (2 : Int) 0), (Value.int (16 : Int) 0), (Value.int (10 : Int) 0), (Value.int (16 : Int) 0), (Value.int (13 : Int) 0), (Value.int (0 : Int) 0), (Value.int (7 : Int) 0), (Value.int (7 : Int) 0), (Value.int (16 : Int) 0), (Value.int (13 : Int) 0), (Value.int (16 : Int) 0), (Value.int (10 : Int) 0), (Value.int (15 : Int) 0), (Value.int (18 : Int) 0), (Value.int (5 : Int) 0), (Value.int (16 : Int) 0), (Value.int (10 : Int) 0), (Value.int (15 : Int) 0), (Value.int (13 : Int) 0), (Value.int (11 : Int) 0), (Value.int (16 : Int) 0), (Value.int (13 : Int) 0), (Value.int (5 : Int) 0), (Value.int (5 : Int) 0), (Value.int (0 : Int) 0), (Value.int (16 : Int) 0), (Value.int (10 : Int) 0), (Value.int (1 : Int) 0), (Value.int (15 : Int) 0), (Value.int (2 : Int) 0), (Value.int (0 : Int) 0), (Value.int (1 : Int) 0)] 0) #[])) ::
    (nat_lit 76, (Obj.mk (Value.type "re.Pattern") Option.none (Data.fields #[(Value.str (Str.ofString "(?:\\r\\n|\\n|\\r(?!\\n))") 387), (Value.int (32 : Int) 426), (Value.int (0 : Int) 0), Value.none, Value.none, (Value.ref 75), (Value.int (0 : Int) 0)]) #[])) ::
    (nat_lit 77, (Obj.mk (Value.type "tuple") Option.none (Data.seq #[] 0) #[])) ::
    (nat_lit 79, (Obj.mk (Value.type "tuple") Option.none (Data.seq #[(Value.str (Str.ofString "data") 433)] 0) #[])) ::
    (nat_lit 80, (Obj.mk (Value.type "tuple") Option.none (Data.seq #[] 0) #[])) ::
    (nat_lit 82, (Obj.mk (Value.type "code") Option.none (Data.fields #[(Value.str (Str.ofString "quotedata") 430), (Value.str (Str.ofString "quotedata") 431), (Value.str (Str.ofString "/claim/cut.py") 432), (Value.int (67 : Int) 0), (Value.int (1 : Int) 0), (Value.int (0 : Int) 0), (Value.int (0 : Int) 0), (Value.int (3 : Int) 0), (Value.ref 77), (Value.bool Bool.true), (Value.int (276 : Int) 0), (Value.ref 78), Value.none, (Value.ref 79), (Value.ref 80), (Value.ref 81), (Value.int (434 : Int) 0), (Value.int (67 : Int) 0), (Value.str (Str.ofString "/claim/cut.py") 435)]) #[])) ::
    (nat_lit 83, (Obj.mk (Value.type "function") Option.none (Data.func (FuncData.mk (Str.ofString "quotedata") (Str.ofString "quotedata") p4 (FuncBody.stmts b4) s4 3 [] Value.none Value.none Value.none (Value.str (Str.ofString "cpy313.smtplib") 368) Option.none (Value.ref 82) Value.none 0)) #[])) ::
    (nat_lit 84, (Obj.mk (Value.type "dict") Option.none (Data.dict (List.toArray ((DictEntry.mk (PyData.keyHash P (Str.ofString "!")) (Value.str (Str.ofString "!") 539) (Value.int (54 : Int) 535)) :: (DictEntry.mk (PyData.keyHash P (Str.ofString "!=")) (Value.str (Str.ofString "!=") 541) (Value.int (28 : Int) 483)) :: (DictEntry.mk (PyData.keyHash P (Str.ofString "%")) (Value.str (Str.ofString "%") 543) (Value.int (24 : Int) 475)) :: (DictEntry.mk (PyData.keyHash P (Str.ofString "%=")) (Value.str (Str.ofString "%=") 545) (Value.int (40 : Int) 507)) :: (DictEntry.mk (PyData.keyHash P (Str.ofString "&")) (Value.str (Str.ofString "&") 547) (Value.int (19 : Int) 465)) :: (DictEntry.mk (PyData.keyHash P (Str.ofString "&=")) (Value.str (Str.ofString "&=") 549) (Value.int (41 : Int) 509)) :: (DictEntry.mk (PyData.keyHash P (Str.ofString "(")) (Value.str (Str.ofString "(") 551) (Value.int (7 : Int) 441)) :: (DictEntry.mk (PyData.keyHash P (Str.ofString ")")) (Value.str (Str.ofString ")") 553) (Value.int (8 : Int) 443)) :: (DictEntry.mk (PyData.keyHash P (Str.ofString "*")) (Value.str (Str.ofString "*") 555) (Value.int (16 : Int) 459)) :: (DictEntry.mk (PyData.keyHash P (Str.ofString "**")) (Value.str (Str.ofString "**") 557) (Value.int (35 : Int) 497)) :: (DictEntry.mk (PyData.keyHash P (Str.ofString "**=")) (Value.str (Str.ofString "**=") 559) (Value.int (46 : Int) 519)) :: (DictEntry.mk (PyData.keyHash P (Str.ofString "*=")) (Value.str (Str.ofString "*=") 561) (Value.int (38 : Int) 503)) :: (DictEntry.mk (PyData.keyHash P (Str.ofString "+")) (Value.str (Str.ofString "+") 563) (Value.int (14 : Int) 455)) :: (DictEntry.mk (PyData.keyHash P (Str.ofString "+=")) (Value.str (Str.ofString "+=") 565) (Value.int (36 : Int) 499)) :: (DictEntry.mk (PyData.keyHash P (Str.ofString ",")) (Value.str (Str.ofString ",") 567) (Value.int (12 : Int) 451)) :: (DictEntry.mk (PyData.keyHash P (Str.ofString "-")) (Value.str (Str.ofString "-") 569) (Value.int (15 : Int) 457)) :: (DictEntry.mk (PyData.keyHash P (Str.ofString "-=")) (Value.str (Str.ofString "-=") 571) (Value.int (37 : Int) 501)) :: (DictEntry.mk (PyData.keyHash P (Str.ofString "->")) (Value.str (Str.ofString "->") 573) (Value.int (51 : Int) 529)) :: (DictEntry.mk (PyData.keyHash P (Str.ofString ".")) (Value.str (Str.ofString ".") 575) (Value.int (23 : Int) 473)) :: (DictEntry.mk (PyData.keyHash P (Str.ofString "...")) (Value.str (Str.ofString "...") 577) (Value.int (52 : Int) 531)) :: (DictEntry.mk (PyData.keyHash P (Str.ofString "/")) (Value.str (Str.ofString "/") 579) (Value.int (17 : Int) 461)) :: (DictEntry.mk (PyData.keyHash P (Str.ofString "//")) (Value.str (Str.ofString "//") 581) (Value.int (47 : Int) 521)) :: (DictEntry.mk (PyData.keyHash P (Str.ofString "//=")) (Value.str (Str.ofString "//=") 583) (Value.int (48 : Int) 523)) :: (DictEntry.mk (PyData.keyHash P (Str.ofString "/=")) (Value.str (Str.ofString "/=") 585) (Value.int (39 : Int) 505)) :: (DictEntry.mk (PyData.keyHash P (Str.ofString ":")) (Value.str (Str.ofString ":") 587) (Value.int (11 : Int) 449)) :: (DictEntry.mk (PyData.keyHash P (Str.ofString ":=")) (Value.str (Str.ofString ":=") 589) (Value.int (53 : Int) 533)) :: (DictEntry.mk (PyData.keyHash P (Str.ofString ";")) (Value.str (Str.ofString ";") 591) (Value.int (13 : Int) 453)) :: (DictEntry.mk (PyData.keyHash P (Str.ofString "<")) (Value.str (Str.ofString "<") 593) (Value.int (20 : Int) 467)) :: (DictEntry.mk (PyData.keyHash P (Str.ofString "<<")) (Value.str (Str.ofString "<<") 595) (Value.int (33 : Int) 493)) :: (DictEntry.mk (PyData.keyHash P (Str.ofString "<<=")) (Value.str (Str.ofString "<<=") 597) (Value.int (44 : Int) 515)) :: (DictEntry.mk (PyData.keyHash P (Str.ofString "<=")) (Value.str (Str.ofString "<=") 599) (Value.int (29 : Int) 485)) :: (DictEntry.mk (PyData.keyHash P (Str.ofString "=")) (Value.str (Str.ofString "=") 601) (Value.int (22 : Int) 471)) :: (DictEntry.mk (PyData.keyHash P (Str.ofString "==")) (Value.str (Str.ofString "==") 603) (Value.int (27 : Int) 481)) :: (DictEntry.mk (PyData.keyHash P (Str.ofString ">")) (Value.str (Str.ofString ">") 605) (Value.int (21 : Int) 469)) :: (DictEntry.mk (PyData.keyHash P (Str.ofString ">=")) (Value.str (Str.ofString ">=") 607) (Value.int (30 : Int) 487)) :: (DictEntry.mk (PyData.keyHash P (Str.ofString ">>")) (Value.str (Str.ofString ">>") 608) (Value.int (34 : Int) 495)) :: (DictEntry.mk (PyData.keyHash P (Str.ofString ">>=")) (Value.str (Str.ofString ">>=") 609) (Value.int (45 : Int) 517)) :: (DictEntry.mk (PyData.keyHash P (Str.ofString "@")) (Value.str (Str.ofString "@") 610) (Value.int (49 : Int) 525)) :: (DictEntry.mk (PyData.keyHash P (Str.ofString "@=")) (Value.str (Str.ofString "@=") 611) (Value.int (50 : Int) 527)) :: (DictEntry.mk (PyData.keyHash P (Str.ofString "[")) (Value.str (Str.ofString "[") 612) (Value.int (9 : Int) 445)) :: (DictEntry.mk (PyData.keyHash P (Str.ofString "]")) (Value.str (Str.ofString "]") 613) (Value.int (10 : Int) 447)) :: (DictEntry.mk (PyData.keyHash P (Str.ofString "^")) (Value.str (Str.ofString "^") 614) (Value.int (32 : Int) 491)) :: (DictEntry.mk (PyData.keyHash P (Str.ofString "^=")) (Value.str (Str.ofString "^=") 615) (Value.int (43 : Int) 513)) :: (DictEntry.mk (PyData.keyHash P (Str.ofString "{")) (Value.str (Str.ofString "{") 616) (Value.int (25 : Int) 477)) :: (DictEntry.mk (PyData.keyHash P (Str.ofString "|")) (Value.str (Str.ofString "|") 617) (Value.int (18 : Int) 463)) :: (DictEntry.mk (PyData.keyHash P (Str.ofString "|=")) (Value.str (Str.ofString "|=") 618) (Value.int (42 : Int) 511)) :: (DictEntry.mk (PyData.keyHash P (Str.ofString "}")) (Value.str (Str.ofString "}") 619) (Value.int (26 : Int) 479)) :: (DictEntry.mk (PyData.keyHash P (Str.ofString "~")) (Value.str (Str.ofString "~") 620) (Value.int (31 : Int) 489)) :: [])) 48) #[])) ::
    (nat_lit 87, (Obj.mk (Value.type "tuple") Option.none (Data.seq #[] 0) #[])) ::
    (nat_lit 89, (Obj.mk (Value.type "tuple") Option.none (Data.seq #[(Value.str (Str.ofString "x") 639)] 0) #[])) ::
    (nat_lit 90, (Obj.mk (Value.type "tuple") Option.none (Data.seq #[] 0) #[])) ::
    (nat_lit 92, (Obj.mk (Value.type "code") Option.none (Data.fields #[(Value.str (Str.ofString "ISTERMINAL") 636), (Value.str (Str.ofString "ISTERMINAL") 637), (Value.str (Str.ofString "/claim/cut.py") 638), (Value.int (121 : Int) 0), (Value.int (1 : Int) 0), (Value.int (0 : Int) 0), (Value.int (0 : Int) 0), (Value.int (3 : Int) 0), (Value.ref 87), (Value.bool Bool.true), (Value.int (276 : Int) 0), (Value.ref 88), Value.none, (Value.ref 89), (Value.ref 90), (Value.ref 91), (Value.int (640 : Int) 0), (Value.int (121 : Int) 0), (Value.str (Str.ofString "/claim/cut.py") 641)]) #[])) ::
    (nat_lit 93, (Obj.mk (Value.type "function") Option.none (Data.func (FuncData.mk (Str.ofString "ISTERMINAL") (Str.ofString "ISTERMINAL") p5 (FuncBody.stmts b5) s5 3 [] Value.none Value.none Value.none (Value.str (Str.ofString "cpy313.token") 437) Option.none (Value.ref 92) Value.none 0)) #[])) ::
    (nat_lit 94, (Obj.mk (Value.type "tuple") Option.none (Data.seq #[] 0) #[])) ::
    (nat_lit 96, (Obj.mk (Value.type "tuple") Option.none (Data.seq #[(Value.str (Str.ofString "x") 646)] 0) #[])) ::
    (nat_lit 97, (Obj.mk (Value.type "tuple") Option.none (Data.seq #[] 0) #[])) ::
    (nat_lit 99, (Obj.mk (Value.type "code") Option.none (Data.fields #[(Value.str (Str.ofString "ISNONTERMINAL") 643), (Value.str (Str.ofString "ISNONTERMINAL") 644), (Value.str (Str.ofString "/claim/cut.py") 645), (Value.int (123 : Int) 0), (Value.int (1 : Int) 0), (Value.int (0 : Int) 0), (Value.int (0 : Int) 0), (Value.int (3 : Int) 0), (Value.ref 94), (Value.bool Bool.true), (Value.int (276 : Int) 0), (Value.ref 95), Value.none, (Value.ref 96), (Value.ref 97), (Value.ref 98), (Value.int (647 : Int) 0), (Value.int (123 : Int) 0), (Value.str (Str.ofString "/claim/cut.py") 648)]) #[])) ::
    (nat_lit 100, (Obj.mk (Value.type "function") Option.none (Data.func (FuncData.mk (Str.ofString "ISNONTERMINAL") (Str.ofString "ISNONTERMINAL") p6 (FuncBody.stmts b6) s6 3 [] Value.none Value.none Value.none (Value.str (Str.ofString "cpy313.token") 437) Option.none (Value.ref 99) Value.none 0)) #[])) ::
    (nat_lit 101, (Obj.mk (Value.type "tuple") Option.none (Data.seq #[] 0) #[])) ::
    (nat_lit 103, (Obj.mk (Value.type "tuple") Option.none (Data.seq #[(Value.str (Str.ofString "x") 653)] 0) #[])) ::
    (nat_lit 104, (Obj.mk (Value.type "tuple") Option.none (Data.seq #[] 0) #[])) ::
    (nat_lit 106, (Obj.mk (Value.type "code") Option.none (Data.fields #[(Value.str (Str.ofString "ISEOF") 650), (Value.str (Str.ofString "ISEOF") 651), (Value.str (Str.ofString "/claim/cut.py") 652), (Value.int (125 : Int) 0), (Value.int (1 : Int) 0), (Value.int (0 : Int) 0), (Value.int (0 : Int) 0), (Value.int (3 : Int) 0), (Value.ref 101), (Value.bool Bool.true), (Value.int (276 : Int) 0), (Value.ref 102), Value.none, (Value.ref 103), (Value.ref 104), (Value.ref 105), (Value.int (654 : Int) 0), (Value.int (125 : Int) 0), (Value.str (Str.ofString "/claim/cut.py") 655)]) #[])) ::
    (nat_lit 107, (Obj.mk (Value.type "function") Option.none (Data.func (FuncData.mk (Str.ofString "ISEOF") (Str.ofString "ISEOF") p7 (FuncBody.stmts b7) s7 3 [] Value.none Value.none Value.none (Value.str (Str.ofString "cpy313.token") 437) Option.none (Value.ref 106) Value.none 0)) #[])) ::
    (nat_lit 108, (Obj.mk (Value.type "tuple") Option.none (Data.seq #[] 0) #[])) ::
    (nat_lit 110, (Obj.mk (Value.type "tuple") Option.none (Data.seq #[(Value.str (Str.ofString "script") 662), (Value.str (Str.ofString "numbers") 663), (Value.str (Str.ofString "place") 664), (Value.str (Str.ofString "x") 665)] 0) #[])) ::
    (nat_lit 111, (Obj.mk (Value.type "tuple") Option.none (Data.seq #[] 0) #[])) ::
    (nat_lit 113, (Obj.mk (Value.type "code") Option.none (Data.fields #[(Value.str (Str.ofString "_law_numbers") 659), (Value.str (Str.ofString "_law_numbers") 660), (Value.str (Str.ofString "/claim/cut.py") 661), (Value.int (128 : Int) 0), (Value.int (1 : Int) 0), (Value.int (0 : Int) 0), (Value.int (0 : Int) 0), (Value.int (3 : Int) 0), (Value.ref 108), (Value.bool Bool.true), (Value.int (276 : Int) 0), (Value.ref 109), Value.none, (Value.ref 110), (Value.ref 111), (Value.ref 112), (Value.int (666 : Int) 0), (Value.int (128 : Int) 0), (Value.str (Str.ofString "/claim/cut.py") 667)]) #[])) ::
    (nat_lit 114, (Obj.mk (Value.type "function") Option.none (Data.func (FuncData.mk (Str.ofString "_law_numbers") (Str.ofString "_law_numbers") p8 (FuncBody.stmts b8) s8 3 [] Value.none Value.none Value.none (Value.str (Str.ofString "law_us0009_01") 657) Option.none (Value.ref 113) Value.none 0)) #[])) ::
    (nat_lit 115, (Obj.mk (Value.type "tuple") Option.none (Data.seq #[] 0) #[])) ::
    (nat_lit 117, (Obj.mk (Value.type "tuple") Option.none (Data.seq #[(Value.str (Str.ofString "number") 672), (Value.str (Str.ofString "board") 673), (Value.str (Str.ofString "row") 674)] 0) #[])) ::
    (nat_lit 118, (Obj.mk (Value.type "tuple") Option.none (Data.seq #[] 0) #[])) ::
    (nat_lit 120, (Obj.mk (Value.type "code") Option.none (Data.fields #[(Value.str (Str.ofString "_law_board") 669), (Value.str (Str.ofString "_law_board") 670), (Value.str (Str.ofString "/claim/cut.py") 671), (Value.int (135 : Int) 0), (Value.int (1 : Int) 0), (Value.int (0 : Int) 0), (Value.int (0 : Int) 0), (Value.int (3 : Int) 0), (Value.ref 115), (Value.bool Bool.true), (Value.int (276 : Int) 0), (Value.ref 116), Value.none, (Value.ref 117), (Value.ref 118), (Value.ref 119), (Value.int (675 : Int) 0), (Value.int (135 : Int) 0), (Value.str (Str.ofString "/claim/cut.py") 676)]) #[])) ::
    (nat_lit 121, (Obj.mk (Value.type "function") Option.none (Data.func (FuncData.mk (Str.ofString "_law_board") (Str.ofString "_law_board") p9 (FuncBody.stmts b9) s9 3 [] Value.none Value.none Value.none (Value.str (Str.ofString "law_us0009_01") 657) Option.none (Value.ref 120) Value.none 0)) #[])) ::
    (nat_lit 122, (Obj.mk (Value.type "tuple") Option.none (Data.seq #[] 0) #[])) ::
    (nat_lit 125, (Obj.mk (Value.type "code") Option.none (Data.fields #[(Value.str (Str.ofString "_law_partner") 678), (Value.str (Str.ofString "_law_partner") 679), (Value.str (Str.ofString "/claim/cut.py") 680), (Value.int (140 : Int) 0), (Value.int (3 : Int) 0), (Value.int (0 : Int) 0), (Value.int (0 : Int) 0), (Value.int (3 : Int) 0), (Value.ref 122), (Value.bool Bool.true), (Value.int (276 : Int) 0), (Value.ref 123), Value.none, Value.none, Value.none, (Value.ref 124), (Value.int (681 : Int) 0), (Value.int (140 : Int) 0), (Value.str (Str.ofString "/claim/cut.py") 682)]) #[])) ::
    (nat_lit 126, (Obj.mk (Value.type "function") Option.none (Data.func (FuncData.mk (Str.ofString "_law_partner") (Str.ofString "_law_partner") p10 (FuncBody.stmts b10) s10 3 [] Value.none Value.none Value.none (Value.str (Str.ofString "law_us0009_01") 657) Option.none (Value.ref 125) Value.none 0)) #[])) ::
    (nat_lit 127, (Obj.mk (Value.type "tuple") Option.none (Data.seq #[] 0) #[])) ::
    (nat_lit 129, (Obj.mk (Value.type "tuple") Option.none (Data.seq #[(Value.str (Str.ofString "sizes") 687), (Value.str (Str.ofString "style") 688), (Value.str (Str.ofString "text") 689), (Value.str (Str.ofString "row") 690)] 0) #[])) ::
    (nat_lit 130, (Obj.mk (Value.type "tuple") Option.none (Data.seq #[] 0) #[])) ::
    (nat_lit 132, (Obj.mk (Value.type "code") Option.none (Data.fields #[(Value.str (Str.ofString "_law_mail") 684), (Value.str (Str.ofString "_law_mail") 685), (Value.str (Str.ofString "/claim/cut.py") 686), (Value.int (155 : Int) 0), (Value.int (2 : Int) 0), (Value.int (0 : Int) 0), (Value.int (0 : Int) 0), (Value.int (3 : Int) 0), (Value.ref 127), (Value.bool Bool.true), (Value.int (276 : Int) 0), (Value.ref 128), Value.none, (Value.ref 129), (Value.ref 130), (Value.ref 131), (Value.int (691 : Int) 0), (Value.int (155 : Int) 0), (Value.str (Str.ofString "/claim/cut.py") 692)]) #[])) ::
    (nat_lit 133, (Obj.mk (Value.type "function") Option.none (Data.func (FuncData.mk (Str.ofString "_law_mail") (Str.ofString "_law_mail") p11 (FuncBody.stmts b11) s11 3 [] Value.none Value.none Value.none (Value.str (Str.ofString "law_us0009_01") 657) Option.none (Value.ref 132) Value.none 0)) #[])) ::
    (nat_lit 134, (Obj.mk (Value.type "tuple") Option.none (Data.seq #[] 0) #[])) ::
    (nat_lit 136, (Obj.mk (Value.type "tuple") Option.none (Data.seq #[(Value.str (Str.ofString "mail") 697), (Value.str (Str.ofString "pile") 698), (Value.str (Str.ofString "place") 699), (Value.str (Str.ofString "take") 700), (Value.str (Str.ofString "count") 701), (Value.str (Str.ofString "rows") 702), (Value.str (Str.ofString "symbol") 703)] 0) #[])) ::
    (nat_lit 137, (Obj.mk (Value.type "tuple") Option.none (Data.seq #[] 0) #[])) ::
    (nat_lit 139, (Obj.mk (Value.type "code") Option.none (Data.fields #[(Value.str (Str.ofString "_law_read") 694), (Value.str (Str.ofString "_law_read") 695), (Value.str (Str.ofString "/claim/cut.py") 696), (Value.int (160 : Int) 0), (Value.int (1 : Int) 0), (Value.int (0 : Int) 0), (Value.int (0 : Int) 0), (Value.int (3 : Int) 0), (Value.ref 134), (Value.bool Bool.true), (Value.int (276 : Int) 0), (Value.ref 135), Value.none, (Value.ref 136), (Value.ref 137), (Value.ref 138), (Value.int (704 : Int) 0), (Value.int (160 : Int) 0), (Value.str (Str.ofString "/claim/cut.py") 705)]) #[])) ::
    (nat_lit 140, (Obj.mk (Value.type "function") Option.none (Data.func (FuncData.mk (Str.ofString "_law_read") (Str.ofString "_law_read") p12 (FuncBody.stmts b12) s12 3 [] Value.none Value.none Value.none (Value.str (Str.ofString "law_us0009_01") 657) Option.none (Value.ref 139) Value.none 0)) #[])) ::
    (nat_lit 141, (Obj.mk (Value.type "tuple") Option.none (Data.seq #[] 0) #[])) ::
    (nat_lit 143, (Obj.mk (Value.type "tuple") Option.none (Data.seq #[(Value.str (Str.ofString "number") 710)] 0) #[])) ::
    (nat_lit 144, (Obj.mk (Value.type "tuple") Option.none (Data.seq #[] 0) #[])) ::
    (nat_lit 146, (Obj.mk (Value.type "code") Option.none (Data.fields #[(Value.str (Str.ofString "_law_words") 707), (Value.str (Str.ofString "_law_words") 708), (Value.str (Str.ofString "/claim/cut.py") 709), (Value.int (182 : Int) 0), (Value.int (1 : Int) 0), (Value.int (0 : Int) 0), (Value.int (0 : Int) 0), (Value.int (3 : Int) 0), (Value.ref 141), (Value.bool Bool.true), (Value.int (276 : Int) 0), (Value.ref 142), Value.none, (Value.ref 143), (Value.ref 144), (Value.ref 145), (Value.int (711 : Int) 0), (Value.int (182 : Int) 0), (Value.str (Str.ofString "/claim/cut.py") 712)]) #[])) ::
    (nat_lit 147, (Obj.mk (Value.type "function") Option.none (Data.func (FuncData.mk (Str.ofString "_law_words") (Str.ofString "_law_words") p13 (FuncBody.stmts b13) s13 3 [] Value.none Value.none Value.none (Value.str (Str.ofString "law_us0009_01") 657) Option.none (Value.ref 146) Value.none 0)) #[])) ::
    (nat_lit 148, (Obj.mk (Value.type "tuple") Option.none (Data.seq #[] 0) #[])) ::
    (nat_lit 150, (Obj.mk (Value.type "tuple") Option.none (Data.seq #[(Value.str (Str.ofString "board") 717), (Value.str (Str.ofString "q") 718), (Value.str (Str.ofString "ways") 719), (Value.str (Str.ofString "size") 720), (Value.str (Str.ofString "cells") 721), (Value.str (Str.ofString "later") 722), (Value.str (Str.ofString "state") 723), (Value.str (Str.ofString "taken") 724), (Value.str (Str.ofString "free") 725), (Value.str (Str.ofString "column") 726), (Value.str (Str.ofString "put") 727), (Value.str (Str.ofString "counts") 728)] 0) #[])) ::
    (nat_lit 151, (Obj.mk (Value.type "tuple") Option.none (Data.seq #[] 0) #[])) ::
    (nat_lit 153, (Obj.mk (Value.type "code") Option.none (Data.fields #[(Value.str (Str.ofString "_law_rooks") 714), (Value.str (Str.ofString "_law_rooks") 715), (Value.str (Str.ofString "/claim/cut.py") 716), (Value.int (184 : Int) 0), (Value.int (2 : Int) 0), (Value.int (0 : Int) 0), (Value.int (0 : Int) 0), (Value.int (3 : Int) 0), (Value.ref 148), (Value.bool Bool.true), (Value.int (276 : Int) 0), (Value.ref 149), Value.none, (Value.ref 150), (Value.ref 151), (Value.ref 152), (Value.int (729 : Int) 0), (Value.int (184 : Int) 0), (Value.str (Str.ofString "/claim/cut.py") 730)]) #[])) ::
    (nat_lit 154, (Obj.mk (Value.type "function") Option.none (Data.func (FuncData.mk (Str.ofString "_law_rooks") (Str.ofString "_law_rooks") p14 (FuncBody.stmts b14) s14 3 [] Value.none Value.none Value.none (Value.str (Str.ofString "law_us0009_01") 657) Option.none (Value.ref 153) Value.none 0)) #[])) ::
    (nat_lit 155, (Obj.mk (Value.type "tuple") Option.none (Data.seq #[] 0) #[])) ::
    (nat_lit 157, (Obj.mk (Value.type "tuple") Option.none (Data.seq #[(Value.str (Str.ofString "number") 735), (Value.str (Str.ofString "q") 736), (Value.str (Str.ofString "meant") 737), (Value.str (Str.ofString "summand") 738)] 0) #[])) ::
    (nat_lit 158, (Obj.mk (Value.type "tuple") Option.none (Data.seq #[] 0) #[])) ::
    (nat_lit 160, (Obj.mk (Value.type "code") Option.none (Data.fields #[(Value.str (Str.ofString "_law_meant") 732), (Value.str (Str.ofString "_law_meant") 733), (Value.str (Str.ofString "/claim/cut.py") 734), (Value.int (203 : Int) 0), (Value.int (2 : Int) 0), (Value.int (0 : Int) 0), (Value.int (0 : Int) 0), (Value.int (3 : Int) 0), (Value.ref 155), (Value.bool Bool.true), (Value.int (276 : Int) 0), (Value.ref 156), Value.none, (Value.ref 157), (Value.ref 158), (Value.ref 159), (Value.int (739 : Int) 0), (Value.int (203 : Int) 0), (Value.str (Str.ofString "/claim/cut.py") 740)]) #[])) ::
    (nat_lit 161, (Obj.mk (Value.type "function") Option.none (Data.func (FuncData.mk (Str.ofString "_law_meant") (Str.ofString "_law_meant") p15 (FuncBody.stmts b15) s15 3 [] Value.none Value.none Value.none (Value.str (Str.ofString "law_us0009_01") 657) Option.none (Value.ref 160) Value.none 0)) #[])) ::
    (nat_lit 162, (Obj.mk (Value.type "tuple") Option.none (Data.seq #[] 0) #[])) ::
    (nat_lit 164, (Obj.mk (Value.type "tuple") Option.none (Data.seq #[(Value.str (Str.ofString "counts") 745), (Value.str (Str.ofString "x") 746), (Value.str (Str.ofString "q") 747), (Value.str (Str.ofString "whole") 748), (Value.str (Str.ofString "k") 749), (Value.str (Str.ofString "part") 750), (Value.str (Str.ofString "less") 751)] 0) #[])) ::
    (nat_lit 165, (Obj.mk (Value.type "tuple") Option.none (Data.seq #[] 0) #[])) ::
    (nat_lit 167, (Obj.mk (Value.type "code") Option.none (Data.fields #[(Value.str (Str.ofString "_law_spread") 742), (Value.str (Str.ofString "_law_spread") 743), (Value.str (Str.ofString "/claim/cut.py") 744), (Value.int (208 : Int) 0), (Value.int (3 : Int) 0), (Value.int (0 : Int) 0), (Value.int (0 : Int) 0), (Value.int (3 : Int) 0), (Value.ref 162), (Value.bool Bool.true), (Value.int (276 : Int) 0), (Value.ref 163), Value.none, (Value.ref 164), (Value.ref 165), (Value.ref 166), (Value.int (752 : Int) 0), (Value.int (208 : Int) 0), (Value.str (Str.ofString "/claim/cut.py") 753)]) #[])) ::
    (nat_lit 168, (Obj.mk (Value.type "function") Option.none (Data.func (FuncData.mk (Str.ofString "_law_spread") (Str.ofString "_law_spread") p16 (FuncBody.stmts b16) s16 3 [] Value.none Value.none Value.none (Value.str (Str.ofString "law_us0009_01") 657) Option.none (Value.ref 167) Value.none 0)) #[])) ::
    (nat_lit 169, (Obj.mk (Value.type "tuple") Option.none (Data.seq #[] 0) #[])) ::
    (nat_lit 171, (Obj.mk (Value.type "tuple") Option.none (Data.seq #[(Value.str (Str.ofString "rows") 758), (Value.str (Str.ofString "first") 759), (Value.str (Str.ofString "second") 760), (Value.str (Str.ofString "kind") 761), (Value.str (Str.ofString "x") 762), (Value.str (Str.ofString "q") 763), (Value.str (Str.ofString "rooks") 764), (Value.str (Str.ofString "lessened") 765), (Value.str (Str.ofString "board") 766), (Value.str (Str.ofString "line") 767), (Value.str (Str.ofString "product") 768), (Value.str (Str.ofString "row") 769)] 0) #[])) ::
    (nat_lit 172, (Obj.mk (Value.type "tuple") Option.none (Data.seq #[] 0) #[])) ::
    (nat_lit 174, (Obj.mk (Value.type "code") Option.none (Data.fields #[(Value.str (Str.ofString "_law_agree") 755), (Value.str (Str.ofString "_law_agree") 756), (Value.str (Str.ofString "/claim/cut.py") 757), (Value.int (216 : Int) 0), (Value.int (6 : Int) 0), (Value.int (0 : Int) 0), (Value.int (0 : Int) 0), (Value.int (3 : Int) 0), (Value.ref 169), (Value.bool Bool.true), (Value.int (276 : Int) 0), (Value.ref 170), Value.none, (Value.ref 171), (Value.ref 172), (Value.ref 173), (Value.int (770 : Int) 0), (Value.int (216 : Int) 0), (Value.str (Str.ofString "/claim/cut.py") 771)]) #[])) ::
    (nat_lit 175, (Obj.mk (Value.type "function") Option.none (Data.func (FuncData.mk (Str.ofString "_law_agree") (Str.ofString "_law_agree") p17 (FuncBody.stmts b17) s17 3 [] Value.none Value.none Value.none (Value.str (Str.ofString "law_us0009_01") 657) Option.none (Value.ref 174) Value.none 0)) #[])) ::
    (nat_lit 176, (Obj.mk (Value.type "tuple") Option.none (Data.seq #[] 0) #[])) ::
    (nat_lit 179, (Obj.mk (Value.type "code") Option.none (Data.fields #[(Value.str (Str.ofString "law") 773), (Value.str (Str.ofString "law") 774), (Value.str (Str.ofString "/claim/cut.py") 775), (Value.int (231 : Int) 0), (Value.int (1 : Int) 0), (Value.int (0 : Int) 0), (Value.int (0 : Int) 0), (Value.int (3 : Int) 0), (Value.ref 176), (Value.bool Bool.true), (Value.int (276 : Int) 0), (Value.ref 177), Value.none, Value.none, Value.none, (Value.ref 178), (Value.int (776 : Int) 0), (Value.int (231 : Int) 0), (Value.str (Str.ofString "/claim/cut.py") 777)]) #[])) ::
    (nat_lit 180, (Obj.mk (Value.type "function") Option.none (Data.func (FuncData.mk (Str.ofString "law") (Str.ofString "law") p18 (FuncBody.stmts b18) s18 3 [] Value.none Value.none Value.none (Value.str (Str.ofString "law_us0009_01") 657) Option.none (Value.ref 179) Value.none 0)) #[])) :: []) : List (Nat × Obj))
abbrev looseM : List Str := [Str.ofString "COMPILER_FLAG_NAMES", Str.ofString "insort_right", Str.ofString "bisect_right", Str.ofString "bisect_left", Str.ofString "_twin_re_1", Str.ofString "_twin_re_2", Str.ofString "EXACT_TOKEN_TYPES"]
abbrev addrM : List Nat := [2, 3, 32, 33, 35, 36, 38, 39, 40, 41, 42, 44, 45, 47, 48, 49, 50, 51, 53, 54, 56, 57, 58, 59, 60, 62, 63, 65, 66, 70, 71, 75, 76, 77, 79, 80, 82, 83, 84, 87, 89, 90, 92, 93, 94, 96, 97, 99, 100, 101, 103, 104, 106, 107, 108, 110, 111, 113, 114, 115, 117, 118, 120, 121, 122, 125, 126, 127, 129, 130, 132, 133, 134, 136, 137, 139, 140, 141, 143, 144, 146, 147, 148, 150, 151, 153, 154, 155, 157, 158, 160, 161, 162, 164, 165, 167, 168, 169, 171, 172, 174, 175, 176, 179, 180]
theorem addr_is (P : Params) : addrM = (hd.heap_39 P).map (·.1) := by kernel_rfl
noncomputable abbrev hookM : Hook := kHook hd.heap_39 addrM addr_is
noncomputable abbrev xtM : Shared → Bool := fun s => xlAt hd.view_39 [] s && recOk (RowW.records PySem.Challenge.rw_us0009_01.row.toRowW) s
end
section
theorem wipeHKy : True := by k_with_none; w_top off; trivial
namespace HQ
/-- the object at an address of a written list -/
def lk (n : Nat) (l : List (Nat × Obj)) : Obj := l.foldr (fun p r => bif Nat.beq p.1 n then p.2 else r) default
/-- a def's record, read out of the kept heap -/
noncomputable def kd (n : Nat) (P : Params) : FuncData := match (lk n (hd.heap_39 P)).data with | .func f => f | _ => default
noncomputable def o1 (P : Params) : Obj := (Obj.mk (Value.type "dict") Option.none (Data.dict #[(DictEntry.mk (PyData.keyHash P (Str.ofString "builtins")) (Value.str (Str.ofString "builtins") 162) (Value.ref 4)), (DictEntry.mk (PyData.keyHash P (Str.ofString "__main__")) (Value.str (Str.ofString "__main__") 163) (Value.ref 5)), (DictEntry.mk (PyData.keyHash P (Str.ofString "_sre")) (Value.str (Str.ofString "_sre") 244) (Value.ref 12))] 3) #[])
noncomputable def o4 : Obj := (Obj.mk (Value.type "module") (Option.some 0) Data.plain #[])
noncomputable def o5 : Obj := (Obj.mk (Value.type "module") (Option.some 3) Data.plain #[])
noncomputable def o6 : Obj := (Obj.mk (Value.type "dict") Option.none (Data.dict #[] 0) #[])
noncomputable def o7 : Obj := (Obj.mk (Value.type "tuple") Option.none (Data.seq #[] 0) #[])
noncomputable def o8 : Obj := (Obj.mk Value.none Option.none (Data.fields #[]) #[])
noncomputable def o9 : Obj := (Obj.mk (Value.type "code") Option.none (Data.fields #[(Value.str (Str.ofString "<module>") 176), (Value.str (Str.ofString "<module>") 177), (Value.str (Str.ofString "/claim/cut.py") 178), (Value.int (1 : Int) 0), (Value.int (0 : Int) 0), (Value.int (0 : Int) 0), (Value.int (0 : Int) 0), (Value.int (0 : Int) 0), (Value.ref 7), (Value.bool Bool.false), (Value.int (175 : Int) 0), (Value.ref 8), Value.none, Value.none, Value.none, Value.none, (Value.int (179 : Int) 0), (Value.int (1 : Int) 0), (Value.str (Str.ofString "/claim/cut.py") 180)]) #[])
noncomputable def o10 : Obj := (Obj.mk (Value.type "frame") Option.none Data.plain #[(Option.some (Value.ref 9)), (Option.some (Value.ref 3)), (Option.some (Value.ref 3)), Option.none, (Option.some (Value.str (Str.ofString "__main__") 164)), Option.none, (Option.some (Value.ref 0))])
noncomputable def o11 (P : Params) : Obj := (Obj.mk (Value.type "dict") Option.none (Data.dict #[(DictEntry.mk (PyData.keyHash P (Str.ofString "__name__")) (Value.str (Str.ofString "__name__") 247) (Value.str (Str.ofString "_sre") 246)), (DictEntry.mk (PyData.keyHash P (Str.ofString "__doc__")) (Value.str (Str.ofString "__doc__") 248) Value.none), (DictEntry.mk (PyData.keyHash P (Str.ofString "__package__")) (Value.str (Str.ofString "__package__") 250) (Value.str (Str.ofString "") 249)), (DictEntry.mk (PyData.keyHash P (Str.ofString "__loader__")) (Value.str (Str.ofString "__loader__") 251) (Value.builtin "off-the-table:_sre.__loader__:shared#opaque")), (DictEntry.mk (PyData.keyHash P (Str.ofString "__spec__")) (Value.str (Str.ofString "__spec__") 252) (Value.builtin "off-the-table:_sre.__spec__:shared#opaque")), (DictEntry.mk (PyData.keyHash P (Str.ofString "compile")) (Value.str (Str.ofString "compile") 253) (Value.builtin "_sre.compile")), (DictEntry.mk (PyData.keyHash P (Str.ofString "template")) (Value.str (Str.ofString "template") 254) (Value.builtin "off-the-table:_sre.template:shared#opaque")), (DictEntry.mk (PyData.keyHash P (Str.ofString "getcodesize")) (Value.str (Str.ofString "getcodesize") 255) (Value.builtin "off-the-table:_sre.getcodesize:shared#opaque")), (DictEntry.mk (PyData.keyHash P (Str.ofString "ascii_iscased")) (Value.str (Str.ofString "ascii_iscased") 256) (Value.builtin "off-the-table:_sre.ascii_iscased:shared#opaque")), (DictEntry.mk (PyData.keyHash P (Str.ofString "unicode_iscased")) (Value.str (Str.ofString "unicode_iscased") 257) (Value.builtin "off-the-table:_sre.unicode_iscased:shared#opaque")), (DictEntry.mk (PyData.keyHash P (Str.ofString "ascii_tolower")) (Value.str (Str.ofString "ascii_tolower") 258) (Value.builtin "off-the-table:_sre.ascii_tolower:shared#opaque")), (DictEntry.mk (PyData.keyHash P (Str.ofString "unicode_tolower")) (Value.str (Str.ofString "unicode_tolower") 259) (Value.builtin "off-the-table:_sre.unicode_tolower:shared#opaque")), (DictEntry.mk (PyData.keyHash P (Str.ofString "MAGIC")) (Value.str (Str.ofString "MAGIC") 261) (Value.int (20230612 : Int) 260)), (DictEntry.mk (PyData.keyHash P (Str.ofString "CODESIZE")) (Value.str (Str.ofString "CODESIZE") 263) (Value.int (4 : Int) 262)), (DictEntry.mk (PyData.keyHash P (Str.ofString "MAXREPEAT")) (Value.str (Str.ofString "MAXREPEAT") 265) (Value.int (4294967295 : Int) 264)), (DictEntry.mk (PyData.keyHash P (Str.ofString "MAXGROUPS")) (Value.str (Str.ofString "MAXGROUPS") 267) (Value.int (1073741823 : Int) 266)), (DictEntry.mk (PyData.keyHash P (Str.ofString "copyright")) (Value.str (Str.ofString "copyright") 269) (Value.str (Str.ofString " SRE 2.2.2 Copyright (c) 1997-2002 by Secret Labs AB ") 268))] 17) #[])
noncomputable def o12 : Obj := (Obj.mk (Value.type "module") (Option.some 11) Data.plain #[])
noncomputable def o13 (P : Params) : Obj := (Obj.mk (Value.type "dict") Option.none (Data.dict #[(DictEntry.mk (PyData.keyHash P (Str.ofString "__module__")) (Value.str (Str.ofString "__module__") 189) (Value.str (Str.ofString "_frozen_importlib") 186)), (DictEntry.mk (PyData.keyHash P (Str.ofString "__firstlineno__")) (Value.str (Str.ofString "__firstlineno__") 190) (Value.int (971 : Int) 187)), (DictEntry.mk (PyData.keyHash P (Str.ofString "__doc__")) (Value.str (Str.ofString "__doc__") 191) (Value.builtin "_frozen_importlib.BuiltinImporter.__doc__:str#opaque")), (DictEntry.mk (PyData.keyHash P (Str.ofString "_ORIGIN")) (Value.str (Str.ofString "_ORIGIN") 192) (Value.str (Str.ofString "built-in") 188)), (DictEntry.mk (PyData.keyHash P (Str.ofString "find_spec")) (Value.str (Str.ofString "find_spec") 193) (Value.builtin "_frozen_importlib.BuiltinImporter.find_spec#opaque")), (DictEntry.mk (PyData.keyHash P (Str.ofString "create_module")) (Value.str (Str.ofString "create_module") 194) (Value.builtin "_frozen_importlib.BuiltinImporter.create_module#opaque")), (DictEntry.mk (PyData.keyHash P (Str.ofString "exec_module")) (Value.str (Str.ofString "exec_module") 195) (Value.builtin "_frozen_importlib.BuiltinImporter.exec_module#opaque")), (DictEntry.mk (PyData.keyHash P (Str.ofString "get_code")) (Value.str (Str.ofString "get_code") 196) (Value.builtin "_frozen_importlib.BuiltinImporter.get_code#opaque")), (DictEntry.mk (PyData.keyHash P (Str.ofString "get_source")) (Value.str (Str.ofString "get_source") 197) (Value.builtin "_frozen_importlib.BuiltinImporter.get_source#opaque")), (DictEntry.mk (PyData.keyHash P (Str.ofString "is_package")) (Value.str (Str.ofString "is_package") 198) (Value.builtin "_frozen_importlib.BuiltinImporter.is_package#opaque")), (DictEntry.mk (PyData.keyHash P (Str.ofString "load_module")) (Value.str (Str.ofString "load_module") 199) (Value.builtin "_frozen_importlib.BuiltinImporter.load_module#opaque")), (DictEntry.mk (PyData.keyHash P (Str.ofString "__static_attributes__")) (Value.str (Str.ofString "__static_attributes__") 200) (Value.ref 15)), (DictEntry.mk (PyData.keyHash P (Str.ofString "__dict__")) (Value.str (Str.ofString "__dict__") 202) (Value.ref 16)), (DictEntry.mk (PyData.keyHash P (Str.ofString "__weakref__")) (Value.str (Str.ofString "__weakref__") 204) (Value.ref 17))] 14) #[])
noncomputable def o14 : Obj := (Obj.mk (Value.type "type") Option.none (Data.cls (ClassData.mk (Str.ofString "BuiltinImporter") [(Value.type "object")] [(Value.ref 14), (Value.type "object")] 13 (Str.ofString "BuiltinImporter") Bool.true [] [] Bool.false Option.none Bool.false)) #[])
noncomputable def o15 : Obj := (Obj.mk (Value.type "tuple") Option.none (Data.seq #[] 0) #[])
noncomputable def o16 : Obj := (Obj.mk (Value.type "getset_descriptor") Option.none (Data.fields #[(Value.str (Str.ofString "__dict__") 201), (Value.ref 14), (Value.builtin "function.__dict__"), (Value.builtin "function.__dict__#set")]) #[])
noncomputable def o17 : Obj := (Obj.mk (Value.type "getset_descriptor") Option.none (Data.fields #[(Value.str (Str.ofString "__weakref__") 203), (Value.ref 14), (Value.builtin "ExceptionGroup.__weakref__"), Value.none]) #[])
noncomputable def o18 : Obj := (Obj.mk Value.none Option.none (Data.seq #[(Value.int (13 : Int) 0), (Value.str (Str.mk (List.toArray (6 :: 189 :: 10 :: 95 :: 95 :: 109 :: 111 :: 100 :: 117 :: 108 :: 101 :: 95 :: 95 :: 6 :: 186 :: 17 :: 95 :: 102 :: 114 :: 111 :: 122 :: 101 :: 110 :: 95 :: 105 :: 109 :: 112 :: 111 :: 114 :: 116 :: 108 :: 105 :: 98 :: 6 :: 190 :: 15 :: 95 :: 95 :: 102 :: 105 :: 114 :: 115 :: 116 :: 108 :: 105 :: 110 :: 101 :: 110 :: 111 :: 95 :: 95 :: 4 :: 187 :: 0 :: 971 :: 6 :: 191 :: 7 :: 95 :: 95 :: 100 :: 111 :: 99 :: 95 :: 95 :: 9 :: 52 :: 95 :: 102 :: 114 :: 111 :: 122 :: 101 :: 110 :: 95 :: 105 :: 109 :: 112 :: 111 :: 114 :: 116 :: 108 :: 105 :: 98 :: 46 :: 66 :: 117 :: 105 :: 108 :: 116 :: 105 :: 110 :: 73 :: 109 :: 112 :: 111 :: 114 :: 116 :: 101 :: 114 :: 46 :: 95 :: 95 :: 100 :: 111 :: 99 :: 95 :: 95 :: 58 :: 115 :: 116 :: 114 :: 35 :: 111 :: 112 :: 97 :: 113 :: 117 :: 101 :: 6 :: 192 :: 7 :: 95 :: 79 :: 82 :: 73 :: 71 :: 73 :: 78 :: 6 :: 188 :: 8 :: 98 :: 117 :: 105 :: 108 :: 116 :: 45 :: 105 :: 110 :: 6 :: 193 :: 9 :: 102 :: 105 :: 110 :: 100 :: 95 :: 115 :: 112 :: 101 :: 99 :: 9 :: 50 :: 95 :: 102 :: 114 :: 111 :: 122 :: 101 :: 110 :: 95 :: 105 :: 109 :: 112 :: 111 :: 114 :: 116 :: 108 :: 105 :: 98 :: 46 :: 66 :: 117 :: 105 :: 108 :: 116 :: 105 :: 110 :: 73 :: 109 :: 112 :: 111 :: 114 :: 116 :: 101 :: 114 :: 46 :: 102 :: 105 :: 110 :: 100 :: 95 :: 115 :: 112 :: 101 :: 99 :: 35 :: 111 :: 112 :: 97 :: 113 :: 117 :: 101 :: 6 :: 194 :: 13 :: 99 :: 114 :: 101 :: 97 :: 116 :: 101 :: 95 :: 109 :: 111 :: 100 :: 117 :: 108 :: 101 :: 9 :: 54 :: 95 :: 102 :: 114 :: 111 :: 122 :: 101 :: 110 :: 95 :: 105 :: 109 :: 112 :: 111 :: 114 :: 116 :: 108 :: 105 :: 98 :: 46 :: 66 :: 117 :: 105 :: 108 :: 116 :: 105 :: 110 :: 73 :: 109 :: 112 :: 111 :: 114 :: 116 :: 101 :: 114 :: 46 :: 99 :: 114 :: 101 :: 97 :: 116 :: 101 :: 95 :: 109 :: 111 :: 100 :: 117 :: 108 :: 101 :: 35 :: 111 :: 112 :: 97 :: 113 :: 117 :: 101 :: 6 :: 195 :: 11 :: 101 :: 120 :: 101 :: 99 :: 95 :: 109 :: 111 :: 100 :: 117 :: 108 :: 101 :: 9 :: 52 :: 95 :: 102 :: 114 :: 111 :: 122 :: 101 :: 110 :: 95 :: 105 :: 109 :: 112 :: 111 :: 114 :: 116 :: 108 :: 105 :: 98 :: 46 :: 66 :: 117 :: 105 :: 108 :: 116 :: 105 :: 110 :: 73 :: 109 :: 112 :: 111 :: 114 :: 116 :: 101 :: 114 :: 46 :: 101 :: 120 :: 101 :: 99 :: 95 :: 109 :: 111 :: 100 :: 117 :: 108 :: 101 :: 35 :: 111 :: 112 :: 97 :: 113 :: 117 :: 101 :: 6 :: 196 :: 8 :: 103 :: 101 :: 116 :: 95 :: 99 :: 111 :: 100 :: 101 :: 9 :: 49 :: 95 :: 102 :: 114 :: 111 :: 122 :: 101 :: 110 :: 95 :: 105 :: 109 :: 112 :: 111 :: 114 :: 116 :: 108 :: 105 :: 98 :: 46 :: 66 :: 117 :: 105 :: 108 :: 116 :: 105 :: 110 :: 73 :: 109 :: 112 :: 111 :: 114 :: 116 :: 101 :: 114 :: 46 :: 103 :: 101 :: 116 :: 95 :: 99 :: 111 :: 100 :: 101 :: 35 :: 111 :: 112 :: 97 :: 113 :: 117 :: 101 :: 6 :: 197 :: 10 :: 103 :: 101 :: 116 :: 95 :: 115 :: 111 :: 117 :: 114 :: 99 :: 101 :: 9 :: 51 :: 95 :: 102 :: 114 :: 111 :: 122 :: 101 :: 110 :: 95 :: 105 :: 109 :: 112 :: 111 :: 114 :: 116 :: 108 :: 105 :: 98 :: 46 :: 66 :: 117 :: 105 :: 108 :: 116 :: 105 :: 110 :: 73 :: 109 :: 112 :: 111 :: 114 :: 116 :: 101 :: 114 :: 46 :: 103 :: 101 :: 116 :: 95 :: 115 :: 111 :: 117 :: 114 :: 99 :: 101 :: 35 :: 111 :: 112 :: 97 :: 113 :: 117 :: 101 :: 6 :: 198 :: 10 :: 105 :: 115 :: 95 :: 112 :: 97 :: 99 :: 107 :: 97 :: 103 :: 101 :: 9 :: 51 :: 95 :: 102 :: 114 :: 111 :: 122 :: 101 :: 110 :: 95 :: 105 :: 109 :: 112 :: 111 :: 114 :: 116 :: 108 :: 105 :: 98 :: 46 :: 66 :: 117 :: 105 :: 108 :: 116 :: 105 :: 110 :: 73 :: 109 :: 112 :: 111 :: 114 :: 116 :: 101 :: 114 :: 46 :: 105 :: 115 :: 95 :: 112 :: 97 :: 99 :: 107 :: 97 :: 103 :: 101 :: 35 :: 111 :: 112 :: 97 :: 113 :: 117 :: 101 :: 6 :: 199 :: 11 :: 108 :: 111 :: 97 :: 100 :: 95 :: 109 :: 111 :: 100 :: 117 :: 108 :: 101 :: 9 :: 52 :: 95 :: 102 :: 114 :: 111 :: 122 :: 101 :: 110 :: 95 :: 105 :: 109 :: 112 :: 111 :: 114 :: 116 :: 108 :: 105 :: 98 :: 46 :: 66 :: 117 :: 105 :: 108 :: 116 :: 105 :: 110 :: 73 :: 109 :: 112 :: 111 :: 114 :: 116 :: 101 :: 114 :: 46 :: 108 :: 111 :: 97 :: 100 :: 95 :: 109 :: 111 :: 100 :: 117 :: 108 :: 101 :: 35 :: 111 :: 112 :: 97 :: 113 :: 117 :: 101 :: 6 :: 200 :: 21 :: 95 :: 95 :: 115 :: 116 :: 97 :: 116 :: 105 :: 99 :: 95 :: 97 :: 116 :: 116 :: 114 :: 105 :: 98 :: 117 :: 116 :: 101 :: 115 :: 95 :: 95 :: 4 :: 0 :: 0 :: 15 :: 6 :: 202 :: 8 :: 95 :: 95 :: 100 :: 105 :: 99 :: 116 :: 95 :: 95 :: 4 :: 0 :: 0 :: 16 :: 6 :: 204 :: 11 :: 95 :: 95 :: 119 :: 101 :: 97 :: 107 :: 114 :: 101 :: 102 :: 95 :: 95 :: 4 :: 0 :: 0 :: 17 :: []))) 0), (Value.bool Bool.true), (Value.bool Bool.true), (Value.str (Str.ofString "") 205), (Value.int (21 : Int) 0), (Value.str (Str.mk (List.toArray (6 :: 227 :: 10 :: 95 :: 95 :: 109 :: 111 :: 100 :: 117 :: 108 :: 101 :: 95 :: 95 :: 6 :: 217 :: 17 :: 95 :: 102 :: 114 :: 111 :: 122 :: 101 :: 110 :: 95 :: 105 :: 109 :: 112 :: 111 :: 114 :: 116 :: 108 :: 105 :: 98 :: 6 :: 228 :: 15 :: 95 :: 95 :: 102 :: 105 :: 114 :: 115 :: 116 :: 108 :: 105 :: 110 :: 101 :: 110 :: 111 :: 95 :: 95 :: 4 :: 218 :: 0 :: 562 :: 6 :: 229 :: 7 :: 95 :: 95 :: 100 :: 111 :: 99 :: 95 :: 95 :: 9 :: 47 :: 95 :: 102 :: 114 :: 111 :: 122 :: 101 :: 110 :: 95 :: 105 :: 109 :: 112 :: 111 :: 114 :: 116 :: 108 :: 105 :: 98 :: 46 :: 77 :: 111 :: 100 :: 117 :: 108 :: 101 :: 83 :: 112 :: 101 :: 99 :: 46 :: 95 :: 95 :: 100 :: 111 :: 99 :: 95 :: 95 :: 58 :: 115 :: 116 :: 114 :: 35 :: 111 :: 112 :: 97 :: 113 :: 117 :: 101 :: 6 :: 230 :: 8 :: 95 :: 95 :: 105 :: 110 :: 105 :: 116 :: 95 :: 95 :: 9 :: 44 :: 95 :: 102 :: 114 :: 111 :: 122 :: 101 :: 110 :: 95 :: 105 :: 109 :: 112 :: 111 :: 114 :: 116 :: 108 :: 105 :: 98 :: 46 :: 77 :: 111 :: 100 :: 117 :: 108 :: 101 :: 83 :: 112 :: 101 :: 99 :: 46 :: 95 :: 95 :: 105 :: 110 :: 105 :: 116 :: 95 :: 95 :: 35 :: 111 :: 112 :: 97 :: 113 :: 117 :: 101 :: 6 :: 231 :: 8 :: 95 :: 95 :: 114 :: 101 :: 112 :: 114 :: 95 :: 95 :: 9 :: 44 :: 95 :: 102 :: 114 :: 111 :: 122 :: 101 :: 110 :: 95 :: 105 :: 109 :: 112 :: 111 :: 114 :: 116 :: 108 :: 105 :: 98 :: 46 :: 77 :: 111 :: 100 :: 117 :: 108 :: 101 :: 83 :: 112 :: 101 :: 99 :: 46 :: 95 :: 95 :: 114 :: 101 :: 112 :: 114 :: 95 :: 95 :: 35 :: 111 :: 112 :: 97 :: 113 :: 117 :: 101 :: 6 :: 232 :: 6 :: 95 :: 95 :: 101 :: 113 :: 95 :: 95 :: 9 :: 42 :: 95 :: 102 :: 114 :: 111 :: 122 :: 101 :: 110 :: 95 :: 105 :: 109 :: 112 :: 111 :: 114 :: 116 :: 108 :: 105 :: 98 :: 46 :: 77 :: 111 :: 100 :: 117 :: 108 :: 101 :: 83 :: 112 :: 101 :: 99 :: 46 :: 95 :: 95 :: 101 :: 113 :: 95 :: 95 :: 35 :: 111 :: 112 :: 97 :: 113 :: 117 :: 101 :: 6 :: 233 :: 6 :: 99 :: 97 :: 99 :: 104 :: 101 :: 100 :: 9 :: 42 :: 95 :: 102 :: 114 :: 111 :: 122 :: 101 :: 110 :: 95 :: 105 :: 109 :: 112 :: 111 :: 114 :: 116 :: 108 :: 105 :: 98 :: 46 :: 77 :: 111 :: 100 :: 117 :: 108 :: 101 :: 83 :: 112 :: 101 :: 99 :: 46 :: 99 :: 97 :: 99 :: 104 :: 101 :: 100 :: 35 :: 111 :: 112 :: 97 :: 113 :: 117 :: 101 :: 6 :: 234 :: 6 :: 112 :: 97 :: 114 :: 101 :: 110 :: 116 :: 9 :: 42 :: 95 :: 102 :: 114 :: 111 :: 122 :: 101 :: 110 :: 95 :: 105 :: 109 :: 112 :: 111 :: 114 :: 116 :: 108 :: 105 :: 98 :: 46 :: 77 :: 111 :: 100 :: 117 :: 108 :: 101 :: 83 :: 112 :: 101 :: 99 :: 46 :: 112 :: 97 :: 114 :: 101 :: 110 :: 116 :: 35 :: 111 :: 112 :: 97 :: 113 :: 117 :: 101 :: 6 :: 235 :: 12 :: 104 :: 97 :: 115 :: 95 :: 108 :: 111 :: 99 :: 97 :: 116 :: 105 :: 111 :: 110 :: 9 :: 48 :: 95 :: 102 :: 114 :: 111 :: 122 :: 101 :: 110 :: 95 :: 105 :: 109 :: 112 :: 111 :: 114 :: 116 :: 108 :: 105 :: 98 :: 46 :: 77 :: 111 :: 100 :: 117 :: 108 :: 101 :: 83 :: 112 :: 101 :: 99 :: 46 :: 104 :: 97 :: 115 :: 95 :: 108 :: 111 :: 99 :: 97 :: 116 :: 105 :: 111 :: 110 :: 35 :: 111 :: 112 :: 97 :: 113 :: 117 :: 101 :: 6 :: 236 :: 21 :: 95 :: 95 :: 115 :: 116 :: 97 :: 116 :: 105 :: 99 :: 95 :: 97 :: 116 :: 116 :: 114 :: 105 :: 98 :: 117 :: 116 :: 101 :: 115 :: 95 :: 95 :: 4 :: 0 :: 0 :: 23 :: 6 :: 238 :: 8 :: 95 :: 95 :: 100 :: 105 :: 99 :: 116 :: 95 :: 95 :: 4 :: 0 :: 0 :: 24 :: 6 :: 240 :: 11 :: 95 :: 95 :: 119 :: 101 :: 97 :: 107 :: 114 :: 101 :: 102 :: 95 :: 95 :: 4 :: 0 :: 0 :: 25 :: 6 :: 241 :: 8 :: 95 :: 95 :: 104 :: 97 :: 115 :: 104 :: 95 :: 95 :: 0 :: []))) 0), (Value.bool Bool.true), (Value.bool Bool.true), (Value.str (Str.ofString "") 242)] 1) #[])
noncomputable def o19 : Obj := (Obj.mk (Value.type "list") Option.none (Data.seq #[] 0) #[])
noncomputable def o20 (P : Params) : Obj := (Obj.mk (Value.type "dict") Option.none (Data.dict #[(DictEntry.mk (PyData.keyHash P (Str.ofString "name")) (Value.str (Str.ofString "name") 208) (Value.str (Str.ofString "_sre") 207)), (DictEntry.mk (PyData.keyHash P (Str.ofString "loader")) (Value.str (Str.ofString "loader") 209) (Value.ref 14)), (DictEntry.mk (PyData.keyHash P (Str.ofString "origin")) (Value.str (Str.ofString "origin") 210) (Value.str (Str.ofString "built-in") 184)), (DictEntry.mk (PyData.keyHash P (Str.ofString "loader_state")) (Value.str (Str.ofString "loader_state") 211) Value.none), (DictEntry.mk (PyData.keyHash P (Str.ofString "submodule_search_locations")) (Value.str (Str.ofString "submodule_search_locations") 212) Value.none), (DictEntry.mk (PyData.keyHash P (Str.ofString "_uninitialized_submodules")) (Value.str (Str.ofString "_uninitialized_submodules") 213) (Value.ref 19)), (DictEntry.mk (PyData.keyHash P (Str.ofString "_set_fileattr")) (Value.str (Str.ofString "_set_fileattr") 214) (Value.bool Bool.false)), (DictEntry.mk (PyData.keyHash P (Str.ofString "_cached")) (Value.str (Str.ofString "_cached") 215) Value.none), (DictEntry.mk (PyData.keyHash P (Str.ofString "_initializing")) (Value.str (Str.ofString "_initializing") 243) (Value.bool Bool.false))] 9) #[])
noncomputable def o21 (P : Params) : Obj := (Obj.mk (Value.type "dict") Option.none (Data.dict #[(DictEntry.mk (PyData.keyHash P (Str.ofString "__module__")) (Value.str (Str.ofString "__module__") 227) (Value.str (Str.ofString "_frozen_importlib") 217)), (DictEntry.mk (PyData.keyHash P (Str.ofString "__firstlineno__")) (Value.str (Str.ofString "__firstlineno__") 228) (Value.int (562 : Int) 218)), (DictEntry.mk (PyData.keyHash P (Str.ofString "__doc__")) (Value.str (Str.ofString "__doc__") 229) (Value.builtin "_frozen_importlib.ModuleSpec.__doc__:str#opaque")), (DictEntry.mk (PyData.keyHash P (Str.ofString "__init__")) (Value.str (Str.ofString "__init__") 230) (Value.builtin "_frozen_importlib.ModuleSpec.__init__#opaque")), (DictEntry.mk (PyData.keyHash P (Str.ofString "__repr__")) (Value.str (Str.ofString "__repr__") 231) (Value.builtin "_frozen_importlib.ModuleSpec.__repr__#opaque")), (DictEntry.mk (PyData.keyHash P (Str.ofString "__eq__")) (Value.str (Str.ofString "__eq__") 232) (Value.builtin "_frozen_importlib.ModuleSpec.__eq__#opaque")), (DictEntry.mk (PyData.keyHash P (Str.ofString "cached")) (Value.str (Str.ofString "cached") 233) (Value.builtin "_frozen_importlib.ModuleSpec.cached#opaque")), (DictEntry.mk (PyData.keyHash P (Str.ofString "parent")) (Value.str (Str.ofString "parent") 234) (Value.builtin "_frozen_importlib.ModuleSpec.parent#opaque")), (DictEntry.mk (PyData.keyHash P (Str.ofString "has_location")) (Value.str (Str.ofString "has_location") 235) (Value.builtin "_frozen_importlib.ModuleSpec.has_location#opaque")), (DictEntry.mk (PyData.keyHash P (Str.ofString "__static_attributes__")) (Value.str (Str.ofString "__static_attributes__") 236) (Value.ref 23)), (DictEntry.mk (PyData.keyHash P (Str.ofString "__dict__")) (Value.str (Str.ofString "__dict__") 238) (Value.ref 24)), (DictEntry.mk (PyData.keyHash P (Str.ofString "__weakref__")) (Value.str (Str.ofString "__weakref__") 240) (Value.ref 25)), (DictEntry.mk (PyData.keyHash P (Str.ofString "__hash__")) (Value.str (Str.ofString "__hash__") 241) Value.none)] 13) #[])
noncomputable def o22 : Obj := (Obj.mk (Value.type "type") Option.none (Data.cls (ClassData.mk (Str.ofString "ModuleSpec") [(Value.type "object")] [(Value.ref 22), (Value.type "object")] 21 (Str.ofString "ModuleSpec") Bool.true [] [] Bool.false Option.none Bool.false)) #[])
noncomputable def o23 : Obj := (Obj.mk (Value.type "tuple") Option.none (Data.seq #[(Value.str (Str.ofString "_cached") 219), (Value.str (Str.ofString "_set_fileattr") 220), (Value.str (Str.ofString "_uninitialized_submodules") 221), (Value.str (Str.ofString "loader") 222), (Value.str (Str.ofString "loader_state") 223), (Value.str (Str.ofString "name") 224), (Value.str (Str.ofString "origin") 225), (Value.str (Str.ofString "submodule_search_locations") 226)] 0) #[])
noncomputable def o24 : Obj := (Obj.mk (Value.type "getset_descriptor") Option.none (Data.fields #[(Value.str (Str.ofString "__dict__") 237), (Value.ref 22), (Value.builtin "function.__dict__"), (Value.builtin "function.__dict__#set")]) #[])
noncomputable def o25 : Obj := (Obj.mk (Value.type "getset_descriptor") Option.none (Data.fields #[(Value.str (Str.ofString "__weakref__") 239), (Value.ref 22), (Value.builtin "ExceptionGroup.__weakref__"), Value.none]) #[])
noncomputable def o26 : Obj := (Obj.mk (Value.ref 22) (Option.some 20) Data.plain #[])
noncomputable def o27 : Obj := (Obj.mk Value.none Option.none (Data.seq #[(Value.int (11 : Int) 0), (Value.str (Str.mk (List.toArray (6 :: 247 :: 8 :: 95 :: 95 :: 110 :: 97 :: 109 :: 101 :: 95 :: 95 :: 6 :: 246 :: 4 :: 95 :: 115 :: 114 :: 101 :: 6 :: 248 :: 7 :: 95 :: 95 :: 100 :: 111 :: 99 :: 95 :: 95 :: 0 :: 6 :: 250 :: 11 :: 95 :: 95 :: 112 :: 97 :: 99 :: 107 :: 97 :: 103 :: 101 :: 95 :: 95 :: 6 :: 249 :: 0 :: 6 :: 251 :: 10 :: 95 :: 95 :: 108 :: 111 :: 97 :: 100 :: 101 :: 114 :: 95 :: 95 :: 4 :: 0 :: 0 :: 14 :: 6 :: 252 :: 8 :: 95 :: 95 :: 115 :: 112 :: 101 :: 99 :: 95 :: 95 :: 4 :: 0 :: 0 :: 26 :: 6 :: 253 :: 7 :: 99 :: 111 :: 109 :: 112 :: 105 :: 108 :: 101 :: 9 :: 12 :: 95 :: 115 :: 114 :: 101 :: 46 :: 99 :: 111 :: 109 :: 112 :: 105 :: 108 :: 101 :: 6 :: 254 :: 8 :: 116 :: 101 :: 109 :: 112 :: 108 :: 97 :: 116 :: 101 :: 9 :: 13 :: 95 :: 115 :: 114 :: 101 :: 46 :: 116 :: 101 :: 109 :: 112 :: 108 :: 97 :: 116 :: 101 :: 6 :: 255 :: 11 :: 103 :: 101 :: 116 :: 99 :: 111 :: 100 :: 101 :: 115 :: 105 :: 122 :: 101 :: 9 :: 16 :: 95 :: 115 :: 114 :: 101 :: 46 :: 103 :: 101 :: 116 :: 99 :: 111 :: 100 :: 101 :: 115 :: 105 :: 122 :: 101 :: 6 :: 256 :: 13 :: 97 :: 115 :: 99 :: 105 :: 105 :: 95 :: 105 :: 115 :: 99 :: 97 :: 115 :: 101 :: 100 :: 9 :: 18 :: 95 :: 115 :: 114 :: 101 :: 46 :: 97 :: 115 :: 99 :: 105 :: 105 :: 95 :: 105 :: 115 :: 99 :: 97 :: 115 :: 101 :: 100 :: 6 :: 257 :: 15 :: 117 :: 110 :: 105 :: 99 :: 111 :: 100 :: 101 :: 95 :: 105 :: 115 :: 99 :: 97 :: 115 :: 101 :: 100 :: 9 :: 20 :: 95 :: 115 :: 114 :: 101 :: 46 :: 117 :: 110 :: 105 :: 99 :: 111 :: 100 :: 101 :: 95 :: 105 :: 115 :: 99 :: 97 :: 115 :: 101 :: 100 :: 6 :: 258 :: 13 :: 97 :: 115 :: 99 :: 105 :: 105 :: 95 :: 116 :: 111 :: 108 :: 111 :: 119 :: 101 :: 114 :: 9 :: 18 :: 95 :: 115 :: 114 :: 101 :: 46 :: 97 :: 115 :: 99 :: 105 :: 105 :: 95 :: 116 :: 111 :: 108 :: 111 :: 119 :: 101 :: 114 :: 6 :: 259 :: 15 :: 117 :: 110 :: 105 :: 99 :: 111 :: 100 :: 101 :: 95 :: 116 :: 111 :: 108 :: 111 :: 119 :: 101 :: 114 :: 9 :: 20 :: 95 :: 115 :: 114 :: 101 :: 46 :: 117 :: 110 :: 105 :: 99 :: 111 :: 100 :: 101 :: 95 :: 116 :: 111 :: 108 :: 111 :: 119 :: 101 :: 114 :: 6 :: 261 :: 5 :: 77 :: 65 :: 71 :: 73 :: 67 :: 4 :: 260 :: 0 :: 20230612 :: 6 :: 263 :: 8 :: 67 :: 79 :: 68 :: 69 :: 83 :: 73 :: 90 :: 69 :: 4 :: 262 :: 0 :: 4 :: 6 :: 265 :: 9 :: 77 :: 65 :: 88 :: 82 :: 69 :: 80 :: 69 :: 65 :: 84 :: 4 :: 264 :: 0 :: 4294967295 :: 6 :: 267 :: 9 :: 77 :: 65 :: 88 :: 71 :: 82 :: 79 :: 85 :: 80 :: 83 :: 4 :: 266 :: 0 :: 1073741823 :: 6 :: 269 :: 9 :: 99 :: 111 :: 112 :: 121 :: 114 :: 105 :: 103 :: 104 :: 116 :: 6 :: 268 :: 53 :: 32 :: 83 :: 82 :: 69 :: 32 :: 50 :: 46 :: 50 :: 46 :: 50 :: 32 :: 67 :: 111 :: 112 :: 121 :: 114 :: 105 :: 103 :: 104 :: 116 :: 32 :: 40 :: 99 :: 41 :: 32 :: 49 :: 57 :: 57 :: 55 :: 45 :: 50 :: 48 :: 48 :: 50 :: 32 :: 98 :: 121 :: 32 :: 83 :: 101 :: 99 :: 114 :: 101 :: 116 :: 32 :: 76 :: 97 :: 98 :: 115 :: 32 :: 65 :: 66 :: 32 :: []))) 0), (Value.bool Bool.true), (Value.bool Bool.false), (Value.str (Str.ofString "_sre") 271)] 0) #[])
noncomputable def o28 : Obj := (Obj.mk (Value.type "tuple") Option.none (Data.seq #[] 0) #[])
noncomputable def o29 : Obj := (Obj.mk Value.none Option.none (Data.fields (List.toArray ((Value.int (4 : Int) 0) :: (Value.int (0 : Int) 0) :: (Value.ref 38) :: (Value.int (17 : Int) 0) :: (Value.int (0 : Int) 0) :: (Value.ref 47) :: (Value.int (23 : Int) 0) :: (Value.int (0 : Int) 0) :: (Value.ref 56) :: (Value.int (43 : Int) 0) :: (Value.int (0 : Int) 0) :: (Value.ref 65) :: (Value.int (67 : Int) 0) :: (Value.int (0 : Int) 0) :: (Value.ref 82) :: (Value.int (121 : Int) 0) :: (Value.int (0 : Int) 0) :: (Value.ref 92) :: (Value.int (123 : Int) 0) :: (Value.int (0 : Int) 0) :: (Value.ref 99) :: (Value.int (125 : Int) 0) :: (Value.int (0 : Int) 0) :: (Value.ref 106) :: (Value.int (128 : Int) 0) :: (Value.int (0 : Int) 0) :: (Value.ref 113) :: (Value.int (135 : Int) 0) :: (Value.int (0 : Int) 0) :: (Value.ref 120) :: (Value.int (140 : Int) 0) :: (Value.int (0 : Int) 0) :: (Value.ref 125) :: (Value.int (155 : Int) 0) :: (Value.int (0 : Int) 0) :: (Value.ref 132) :: (Value.int (160 : Int) 0) :: (Value.int (0 : Int) 0) :: (Value.ref 139) :: (Value.int (182 : Int) 0) :: (Value.int (0 : Int) 0) :: (Value.ref 146) :: (Value.int (184 : Int) 0) :: (Value.int (0 : Int) 0) :: (Value.ref 153) :: (Value.int (203 : Int) 0) :: (Value.int (0 : Int) 0) :: (Value.ref 160) :: (Value.int (208 : Int) 0) :: (Value.int (0 : Int) 0) :: (Value.ref 167) :: (Value.int (216 : Int) 0) :: (Value.int (0 : Int) 0) :: (Value.ref 174) :: (Value.int (231 : Int) 0) :: (Value.int (0 : Int) 0) :: (Value.ref 179) :: []))) #[])
noncomputable def o30 : Obj := (Obj.mk (Value.type "code") Option.none (Data.fields #[(Value.str (Str.ofString "<module>") 277), (Value.str (Str.ofString "<module>") 278), (Value.str (Str.ofString "/claim/cut.py") 279), (Value.int (1 : Int) 0), (Value.int (0 : Int) 0), (Value.int (0 : Int) 0), (Value.int (0 : Int) 0), (Value.int (0 : Int) 0), (Value.ref 28), (Value.bool Bool.false), (Value.int (276 : Int) 0), (Value.ref 29), Value.none, Value.none, Value.none, Value.none, (Value.int (280 : Int) 0), (Value.int (1 : Int) 0), (Value.str (Str.ofString "/claim/cut.py") 281)]) #[])
noncomputable def o31 : Obj := (Obj.mk (Value.type "frame") Option.none Data.plain #[(Option.some (Value.ref 30)), (Option.some (Value.ref 3)), (Option.some (Value.ref 3)), Option.none, (Option.some (Value.str (Str.ofString "__main__") 164)), Option.none, (Option.some (Value.ref 0))])
noncomputable def o37 (P : Params) : Obj := (Obj.mk Value.none Option.none (Data.func (FuncData.mk (Str.ofString "pretty_flags") (Str.ofString "pretty_flags") (kd 39 P).params (kd 39 P).body (kd 39 P).scope 0 [] Value.none Value.none Value.none Value.none Option.none Value.none Value.none 0)) #[])
noncomputable def o46 (P : Params) : Obj := (Obj.mk Value.none Option.none (Data.func (FuncData.mk (Str.ofString "insort_right") (Str.ofString "insort_right") (kd 48 P).params (kd 48 P).body (kd 48 P).scope 0 [] Value.none Value.none Value.none Value.none Option.none Value.none Value.none 0)) #[])
noncomputable def o55 (P : Params) : Obj := (Obj.mk Value.none Option.none (Data.func (FuncData.mk (Str.ofString "bisect_right") (Str.ofString "bisect_right") (kd 57 P).params (kd 57 P).body (kd 57 P).scope 0 [] Value.none Value.none Value.none Value.none Option.none Value.none Value.none 0)) #[])
noncomputable def o64 (P : Params) : Obj := (Obj.mk Value.none Option.none (Data.func (FuncData.mk (Str.ofString "bisect_left") (Str.ofString "bisect_left") (kd 66 P).params (kd 66 P).body (kd 66 P).scope 0 [] Value.none Value.none Value.none Value.none Option.none Value.none Value.none 0)) #[])
noncomputable def o67 : Obj := (Obj.mk (Value.type "list") Option.none (Data.seq #[(Value.int (14 : Int) 373), (Value.int (4 : Int) 374), (Value.int (0 : Int) 375), (Value.int (1 : Int) 376), (Value.int (1 : Int) 377), (Value.int (6 : Int) 378), (Value.int (1 : Int) 379), (Value.int (16 : Int) 380), (Value.int (46 : Int) 381), (Value.int (1 : Int) 382)] 0) #[])
noncomputable def o72 : Obj := (Obj.mk (Value.type "list") Option.none (Data.seq #[(Value.int (14 : Int) 389), (Value.int (9 : Int) 390), (Value.int (4 : Int) 391), (Value.int (1 : Int) 392), (Value.int (2 : Int) 393), (Value.int (16 : Int) 394), (Value.int (10 : Int) 395), (Value.int (16 : Int) 396), (Value.int (13 : Int) 397), (Value.int (0 : Int) 398), (Value.int (7 : Int) 399), (Value.int (7 : Int) 400), (Value.int (16 : Int) 401), (Value.int (13 : Int) 402), (Value.int (16 : Int) 403), (Value.int (10 : Int) 404), (Value.int (15 : Int) 405), (Value.int (18 : Int) 406), (Value.int (5 : Int) 407), (Value.int (16 : Int) 408), (Value.int (10 : Int) 409), (Value.int (15 : Int) 410), (Value.int (13 : Int) 411), (Value.int (11 : Int) 412), (Value.int (16 : Int) 413), (Value.int (13 : Int) 414), (Value.int (5 : Int) 415), (Value.int (5 : Int) 416), (Value.int (0 : Int) 417), (Value.int (16 : Int) 418), (Value.int (10 : Int) 419), (Value.int (1 : Int) 420), (Value.int (15 : Int) 421), (Value.int (2 : Int) 422), (Value.int (0 : Int) 423), (Value.int (1 : Int) 424)] 0) #[])
noncomputable def o81 (P : Params) : Obj := (Obj.mk Value.none Option.none (Data.func (FuncData.mk (Str.ofString "quotedata") (Str.ofString "quotedata") (kd 83 P).params (kd 83 P).body (kd 83 P).scope 0 [] Value.none Value.none Value.none Value.none Option.none Value.none Value.none 0)) #[])
noncomputable def o85 (P : Params) : Obj := (Obj.mk (Value.type "dict") Option.none (Data.dict #[(DictEntry.mk (PyData.keyHash P (Str.ofString "->")) (Value.str (Str.ofString "->") 573) (Value.int (51 : Int) 529)), (DictEntry.mk (PyData.keyHash P (Str.ofString ".")) (Value.str (Str.ofString ".") 575) (Value.int (23 : Int) 473)), (DictEntry.mk (PyData.keyHash P (Str.ofString "...")) (Value.str (Str.ofString "...") 577) (Value.int (52 : Int) 531)), (DictEntry.mk (PyData.keyHash P (Str.ofString "/")) (Value.str (Str.ofString "/") 579) (Value.int (17 : Int) 461)), (DictEntry.mk (PyData.keyHash P (Str.ofString "//")) (Value.str (Str.ofString "//") 581) (Value.int (47 : Int) 521)), (DictEntry.mk (PyData.keyHash P (Str.ofString "//=")) (Value.str (Str.ofString "//=") 583) (Value.int (48 : Int) 523)), (DictEntry.mk (PyData.keyHash P (Str.ofString "/=")) (Value.str (Str.ofString "/=") 585) (Value.int (39 : Int) 505)), (DictEntry.mk (PyData.keyHash P (Str.ofString ":")) (Value.str (Str.ofString ":") 587) (Value.int (11 : Int) 449)), (DictEntry.mk (PyData.keyHash P (Str.ofString ":=")) (Value.str (Str.ofString ":=") 589) (Value.int (53 : Int) 533)), (DictEntry.mk (PyData.keyHash P (Str.ofString ";")) (Value.str (Str.ofString ";") 591) (Value.int (13 : Int) 453)), (DictEntry.mk (PyData.keyHash P (Str.ofString "<")) (Value.str (Str.ofString "<") 593) (Value.int (20 : Int) 467)), (DictEntry.mk (PyData.keyHash P (Str.ofString "<<")) (Value.str (Str.ofString "<<") 595) (Value.int (33 : Int) 493)), (DictEntry.mk (PyData.keyHash P (Str.ofString "<<=")) (Value.str (Str.ofString "<<=") 597) (Value.int (44 : Int) 515)), (DictEntry.mk (PyData.keyHash P (Str.ofString "<=")) (Value.str (Str.ofString "<=") 599) (Value.int (29 : Int) 485)), (DictEntry.mk (PyData.keyHash P (Str.ofString "=")) (Value.str (Str.ofString "=") 601) (Value.int (22 : Int) 471)), (DictEntry.mk (PyData.keyHash P (Str.ofString "==")) (Value.str (Str.ofString "==") 603) (Value.int (27 : Int) 481)), (DictEntry.mk (PyData.keyHash P (Str.ofString ">")) (Value.str (Str.ofString ">") 605) (Value.int (21 : Int) 469))] 17) #[])
noncomputable def o86 (P : Params) : Obj := (Obj.mk (Value.type "dict") Option.none (Data.dict #[(DictEntry.mk (PyData.keyHash P (Str.ofString ">=")) (Value.str (Str.ofString ">=") 607) (Value.int (30 : Int) 487)), (DictEntry.mk (PyData.keyHash P (Str.ofString ">>")) (Value.str (Str.ofString ">>") 608) (Value.int (34 : Int) 495)), (DictEntry.mk (PyData.keyHash P (Str.ofString ">>=")) (Value.str (Str.ofString ">>=") 609) (Value.int (45 : Int) 517)), (DictEntry.mk (PyData.keyHash P (Str.ofString "@")) (Value.str (Str.ofString "@") 610) (Value.int (49 : Int) 525)), (DictEntry.mk (PyData.keyHash P (Str.ofString "@=")) (Value.str (Str.ofString "@=") 611) (Value.int (50 : Int) 527)), (DictEntry.mk (PyData.keyHash P (Str.ofString "[")) (Value.str (Str.ofString "[") 612) (Value.int (9 : Int) 445)), (DictEntry.mk (PyData.keyHash P (Str.ofString "]")) (Value.str (Str.ofString "]") 613) (Value.int (10 : Int) 447)), (DictEntry.mk (PyData.keyHash P (Str.ofString "^")) (Value.str (Str.ofString "^") 614) (Value.int (32 : Int) 491)), (DictEntry.mk (PyData.keyHash P (Str.ofString "^=")) (Value.str (Str.ofString "^=") 615) (Value.int (43 : Int) 513)), (DictEntry.mk (PyData.keyHash P (Str.ofString "{")) (Value.str (Str.ofString "{") 616) (Value.int (25 : Int) 477)), (DictEntry.mk (PyData.keyHash P (Str.ofString "|")) (Value.str (Str.ofString "|") 617) (Value.int (18 : Int) 463)), (DictEntry.mk (PyData.keyHash P (Str.ofString "|=")) (Value.str (Str.ofString "|=") 618) (Value.int (42 : Int) 511)), (DictEntry.mk (PyData.keyHash P (Str.ofString "}")) (Value.str (Str.ofString "}") 619) (Value.int (26 : Int) 479)), (DictEntry.mk (PyData.keyHash P (Str.ofString "~")) (Value.str (Str.ofString "~") 620) (Value.int (31 : Int) 489))] 14) #[])
noncomputable def o91 (P : Params) : Obj := (Obj.mk Value.none Option.none (Data.func (FuncData.mk (Str.ofString "ISTERMINAL") (Str.ofString "ISTERMINAL") (kd 93 P).params (kd 93 P).body (kd 93 P).scope 0 [] Value.none Value.none Value.none Value.none Option.none Value.none Value.none 0)) #[])
noncomputable def o98 (P : Params) : Obj := (Obj.mk Value.none Option.none (Data.func (FuncData.mk (Str.ofString "ISNONTERMINAL") (Str.ofString "ISNONTERMINAL") (kd 100 P).params (kd 100 P).body (kd 100 P).scope 0 [] Value.none Value.none Value.none Value.none Option.none Value.none Value.none 0)) #[])
noncomputable def o105 (P : Params) : Obj := (Obj.mk Value.none Option.none (Data.func (FuncData.mk (Str.ofString "ISEOF") (Str.ofString "ISEOF") (kd 107 P).params (kd 107 P).body (kd 107 P).scope 0 [] Value.none Value.none Value.none Value.none Option.none Value.none Value.none 0)) #[])
noncomputable def o112 (P : Params) : Obj := (Obj.mk Value.none Option.none (Data.func (FuncData.mk (Str.ofString "_law_numbers") (Str.ofString "_law_numbers") (kd 114 P).params (kd 114 P).body (kd 114 P).scope 0 [] Value.none Value.none Value.none Value.none Option.none Value.none Value.none 0)) #[])
noncomputable def o119 (P : Params) : Obj := (Obj.mk Value.none Option.none (Data.func (FuncData.mk (Str.ofString "_law_board") (Str.ofString "_law_board") (kd 121 P).params (kd 121 P).body (kd 121 P).scope 0 [] Value.none Value.none Value.none Value.none Option.none Value.none Value.none 0)) #[])
noncomputable def o124 (P : Params) : Obj := (Obj.mk Value.none Option.none (Data.func (FuncData.mk (Str.ofString "_law_partner") (Str.ofString "_law_partner") (kd 126 P).params (kd 126 P).body (kd 126 P).scope 0 [] Value.none Value.none Value.none Value.none Option.none Value.none Value.none 0)) #[])
noncomputable def o131 (P : Params) : Obj := (Obj.mk Value.none Option.none (Data.func (FuncData.mk (Str.ofString "_law_mail") (Str.ofString "_law_mail") (kd 133 P).params (kd 133 P).body (kd 133 P).scope 0 [] Value.none Value.none Value.none Value.none Option.none Value.none Value.none 0)) #[])
noncomputable def o138 (P : Params) : Obj := (Obj.mk Value.none Option.none (Data.func (FuncData.mk (Str.ofString "_law_read") (Str.ofString "_law_read") (kd 140 P).params (kd 140 P).body (kd 140 P).scope 0 [] Value.none Value.none Value.none Value.none Option.none Value.none Value.none 0)) #[])
noncomputable def o145 (P : Params) : Obj := (Obj.mk Value.none Option.none (Data.func (FuncData.mk (Str.ofString "_law_words") (Str.ofString "_law_words") (kd 147 P).params (kd 147 P).body (kd 147 P).scope 0 [] Value.none Value.none Value.none Value.none Option.none Value.none Value.none 0)) #[])
noncomputable def o152 (P : Params) : Obj := (Obj.mk Value.none Option.none (Data.func (FuncData.mk (Str.ofString "_law_rooks") (Str.ofString "_law_rooks") (kd 154 P).params (kd 154 P).body (kd 154 P).scope 0 [] Value.none Value.none Value.none Value.none Option.none Value.none Value.none 0)) #[])
noncomputable def o159 (P : Params) : Obj := (Obj.mk Value.none Option.none (Data.func (FuncData.mk (Str.ofString "_law_meant") (Str.ofString "_law_meant") (kd 161 P).params (kd 161 P).body (kd 161 P).scope 0 [] Value.none Value.none Value.none Value.none Option.none Value.none Value.none 0)) #[])
noncomputable def o166 (P : Params) : Obj := (Obj.mk Value.none Option.none (Data.func (FuncData.mk (Str.ofString "_law_spread") (Str.ofString "_law_spread") (kd 168 P).params (kd 168 P).body (kd 168 P).scope 0 [] Value.none Value.none Value.none Value.none Option.none Value.none Value.none 0)) #[])
noncomputable def o173 (P : Params) : Obj := (Obj.mk Value.none Option.none (Data.func (FuncData.mk (Str.ofString "_law_agree") (Str.ofString "_law_agree") (kd 175 P).params (kd 175 P).body (kd 175 P).scope 0 [] Value.none Value.none Value.none Value.none Option.none Value.none Value.none 0)) #[])
noncomputable def o178 (P : Params) : Obj := (Obj.mk Value.none Option.none (Data.func (FuncData.mk (Str.ofString "law") (Str.ofString "law") (kd 180 P).params (kd 180 P).body (kd 180 P).scope 0 [] Value.none Value.none Value.none Value.none Option.none Value.none Value.none 0)) #[])
noncomputable def z3 (P : Params) : Obj := (Obj.mk (Value.type "dict") Option.none (Data.dict #[(DictEntry.mk (PyData.keyHash P (Str.ofString "__name__")) (Value.str (Str.ofString "__name__") 165) (Value.str (Str.ofString "__main__") 164)), (DictEntry.mk (PyData.keyHash P (Str.ofString "__doc__")) (Value.str (Str.ofString "__doc__") 166) Value.none), (DictEntry.mk (PyData.keyHash P (Str.ofString "__package__")) (Value.str (Str.ofString "__package__") 167) Value.none), (DictEntry.mk (PyData.keyHash P (Str.ofString "__loader__")) (Value.str (Str.ofString "__loader__") 168) (Value.builtin "__main__.__loader__#opaque")), (DictEntry.mk (PyData.keyHash P (Str.ofString "__spec__")) (Value.str (Str.ofString "__spec__") 169) Value.none), (DictEntry.mk (PyData.keyHash P (Str.ofString "__annotations__")) (Value.str (Str.ofString "__annotations__") 170) (Value.ref 6)), (DictEntry.mk (PyData.keyHash P (Str.ofString "__builtins__")) (Value.str (Str.ofString "__builtins__") 171) (Value.ref 4)), (DictEntry.mk (PyData.keyHash P (Str.ofString "__file__")) (Value.str (Str.ofString "__file__") 173) (Value.str (Str.ofString "/claim/cut.py") 172)), (DictEntry.mk (PyData.keyHash P (Str.ofString "__cached__")) (Value.str (Str.ofString "__cached__") 174) Value.none), (DictEntry.mk (PyData.keyHash P (Str.ofString "_sre")) (Value.str (Str.ofString "_sre") 275) (Value.ref 12))] 10) #[])
noncomputable def H0 (P : Params) : Heap := { objs := Array.mk (boot_o_0 P :: o1 P :: lk 2 (hd.heap_39 P) :: z3 P :: o4 :: o5 :: o6 :: o7 :: o8 :: o9 :: o10 :: o11 P :: o12 :: o13 P :: o14 :: o15 :: o16 :: o17 :: o18 :: o19 :: o20 P :: o21 P :: o22 :: o23 :: o24 :: o25 :: o26 :: o27 :: []) }
noncomputable def H1 (P : Params) : Heap := { objs := Array.mk (boot_o_0 P :: o1 P :: lk 2 (hd.heap_39 P) :: lk 3 (hd.heap_39 P) :: o4 :: o5 :: o6 :: o7 :: o8 :: o9 :: o10 :: o11 P :: o12 :: o13 P :: o14 :: o15 :: o16 :: o17 :: o18 :: o19 :: o20 P :: o21 P :: o22 :: o23 :: o24 :: o25 :: o26 :: o27 :: o28 :: o29 :: o30 :: o31 :: lk 32 (hd.heap_39 P) :: lk 33 (hd.heap_39 P) :: (Obj.mk Value.none Option.none (Data.fields #[]) #[]) :: lk 35 (hd.heap_39 P) :: lk 36 (hd.heap_39 P) :: o37 P :: lk 38 (hd.heap_39 P) :: lk 39 (hd.heap_39 P) :: lk 40 (hd.heap_39 P) :: lk 41 (hd.heap_39 P) :: lk 42 (hd.heap_39 P) :: (Obj.mk Value.none Option.none (Data.fields #[]) #[]) :: lk 44 (hd.heap_39 P) :: lk 45 (hd.heap_39 P) :: o46 P :: lk 47 (hd.heap_39 P) :: lk 48 (hd.heap_39 P) :: lk 49 (hd.heap_39 P) :: lk 50 (hd.heap_39 P) :: lk 51 (hd.heap_39 P) :: (Obj.mk Value.none Option.none (Data.fields #[]) #[]) :: lk 53 (hd.heap_39 P) :: lk 54 (hd.heap_39 P) :: o55 P :: lk 56 (hd.heap_39 P) :: lk 57 (hd.heap_39 P) :: lk 58 (hd.heap_39 P) :: lk 59 (hd.heap_39 P) :: lk 60 (hd.heap_39 P) :: (Obj.mk Value.none Option.none (Data.fields #[]) #[]) :: lk 62 (hd.heap_39 P) :: lk 63 (hd.heap_39 P) :: o64 P :: lk 65 (hd.heap_39 P) :: lk 66 (hd.heap_39 P) :: o67 :: (Obj.mk (Value.type "dict") Option.none (Data.dict #[] 0) #[]) :: (Obj.mk (Value.type "tuple") Option.none (Data.seq #[Value.none] 0) #[]) :: lk 70 (hd.heap_39 P) :: lk 71 (hd.heap_39 P) :: o72 :: (Obj.mk (Value.type "dict") Option.none (Data.dict #[] 0) #[]) :: (Obj.mk (Value.type "tuple") Option.none (Data.seq #[Value.none] 0) #[]) :: lk 75 (hd.heap_39 P) :: lk 76 (hd.heap_39 P) :: lk 77 (hd.heap_39 P) :: (Obj.mk Value.none Option.none (Data.fields #[]) #[]) :: lk 79 (hd.heap_39 P) :: lk 80 (hd.heap_39 P) :: o81 P :: lk 82 (hd.heap_39 P) :: lk 83 (hd.heap_39 P) :: lk 84 (hd.heap_39 P) :: o85 P :: o86 P :: lk 87 (hd.heap_39 P) :: (Obj.mk Value.none Option.none (Data.fields #[]) #[]) :: lk 89 (hd.heap_39 P) :: lk 90 (hd.heap_39 P) :: o91 P :: lk 92 (hd.heap_39 P) :: lk 93 (hd.heap_39 P) :: lk 94 (hd.heap_39 P) :: (Obj.mk Value.none Option.none (Data.fields #[]) #[]) :: lk 96 (hd.heap_39 P) :: lk 97 (hd.heap_39 P) :: o98 P :: lk 99 (hd.heap_39 P) :: lk 100 (hd.heap_39 P) :: lk 101 (hd.heap_39 P) :: (Obj.mk Value.none Option.none (Data.fields #[]) #[]) :: lk 103 (hd.heap_39 P) :: lk 104 (hd.heap_39 P) :: o105 P :: lk 106 (hd.heap_39 P) :: lk 107 (hd.heap_39 P) :: lk 108 (hd.heap_39 P) :: (Obj.mk Value.none Option.none (Data.fields #[]) #[]) :: lk 110 (hd.heap_39 P) :: lk 111 (hd.heap_39 P) :: o112 P :: lk 113 (hd.heap_39 P) :: lk 114 (hd.heap_39 P) :: lk 115 (hd.heap_39 P) :: (Obj.mk Value.none Option.none (Data.fields #[]) #[]) :: lk 117 (hd.heap_39 P) :: lk 118 (hd.heap_39 P) :: o119 P :: lk 120 (hd.heap_39 P) :: lk 121 (hd.heap_39 P) :: lk 122 (hd.heap_39 P) :: (Obj.mk Value.none Option.none (Data.fields #[]) #[]) :: o124 P :: lk 125 (hd.heap_39 P) :: lk 126 (hd.heap_39 P) :: lk 127 (hd.heap_39 P) :: (Obj.mk Value.none Option.none (Data.fields #[]) #[]) :: lk 129 (hd.heap_39 P) :: lk 130 (hd.heap_39 P) :: o131 P :: lk 132 (hd.heap_39 P) :: lk 133 (hd.heap_39 P) :: lk 134 (hd.heap_39 P) :: (Obj.mk Value.none Option.none (Data.fields #[]) #[]) :: lk 136 (hd.heap_39 P) :: lk 137 (hd.heap_39 P) :: o138 P :: lk 139 (hd.heap_39 P) :: lk 140 (hd.heap_39 P) :: lk 141 (hd.heap_39 P) :: (Obj.mk Value.none Option.none (Data.fields #[]) #[]) :: lk 143 (hd.heap_39 P) :: lk 144 (hd.heap_39 P) :: o145 P :: lk 146 (hd.heap_39 P) :: lk 147 (hd.heap_39 P) :: lk 148 (hd.heap_39 P) :: (Obj.mk Value.none Option.none (Data.fields #[]) #[]) :: lk 150 (hd.heap_39 P) :: lk 151 (hd.heap_39 P) :: o152 P :: lk 153 (hd.heap_39 P) :: lk 154 (hd.heap_39 P) :: lk 155 (hd.heap_39 P) :: (Obj.mk Value.none Option.none (Data.fields #[]) #[]) :: lk 157 (hd.heap_39 P) :: lk 158 (hd.heap_39 P) :: o159 P :: lk 160 (hd.heap_39 P) :: lk 161 (hd.heap_39 P) :: lk 162 (hd.heap_39 P) :: (Obj.mk Value.none Option.none (Data.fields #[]) #[]) :: lk 164 (hd.heap_39 P) :: lk 165 (hd.heap_39 P) :: o166 P :: lk 167 (hd.heap_39 P) :: lk 168 (hd.heap_39 P) :: lk 169 (hd.heap_39 P) :: (Obj.mk Value.none Option.none (Data.fields #[]) #[]) :: lk 171 (hd.heap_39 P) :: lk 172 (hd.heap_39 P) :: o173 P :: lk 174 (hd.heap_39 P) :: lk 175 (hd.heap_39 P) :: lk 176 (hd.heap_39 P) :: (Obj.mk Value.none Option.none (Data.fields #[]) #[]) :: o178 P :: lk 179 (hd.heap_39 P) :: lk 180 (hd.heap_39 P) :: []) }
end HQ
end
section
theorem wipeHKz : True := by k_with_none; w_top off; trivial
namespace HQ
noncomputable abbrev S1 (w : World) (os : OsState) : Shared := ⟨H1 w.params, #[], {}, 779, os⟩
set_option maxHeartbeats 0 in
/-- the opening (the imports) -/
theorem openM (w : World) : (fencedOpening treeTable PW w 4914).map (fun s => (s.heap, s.gens, s.drawn, s.toks)) = some (H0 w.params, #[], {}, 276) := by
  unfold fencedOpening
  rw [PySem.W.Fast.te14364793385576792824, PySem.W.Fast.te10274390034422433532, PySem.W.Fast.te1435165496053646825, PySem.W.Fast.te14289696077712309145]
  kernel_rfl
theorem sizeM (w : World) : ((H0 w.params).isNs mainGlobals && (#[] : Array GenState).size == 0, (H0 w.params).objs.size, (H0 w.params).nsMap mainGlobals "__annotations__") = (true, 28, some (.ref 6)) := by kernel_rfl
set_option maxHeartbeats 0 in
theorem run_f (w : World) : ∀ os : OsState, topRun treeTable PW (w.withFollow "special-get-raises" false) 28 (some (.ref 6)) 4914 ⟨H0 (w.withFollow "special-get-raises" false).params, #[], {}, 276, os⟩ (topStub PW) = some (S1 (w.withFollow "special-get-raises" false) os) := by
  intro os
  rw [PySem.W.Fast.te14364793385576792824, PySem.W.Fast.te14082659384304107361]
  kernel_rfl
set_option maxHeartbeats 0 in
theorem run_t (w : World) : ∀ os : OsState, topRun treeTable PW (w.withFollow "special-get-raises" true) 28 (some (.ref 6)) 4914 ⟨H0 (w.withFollow "special-get-raises" true).params, #[], {}, 276, os⟩ (topStub PW) = some (S1 (w.withFollow "special-get-raises" true) os) := by
  intro os
  rw [PySem.W.Fast.te14364793385576792824, PySem.W.Fast.te14082659384304107361]
  kernel_rfl
theorem runM (w : World) : ∀ os : OsState, topRun treeTable PW w 28 (some (.ref 6)) 4914 ⟨H0 w.params, #[], {}, 276, os⟩ (topStub PW) = some (S1 w os) :=
  byRow2 (P := fun w => ∀ os : OsState, topRun treeTable PW w 28 (some (.ref 6)) 4914 ⟨H0 w.params, #[], {}, 276, os⟩ (topStub PW) = some (S1 w os)) "special-get-raises" run_f run_t w
set_option maxHeartbeats 0 in
theorem k0 (w : World) (os : OsState) : seen ((recsOf hd.view_39).map (·.name)) (ownsOf hd.view_39) [] { (S1 w os) with gens := #[] } = expectedOf hd.view_39 := by
  rw [PySem.W.Fast.te5160383126252970620]
  kernel_rfl
set_option maxHeartbeats 0 in
theorem k1 (w : World) (os : OsState) : (S1 w os).heap.bltView = bltViewBooted := by
  kernel_rfl
set_option maxHeartbeats 0 in
theorem k2 (w : World) (os : OsState) : (S1 w os).heap.keysOk (looseW hd.view_39 looseM) ((recsOf hd.view_39).map (·.name)) ((litsOf hd.view_39).map (·.1)) ((clssOf hd.view_39 (looseW hd.view_39 looseM)).map (·.name)) = true := by
  rw [PySem.W.Fast.te10880121769531294198]
  kernel_rfl
set_option maxHeartbeats 0 in
theorem k2b (w : World) (os : OsState) : ((S1 w os).heap.accountedOkI (importedModules PW.main.body) && (S1 w os).heap.isNs mainGlobals && (S1 w os).heap.isNs builtinsNs) = true := by
  rw [PySem.W.Fast.te14722251495701143533, PySem.W.Fast.te5923862056798008813]
  kernel_rfl
set_option maxHeartbeats 0 in
theorem k2c (w : World) (os : OsState) : tablesOk hd.view_39 (S1 w os).heap = true := by
  rw [PySem.W.Fast.te10994771534591457954]
  kernel_rfl
set_option maxHeartbeats 0 in
theorem k2d (w : World) (os : OsState) : (xtM (S1 w os) && ((S1 w os).gens.size == 0)) = true := by
  kernel_rfl
set_option maxHeartbeats 0 in
theorem k3 (w : World) (os : OsState) : tabsOk hd.view_39 (S1 w os) = true := by
  rw [PySem.W.Fast.te479339242167458305]
  kernel_rfl
set_option maxHeartbeats 0 in
theorem k4 (w : World) (os : OsState) : pinSeenD hd.view_39 (drecsOf hd.view_39) (S1 w os) = pinGoodD (drecsOf hd.view_39) := by
  rw [PySem.W.Fast.te16090120013241838585]
  kernel_rfl
set_option maxHeartbeats 0 in
theorem k5 (w : World) (os : OsState) : plainSeenE hd.view_39 (looseW hd.view_39 looseM) (S1 w os) = plainGoodE hd.view_39 (looseW hd.view_39 looseM) := by
  rw [PySem.W.Fast.te2386780881361962483]
  kernel_rfl
set_option maxHeartbeats 0 in
theorem k6 (w : World) (os : OsState) : plainSeenD hd.view_39 looseM (S1 w os) = plainGoodD hd.view_39 looseM := by
  rw [PySem.W.Fast.te11698064438423848299]
  kernel_rfl
set_option maxHeartbeats 0 in
theorem k7 (w : World) (os : OsState) : wideSeen hd.view_39 (S1 w os) = wideGood hd.view_39 := by
  rw [PySem.W.Fast.te7317090234206586261]
  kernel_rfl
set_option maxHeartbeats 0 in
theorem k8 (w : World) (os : OsState) : clsSeenW hd.view_39 looseM (S1 w os) = clsGoodW hd.view_39 looseM := by
  rw [PySem.W.Fast.te7369524293546568484]
  kernel_rfl
set_option maxHeartbeats 0 in
theorem k9 (w : World) (os : OsState) : hookM.obs (S1 w os) = hookM.val w := by
  kernel_rfl
set_option maxHeartbeats 0 in
theorem k10 (w : World) (os : OsState) : (staticsOk (importedModules PW.main.body) (H0 w.params) (H1 w.params) && namesBound PW (H1 w.params) && gensDone (S1 w os) && laidKept (H0 w.params) (H1 w.params)) = true := by
  rw [PySem.W.Fast.te5923862056798008813]
  kernel_rfl
theorem and7 {a b c d e f g : Bool} (h1 : a = true) (h2 : (b && c && d) = true) (h3 : e = true) (h4 : (f && g) = true) : (a && b && c && d && e && f && g) = true := by
  subst h1 h3
  revert h2 h4
  cases b <;> cases c <;> cases d <;> cases f <;> cases g <;> decide
theorem seenM (w : World) (os : OsState) : openSeen hd.view_39 looseM (importedModules PW.main.body) xtM true (S1 w os) = openGood hd.view_39 looseM := by
  unfold openSeen openGood
  exact looks_pair (k0 w os) (looks_pair (k1 w os) (looks_pair (and7 (k2 w os) (k2b w os) (k2c w os) (k2d w os)) (looks_pair (k3 w os) (looks_pair (k4 w os) (looks_pair (k5 w os) (looks_pair (k6 w os) (looks_pair (k7 w os) (k8 w os))))))))
theorem leftM : LeftO PW hd.view_39 looseM xtM hookM.obs hookM.val 4914 :=
  LeftO.of_pieces (H₀ := H0) (H₁ := H1) (gs₀ := #[]) (gs₁ := #[]) (d₀ := {}) (d₁ := {}) (k₀ := 276) (k₁ := 779) (m₀ := 28) (ann := some (.ref 6)) (M := 4914) openM sizeM runM rfl
    fun w => funext fun os => looks_pair (k10 w os) (looks_pair (seenM w os) (k9 w os))
set_option maxHeartbeats 0 in
theorem saidM : PySem.Challenge.rw_us0009_01.wellSaid = true := by
  unfold OpenLaw.wellSaid OpenRow.wellSaid OpenRow.partSaid looksOpen
  repeat' (with_reducible refine look_both ?_ ?_)
  all_goals decide +kernel
theorem okM : (chainsOk hd.view_39 && opensWell PW && (frees PySem.Challenge.rw_us0009_01.row.toRowW && PySem.Challenge.rw_us0009_01.row.within.isEmpty)) = true := by decide +kernel
theorem promM : PySem.Challenge.rw_us0009_01.row.toRowW.promised := by w_on; w_witness2
end HQ
open HQ in
set_option maxHeartbeats 8000000 in
theorem headM {d : DefRec} {kwd : List (Str × PySem.Expr)} (hdef : defOf hd.view_39 PySem.Challenge.rw_us0009_01.row.name = some (d, kwd)) (hp : PW.theDef PySem.Challenge.rw_us0009_01.row.name = some (d.params, d.body, d.scope)) (hk : kwWritten? d.params.kwonlyargs d.params.kw_defaults = some kwd)
    (walk : WalkO hd.view_39 looseM (XL hd.view_39 []) hookM.says PySem.Challenge.rw_us0009_01.row.toRowW d kwd fun f vs => PySem.call f vs) : PySem.Challenge.rw_us0009_01.Holds :=
  holds_law saidM fun k1 => holds_open leftM hookM.of hookM.keeps (fun s e => xl_of s (Bool.and_eq_true_iff.mp e).1) XL.keeps hdef hp hk (fun s e => recFacts_of (Bool.and_eq_true_iff.mp e).2) (by rfl) k1 okM ⟨rfl, rfl, rfl, rfl, rfl, by decide +kernel⟩ promM walk
end
end Mine
end
section
open PySem PySem.Spec PySem.Calls PySem.W PyProof.Rows
namespace Mine
section
theorem wipeB : True := by k_with_none; w_top off; trivial
noncomputable abbrev looseN : List Str := looseW hd.view_39
    [Str.ofString "COMPILER_FLAG_NAMES", Str.ofString "insort_right", Str.ofString "bisect_right",
      Str.ofString "bisect_left", Str.ofString "_twin_re_1", Str.ofString "_twin_re_2",
      Str.ofString "EXACT_TOKEN_TYPES"]

/-- all that stood outside the ledger stands as it was -/
def Kept (h : Heap) (led : List (Addr × Obj)) (h' : Heap) : Prop := ∀ b o, h.get? b = some o → (∀ p ∈ led, p.1 ≠ b) → h'.get? b = some o
theorem Kept.fr {h g h' : Heap} {led : List (Addr × Obj)} {L : Addr} {m : Str → Option Value} (k : Kept h led g) (F : Fr g L h' m) : Kept h led h' :=
  fun b o e n => F.keep b o (k b o e n)

/-- behind a call: what stood outside the ledger stands, what is new in the ledger is new -/
structure After (h : Heap) (led led' : List (Addr × Obj)) (h' : Heap) : Prop where
  kept : Kept h led h'
  fresh : ∀ p ∈ led', (∃ r ∈ led, r.1 = p.1) ∨ h.get? p.1 = none
theorem After.mix {h g h' : Heap} {led led' news : List (Addr × Obj)} {L L₂ : Addr} {m : Str → Option Value} (k : Kept h led g) (F : Fr g L h' m) (N : News g L₂ h' news)
    (hs : ∀ p ∈ led', (∃ r ∈ led, r.1 = p.1) ∨ (p ∈ news ∧ ∀ r ∈ led, r.1 ≠ p.1)) : After h led led' h' :=
  ⟨k.fr F, fun p hp => (hs p hp).imp id fun q => by
    cases e : h.get? p.1 with
    | none => rfl
    | some o =>
      have := k _ _ e q.2
      rw [(N p q.1).2.2] at this
      cases this⟩
theorem After.old {h g h' : Heap} {led led' : List (Addr × Obj)} {L : Addr} {m : Str → Option Value} (k : Kept h led g) (F : Fr g L h' m) (hs : ∀ p ∈ led', ∃ r ∈ led, r.1 = p.1) : After h led led' h' :=
  ⟨k.fr F, fun p hp => .inl (hs p hp)⟩
theorem After.new {h g h' : Heap} {led' news : List (Addr × Obj)} {L L₂ : Addr} {m : Str → Option Value} (k : Kept h [] g) (F : Fr g L h' m) (N : News g L₂ h' news) (hs : ∀ p ∈ led', p ∈ news) : After h [] led' h' :=
  .mix k F N fun p hp => .inr ⟨hs p hp, fun _ h => nomatch h⟩

/-- a def's call, from any frame: what it hands back, and the ledger behind it -/
def Spec (w : World) (f : Addr) (dep : Nat) (vs : List Value) (led : List (Addr × Obj)) (Out : Value → List (Addr × Obj) → Prop) : Prop :=
  ∀ (mean : ExcName → Option Value) (mg mb : Str → Option Value) (dp un : Nat) (gd : Option (List Code)) (cn : Str) (cs : Scope) (a : Addr) (ccd : Value) (cl : List (Str × Addr)) (outer : List Env)
    (A₀ : Around) (base h₀ : Heap) (L : Addr) (m : Str → Option Value) (s : Shared) (Q E : Value → Shared → Prop),
    Below A₀ base outer h₀ → Fr h₀ L s.heap m → (hd.heap_39 w.params).In h₀ → News h₀ L s.heap led → Top hd.view_39 looseN mean mg mb h₀ → cs.kind = .function →
    dp + dep < recursionLimit → un + 8 * dep < cLine →
    (∀ v led' h' tk', Out v led' → Fr h₀ L h' m → News h₀ L h' led' → After s.heap led led' h' → Q v { s with heap := h', toks := tk' }) →
    wpAny (model PySem.Challenge.rw_us0009_01.row.prog w) (ktrTop dp un gd cn cs L a ccd cl outer) (call (.ref f) vs) Q E s

structure Blk (P : Prop) : Prop where
  out : P

inductive Pick {α : Type} (x : α) : List α → List α → Prop
  | head {l : List α} : Pick x (x :: l) l
  | tail {y : α} {l r : List α} : Pick x l r → Pick x (y :: l) (y :: r)
inductive Picks {α : Type} : List α → List α → List α → Prop
  | nil {l : List α} : Picks [] l l
  | cons {x : α} {r l l₁ o : List α} : Pick x l l₁ → Picks r l₁ o → Picks (x :: r) l o
theorem Pick.mem {α : Type} {x : α} : ∀ {l r : List α}, Pick x l r → x ∈ l ∧ ∀ y ∈ r, y ∈ l
  | _, _, .head => ⟨.head _, fun _ h => .tail _ h⟩
  | _, _, .tail p => ⟨.tail _ p.mem.1, fun y h => by
    rcases List.mem_cons.mp h with rfl | h
    · exact .head _
    · exact .tail _ (p.mem.2 y h)⟩
theorem Picks.mem {α : Type} : ∀ {led l o : List α}, Picks led l o → (∀ p ∈ led, p ∈ l) ∧ ∀ p ∈ o, p ∈ l
  | _, _, _, .nil => ⟨fun _ h => (nomatch h), fun _ h => h⟩
  | _, _, _, .cons p q => ⟨fun y h => by
    rcases List.mem_cons.mp h with rfl | h
    · exact p.mem.1
    · exact p.mem.2 _ (q.mem.1 _ h), fun y h => p.mem.2 _ (q.mem.2 _ h)⟩

theorem Spec.use {w : World} {f : Addr} {dep : Nat} {vs : List Value} {led led0 : List (Addr × Obj)} {Out : Value → List (Addr × Obj) → Prop} (C : Spec w f dep vs led Out) {others : List (Addr × Obj)}
    {mean : ExcName → Option Value} {mg mb : Str → Option Value} {dp un : Nat} {gd : Option (List Code)} {cn : Str} {cs : Scope} {a : Addr} {ccd : Value} {cl : List (Str × Addr)} {outer : List Env}
    {A₀ : Around} {base h₀ : Heap} {L : Addr} {m : Str → Option Value} {s : Shared} {Q E : Value → Shared → Prop}
    (B : Below A₀ base outer h₀) (F : Fr h₀ L s.heap m) (X : (hd.heap_39 w.params).In h₀) (N : News h₀ L s.heap led0) (T : Top hd.view_39 looseN mean mg mb h₀) (hk : cs.kind = .function)
    (hp' : Picks led led0 others) (hap : ∀ p ∈ led, ∀ q ∈ others, q.1 ≠ p.1) (hd : dp + dep < recursionLimit) (hu : un + 8 * dep < cLine)
    (ret : ∀ v led' h' tk', Out v led' → (∀ p ∈ led', ∀ q ∈ others, p.1 ≠ q.1) → Fr h₀ L h' m → News h₀ L h' (led' ++ others) → Q v { s with heap := h', toks := tk' }) :
    wpAny (model PySem.Challenge.rw_us0009_01.row.prog w) (ktrTop dp un gd cn cs L a ccd cl outer) (call (.ref f) vs) Q E s :=
  C mean mg mb dp un gd cn cs a ccd cl outer A₀ base h₀ L m s Q E B F X (fun p h => N p (hp'.mem.1 p h)) T hk hd hu fun v led' h' tk' hO F' N' K' =>
    ret v led' h' tk' hO (fun p hp q hq e => by
      rcases K'.fresh p hp with ⟨r, hr, hrp⟩ | hn
      · exact hap r hr q hq (e.symm.trans hrp.symm)
      · rw [e, (N q (hp'.mem.2 q hq)).1] at hn; cases hn) F' fun p h => (List.mem_append.mp h).elim (N' p) fun hq =>
      have n := N p (hp'.mem.2 p hq)
      ⟨K'.kept _ _ n.1 (fun r hr => (hap r hr p hq).symm), n.2.1, n.2.2⟩

section
variable {prog : Program} {w : World} {A A₀ : Around} {s : Shared} {K : Frag} {L : Addr} {h₀ base : Heap} {m mg mb : Str → Option Value} {news : List (Addr × Obj)} {p : Program} {loose : List Str} {mean : ExcName → Option Value}
theorem enter {env : Env} {outer : List Env} {R : Result → Shared → Prop} {name qual : Str} {params : Arguments} {body : List Stmt} {scope : Scope} {dV kV doc pm cdv ct oc : Value} {an od : Option Addr} {osl : Array (Option Value)} {f : Addr} {args : Args} {binds : List (Str × Value)}
    (B : Below A₀ base outer h₀) (F : Fr h₀ L s.heap m) (X : K.In h₀) (N : News h₀ L s.heap news) (T : Top p loose mean mg mb h₀) (hA : A.frames = some (env :: outer)) (hf : env.frame = some L) (hke : env.scope.kind = .function)
    (ho : K.lookup f = some ⟨oc, od, .func (fnOf name qual params body scope dV kV doc pm an cdv ct), osl⟩) (hcd : codeIn K cdv qual = true) (hroom : A.depth < recursionLimit)
    (hbind : BindsTo s (fnOf name qual params body scope dV kV doc pm an cdv ct) args binds) (hloc : ∀ y ∈ binds, scope.names.lookup y.1 = some .local)
    (h : ∀ g L' h₁, Fr h₀ L g m → Fr g L' h₁ (fun y => binds.reverse.lookup y) → News g L' h₁ news → Below A base (env :: outer) g → K.In g → Top p loose mean mg mb g → Kept s.heap news g →
      wpAny (model prog w) (A.deeper (envOf qual scope L' f cdv)) (execs body (envOf qual scope L' f cdv))
        (fun fl s' => LeaveK h₀ L m g R (match fl with | .ret v => v | _ => .none) s')
        (fun e s' => wpAny (model prog w) (A.deeper (envOf qual scope L' f cdv)) (leaving (envOf qual scope L' f cdv) e) (fun _ s'' => R (.error e) s'') (fun e' s'' => R (.error e') s'') s')
        { s with heap := h₁, toks := s.toks + binds.length })
    (hco : scope.isCoroutine = false) (hgen : scope.isGenerator = false) (hk : scope.kind = .function)
    (hcell : ∀ x ∈ scope.names, x.2 ≠ .cell) : codeAny (model prog w) A (.call (.ref f) args) R s := by
  have XS := X.keeps F.keep
  obtain ⟨FG, BG, st, lv⟩ := groundX (R := R) B F N hA hf hke
  refine codeAny_call_def (fd := fnOf name qual params body scope dV kV doc pm an cdv ct) (body := body) (binds := binds) hroom (XS _ _ ho) rfl (T.nolimit.keeps F.keep) (codeRec_of XS hcd) rfl hbind hcell hloc (fun h₁ hns hk₁ => ?_) hco hgen hk
  refine wpAny_mono (h (hideAll s.heap (news.map (·.1))) s.heap.objs.size h₁ FG ⟨hns, fun b o e => hk₁ b o (of_hideAll _ e), Nat.le_of_eq (hideAll_size _ _)⟩
    (fun q hq => ⟨hk₁ _ _ (N q hq).1, Nat.ne_of_lt (Heap.lt_size (N q hq).1), hideAll_none _ (List.mem_map_of_mem hq)⟩) BG (X.keeps fun b o e => st b o e) (T.keeps fun b o e => st b o e) fun b o e n => hideAll_get _ e fun hb => ?_) (fun fl s' hl => lv _ _ hl) fun _ _ y => y
  obtain ⟨q, hq, rfl⟩ := List.mem_map.mp hb
  exact n q hq rfl
end

theorem vint {a b : Int} {t : Tok} (h : a = b) : Value.int a t = Value.int b t := by rw [h]
def meantN (q : Int) : Nat → Int
  | 0 => 0
  | n + 1 => meantN q n * q + 1
end
section
local macro_rules | `(tactic| cell_enter) => `(tactic| (refine' enter ?k1 ?k2 ?k3 ?k4 ?k5 ?kA ?kF ?kK ?k6 ?k7 ?k8 ?k9 ?kB ?_ ?c2 ?c3 ?c4 ?c5; (case kA => exact rfl); (case kF => exact rfl); (case kK => assumption); (case k1 => k_asm); (case k2 => k_asm); (case k3 => k_asm); (case k4 => k_asm); (case k5 => k_asm); (case k6 => k_is); (case k7 => k_is); (case k8 => ktr_room); (case k9 => first | exact BindsTo.of_eq rfl | (refine' kp_binds ?kx ?ke; (case kx => k_in); (case ke => exact fun _ => rfl))); (case c5 => decide); (case kB => exact locs rfl); (case c2 => exact rfl); (case c3 => exact rfl); (case c4 => exact rfl); k_whole; intro g' L' h' FG' F' N' B' X' T' KE; (try dsimp only); (try k_fold)))
local macro_rules | `(tactic| walk_at "pyIter ref") => `(tactic| (refine Blk.out ?_))
local macro_rules | `(tactic| walk_at "exec While") => `(tactic| (refine Blk.out ?_))
local macro_rules | `(tactic| walk_at "call ref") => `(tactic| (refine Blk.out ?_))
local macro_rules | `(tactic| cell_ask $C:term) => `(tactic| (refine Blk.mk ?_; k_dflt (refine' Spec.use $C ?k1 ?k2 ?k3 ?k4 ?k5 ?kK ?kO ?kP ?k7 ?k8 ?_; (case k1 => k_asm); (case k2 => k_asm); (case k3 => k_asm); (case k4 => k_asm); (case k5 => k_asm); (case kK => first | exact rfl | assumption); (case kO => (repeat (first | exact Picks.nil | apply Picks.cons | exact Pick.head | apply Pick.tail))); (case kP => (repeat (first | exact List.forall_mem_nil _ | (refine List.forall_mem_cons.mpr ⟨by ((try dsimp only); k_all), ?_⟩)))); (case k7 => ktr_room); (case k8 => ktr_units))))
local macro_rules | `(tactic| walk_at "exec While Compare cons nil") => `(tactic| (refine Blk.out ?_))
local macro_rules | `(tactic| walk_at "exec While BoolOp cons nil") => `(tactic| (refine Blk.out ?_))
local macro_rules | `(tactic| walk_at "exec While UnaryOp cons nil") => `(tactic| (refine Blk.out ?_))
local macro_rules | `(tactic| cell_end $b:term rfl rfl) => `(tactic| (refine' enter (binds := $b) ?k1 ?k2 ?k3 ?k4 ?k5 ?kA ?kF ?kK ?k6 ?k7 ?k8 ?k9 ?kB ?_ ?c2 ?c3 ?c4 ?c5; (case kA => exact rfl); (case kF => exact rfl); (case kK => assumption); (case k1 => k_asm); (case k2 => k_asm); (case k3 => k_asm); (case k4 => k_asm); (case k5 => k_asm); (case k6 => k_is); (case k7 => k_is); (case k8 => ktr_room); (case k9 => first | exact BindsTo.of_eq rfl | (refine' kp_binds ?kx ?ke; (case kx => k_in); (case ke => exact fun _ => rfl))); (case c5 => decide); (case kB => exact locs rfl); (case c2 => exact rfl); (case c3 => exact rfl); (case c4 => exact rfl); k_whole; intro g' L' h' FG' F' N' B' X' T' KE; (try dsimp only); (try k_fold)))
local macro_rules | `(tactic| k_ne) => `(tactic| first | assumption | (refine Ne.symm ?_; assumption))
section
theorem wipeC1 : True := by k_with_none; w_top off; trivial
theorem meant_end {a n q : Int} (h : a = meantN q (rangeKs 0 (n - 0).toNat).length) : a = meantN q n.toNat := by rw [h, rangeKs_length]; simp
set_option maxHeartbeats 8000000 in
theorem meant_spec (w : World) (n q : Int) (tn tq : Tok) (hn : -1000 ≤ n ∧ n ≤ 13) (hq : 1 ≤ q ∧ q ≤ 3) :
    Spec w 161 1 [.int n tn, .int q tq] [] (fun v led' => led' = [] ∧ ∃ t, v = .int (meantN q n.toNat) t) := by
  unfold Spec
  k_fill
  intro mean mg mb dp un gd cn cs a ccd cl outer A₀ base h₀ L m s Q E B F X N T hk hd hu hret
  refine wpAny_call ?_
  k_dflt cell_enter
  k_steps
  refine Blk.mk ?_
  (k_with "state" => simp only [List.length_append, List.length_cons, List.length_nil, meantN] <;> simp_all)
  k_state_given ["q"] (fun q pre meant => meant = meantN q pre.length) "meant"
  · k_steps
  · k_steps
    exact hret _ _ _ _ ⟨rfl, _, vint (meant_end (by assumption))⟩ (by assumption) (by assumption) (After.old (by assumption) (by assumption) (by simp))
end
local macro_rules | `(tactic| walk_at "idle1") => `(tactic| skip)
section
theorem wipeC2 : True := by k_with_none; w_top off; trivial
def BisP (x : Int) (a : List Int) (lo hi : Int) : Prop := 0 ≤ lo ∧ lo ≤ hi ∧ hi ≤ (a.length : Int) ∧ (∀ i : Nat, (i : Int) < lo → a.getD i 0 ≤ x) ∧ (∀ i : Nat, hi ≤ (i : Int) → i < a.length → x < a.getD i 0)
def Mono (a : List Int) : Prop := ∀ i j : Nat, i ≤ j → j < a.length → a.getD i 0 ≤ a.getD j 0
theorem fdiv2 (a : Int) : a.fdiv 2 = a / 2 := Int.fdiv_eq_ediv_of_nonneg _ (by decide)
theorem bis_start (x : Int) (a : List Int) : BisP x a 0 (a.length : Int) :=
  ⟨by omega, by omega, by omega, fun i h => by omega, fun i h h2 => by omega⟩
theorem bis_hi {x : Int} {a : List Int} {lo hi : Int} (hm : Mono a) (P : BisP x a lo hi) (hlt : lo < hi) (h : x < a.getD ((lo + hi).fdiv 2).toNat 0) : BisP x a lo ((lo + hi).fdiv 2) := by
  rw [fdiv2] at h ⊢
  obtain ⟨h1, h2, h3, h4, h5⟩ := P
  exact ⟨h1, by omega, by omega, h4, fun i hi' hl => Int.lt_of_lt_of_le h (hm _ _ (by omega) hl)⟩
theorem bis_lo {x : Int} {a : List Int} {lo hi : Int} (hm : Mono a) (P : BisP x a lo hi) (hlt : lo < hi) (h : ¬ x < a.getD ((lo + hi).fdiv 2).toNat 0) : BisP x a ((lo + hi).fdiv 2 + 1) hi := by
  rw [fdiv2] at h ⊢
  obtain ⟨h1, h2, h3, h4, h5⟩ := P
  exact ⟨by omega, by omega, h3, fun i hi' => Int.le_trans (hm i ((lo + hi) / 2).toNat (by omega) (by omega)) (Int.not_lt.mp h), h5⟩
theorem BisP.both {x : Int} {a : List Int} {lo hi : Int} (P : BisP x a lo hi) : 0 ≤ lo ∧ hi ≤ (a.length : Int) ∧ BisP x a lo hi := ⟨P.1, P.2.2.1, P⟩
theorem BisP.eq {x : Int} {a : List Int} {lo hi : Int} (P : BisP x a lo hi) (h : ¬ lo < hi) : BisP x a lo lo := by
  have : hi = lo := by have := P.2.1; omega
  subst this; exact P
theorem bis_less {lo hi : Int} (hlt : lo < hi) : ((lo + hi).fdiv 2 - lo).toNat < (hi - lo).toNat ∧ (hi - ((lo + hi).fdiv 2 + 1)).toNat < (hi - lo).toNat := by
  rw [fdiv2]; omega
set_option maxHeartbeats 8000000 in
theorem bisR_spec (w : World) (l : Addr) (vs : List Value) (ns : List Int) (c : Nat) (x : Int) (tx t0 : Tok) (hi : IntsAre vs ns) (hlen : ns.length ≤ 8) (hs : Mono ns) :
    Spec w 57 1 [.ref l, .int x tx, .int 0 t0, .none] [(l, listOf vs.toArray c)] (fun v led' => led' = [(l, listOf vs.toArray c)] ∧ ∃ k t, v = .int k t ∧ BisP x ns k k) := by
  unfold Spec
  k_fill
  intro mean mg mb dp un gd cn cs a ccd cl outer A₀ base h₀ L m s Q E B F X N T hk hd hu hret
  refine wpAny_call ?_
  k_dflt cell_enter
  k_steps
  refine Blk.mk ?_
  (k_with "state" => first | exact (bis_start _ _).both | exact (bis_hi hs (by assumption) (by assumption) (by assumption)).both | exact (bis_lo hs (by assumption) (by assumption) (by assumption)).both)
  (k_with "measure" => first | exact (bis_less (by assumption)).1 | exact (bis_less (by assumption)).2)
  k_while_given ["x", "a"] (fun x a _ lo hi => 0 ≤ lo ∧ hi ≤ (a.length : Int) ∧ BisP x a lo hi) (fun _ _ _ lo hi => (hi - lo).toNat) "lo" "hi"
  k_steps
  exact hret _ _ _ _ ⟨rfl, _, _, rfl, BisP.eq (by assumption) (by assumption)⟩ (by assumption) (by assumption) (After.old (by assumption) (by assumption) (by simp))
end
local macro_rules | `(tactic| walk_at "idle2") => `(tactic| skip)
section
theorem wipeC3 : True := by k_with_none; w_top off; trivial
def insS (x : Int) : List Int → List Int
  | [] => [x]
  | y :: r => if x < y then x :: y :: r else y :: insS x r
theorem insS_length (x : Int) : ∀ a : List Int, (insS x a).length = a.length + 1
  | [] => rfl
  | y :: r => by
    unfold insS
    split
    · rfl
    · rw [List.length_cons, insS_length x r, List.length_cons]
theorem Mono.tail {y : Int} {r : List Int} (h : Mono (y :: r)) : Mono r := fun i j hij hj => by
  have := h (i + 1) (j + 1) (by omega) (by simpa using hj)
  simpa using this
theorem ins_at {x : Int} : ∀ {a : List Int} {k : Nat}, (∀ i : Nat, i < k → a.getD i 0 ≤ x) → (∀ i : Nat, k ≤ i → i < a.length → x < a.getD i 0) → k ≤ a.length → a.take k ++ x :: a.drop k = insS x a
  | [], k, _, _, hk => by simp [insS]
  | y :: r, 0, _, h2, _ => by
    have := h2 0 (Nat.le_refl _) (by simp)
    simp at this
    simp [insS, this]
  | y :: r, k + 1, h1, h2, hk => by
    have h0 := h1 0 (by omega)
    simp at h0
    have hn : ¬ x < y := by omega
    have := ins_at (x := x) (a := r) (k := k) (fun i hi => by have := h1 (i + 1) (by omega); simpa using this) (fun i hi hl => by have := h2 (i + 1) (by omega) (by simpa using hl); simpa using this) (by simpa using hk)
    simp [insS, hn, this]
theorem insS_mem (x z : Int) : ∀ a : List Int, z ∈ insS x a ↔ z = x ∨ z ∈ a
  | [] => by simp [insS]
  | y :: r => by
    unfold insS
    split
    · simp
    · rw [List.mem_cons, insS_mem x z r, List.mem_cons]; exact or_left_comm
theorem mono_of_pairwise {a : List Int} (h : a.Pairwise (· ≤ ·)) : Mono a := fun i j hij hj => by
  rcases Nat.lt_or_eq_of_le hij with q | q
  · have := List.pairwise_iff_getElem.mp h i j (by omega) hj q
    rw [List.getD_eq_getElem?_getD, List.getD_eq_getElem?_getD, List.getElem?_eq_getElem (by omega), List.getElem?_eq_getElem hj]
    exact this
  · subst q; exact Int.le_refl _
theorem insS_pairwise (x : Int) : ∀ {a : List Int}, a.Pairwise (· ≤ ·) → (insS x a).Pairwise (· ≤ ·)
  | [], _ => by simp [insS]
  | y :: r, h => by
    have h' := List.pairwise_cons.mp h
    unfold insS
    split
    · rename_i q
      refine List.pairwise_cons.mpr ⟨fun z hz => ?_, h⟩
      rcases List.mem_cons.mp hz with rfl | hz
      · omega
      · have := h'.1 z hz; omega
    · rename_i q
      refine List.pairwise_cons.mpr ⟨fun z hz => ?_, insS_pairwise x h'.2⟩
      rcases (insS_mem x z r).mp hz with rfl | hz
      · omega
      · exact h'.1 z hz
theorem ints_take {vs : List Value} {ns : List Int} (h : IntsAre vs ns) : ∀ k, IntsAre (vs.take k) (ns.take k) := by
  induction h with
  | nil => intro k; simp; exact IntsAre.nil
  | cons n t _ ih => intro k; cases k with
    | zero => exact IntsAre.nil
    | succ k => exact IntsAre.cons n t (ih k)
theorem ints_drop {vs : List Value} {ns : List Int} (h : IntsAre vs ns) : ∀ k, IntsAre (vs.drop k) (ns.drop k) := by
  induction h with
  | nil => intro k; simp; exact IntsAre.nil
  | cons n t hr ih => intro k; cases k with
    | zero => exact IntsAre.cons n t hr
    | succ k => exact ih k
theorem ins_ints {vs : List Value} {ns : List Int} {x k : Int} {t : Tok} (h : IntsAre vs ns) (P : BisP x ns k k) : IntsAre (kl_ins vs k (.int x t)) (insS x ns) := by
  obtain ⟨h1, _, h3, h4, h5⟩ := P
  have hk : (if k < 0 then (k + (vs.length : Int)).toNat else min k.toNat vs.length) = k.toNat := by
    rw [if_neg (by omega), h.length]; omega
  unfold kl_ins
  rw [hk, ← ins_at (k := k.toNat) (fun i hi => h4 i (by omega)) (fun i hi hl => h5 i (by omega) hl) (by omega)]
  exact (ints_take h _).append (IntsAre.cons _ _ (ints_drop h _))
theorem fits_small {k : Int} (h0 : 0 ≤ k) (h1 : k ≤ 100) : Builtin.List.listFitsIndex k = true := by
  unfold Builtin.List.listFitsIndex
  simp
  omega

local macro_rules | `(tactic| walk_at "call builtin:list.insert") => `(tactic| (refine Blk.out ?_))
set_option maxHeartbeats 8000000 in
theorem insR_spec (w : World) (l : Addr) (vs : List Value) (ns : List Int) (c : Nat) (x : Int) (tx : Tok) (hi : IntsAre vs ns) (hlen : ns.length ≤ 7) (hs : ns.Pairwise (· ≤ ·)) :
    Spec w 48 2 [.ref l, .int x tx] [(l, listOf vs.toArray c)] (fun v led' => v = .none ∧ ∃ vs' c', led' = [(l, listOf vs'.toArray c')] ∧ IntsAre vs' (insS x ns)) := by
  unfold Spec
  k_fill
  intro mean mg mb dp un gd cn cs a ccd cl outer A₀ base h₀ L m s Q E B F X N T hk hd hu hret
  refine wpAny_call ?_
  k_dflt cell_enter
  k_steps
  cell_ask (bisR_spec w l vs ns c x tx _ hi (by omega) (mono_of_pairwise hs))
  intro v9 led9 h9 tk9 O9 A9 F9 N9
  rw [List.append_nil] at N9
  obtain ⟨rfl, k, t, rfl, P⟩ := O9
  have hk0 := P.1
  have hk1 := P.2.2.1
  dsimp only
  k_steps
  refine Blk.mk ?_
  k_dflt (refine' kl_insert (its := vs.toArray) ?F ?N ?f ?e ?U ?z ?_; (case F => k_asm); (case N => k_asm); (case f => exact fits_small hk0 (by omega)); (case e => exact rfl); (case U => k_upd); (case z => (simp only [List.toList_toArray]; rw [hi.length, sizeLine_eq]; omega)); intro h5 F5 N5)
  k_steps
  exact hret _ _ _ _ ⟨rfl, _, _, rfl, ins_ints hi P⟩ (by assumption) (by assumption) (After.old (by assumption) (by assumption) (by simp))
end
local macro_rules | `(tactic| walk_at "idle3") => `(tactic| skip)
local macro_rules | `(tactic| walk_at "idle4") => `(tactic| skip)
section
theorem wipeC4 : True := by k_with_none; w_top off; trivial
theorem len3 (x y z : Int) : (insS x (insS y (insS z []))).length ≤ 7 := by simp only [insS_length, List.length_nil]; omega
theorem len2 (x y : Int) : (insS x (insS y [])).length ≤ 7 := by simp only [insS_length, List.length_nil]; omega
theorem len1 (x : Int) : (insS x []).length ≤ 7 := by simp only [insS_length, List.length_nil]; omega
theorem pw0 : ([] : List Int).Pairwise (· ≤ ·) := List.Pairwise.nil
def digN (n : Int) (r : Nat) : Int := (n.fdiv (5 ^ r)).fmod 5
def boardN (n : Int) : List Int := insS (digN n 3) (insS (digN n 2) (insS (digN n 1) (insS (digN n 0) [])))
set_option maxHeartbeats 8000000 in
theorem board_spec (w : World) (n : Int) (tn : Tok) :
    Spec w 121 3 [.int n tn] [] (fun v led' => ∃ l vs c, v = .ref l ∧ led' = [(l, listOf vs.toArray c)] ∧ IntsAre vs (boardN n)) := by
  unfold Spec
  k_fill
  intro mean mg mb dp un gd cn cs a ccd cl outer A₀ base h₀ L m s Q E B F X N T hk hd hu hret
  refine wpAny_call ?_
  k_dflt cell_enter
  k_steps
  refine Blk.mk ?_
  k_rangeUnr
  k_steps
  cell_ask (insR_spec w _ _ _ 0 _ _ IntsAre.nil ?hl ?hs)
  (case hl => simp)
  (case hs => simp)
  intro v9 led9 h9 tk9 O9 A9 F9 N9
  obtain ⟨rfl, v1, c1, rfl, I1⟩ := O9
  dsimp only [List.cons_append, List.nil_append] at N9
  dsimp only
  k_steps
  cell_ask (insR_spec w _ _ _ _ _ _ I1 ?hl ?hs)
  (case hl => exact len1 _)
  (case hs => exact insS_pairwise _ pw0)
  intro v9 led9 h9 tk9 O9 A9 F9 N9
  obtain ⟨rfl, v2, c2, rfl, I2⟩ := O9
  dsimp only [List.cons_append, List.nil_append] at N9
  dsimp only
  k_steps
  cell_ask (insR_spec w _ _ _ _ _ _ I2 ?hl ?hs)
  (case hl => exact len2 _ _)
  (case hs => exact insS_pairwise _ (insS_pairwise _ pw0))
  intro v9 led9 h9 tk9 O9 A9 F9 N9
  obtain ⟨rfl, v3, c3, rfl, I3⟩ := O9
  dsimp only [List.cons_append, List.nil_append] at N9
  dsimp only
  k_steps
  cell_ask (insR_spec w _ _ _ _ _ _ I3 ?hl ?hs)
  (case hl => exact len3 _ _ _)
  (case hs => exact insS_pairwise _ (insS_pairwise _ (insS_pairwise _ pw0)))
  intro v9 led9 h9 tk9 O9 A9 F9 N9
  obtain ⟨rfl, v4, c4, rfl, I4⟩ := O9
  dsimp only [List.cons_append, List.nil_append] at N9
  dsimp only
  k_steps

  exact hret _ _ _ _ ⟨_, _, _, rfl, rfl, I4⟩ (by assumption) (by assumption) (After.new (by assumption) (by assumption) (by assumption) (by k_allIn))
end
local macro_rules | `(tactic| walk_at "idle5") => `(tactic| skip)
section
theorem wipeC5 : True := by k_with_none; w_top off; trivial
theorem meantN_bound {q : Int} (hq : 1 ≤ q ∧ q ≤ 3) : ∀ n : Nat, 0 ≤ meantN q n ∧ meantN q n < 4 ^ n
  | 0 => by simp [meantN]
  | n + 1 => by
    have ih := meantN_bound hq n
    have h1 : meantN q n * q ≤ meantN q n * 3 := Int.mul_le_mul_of_nonneg_left hq.2 ih.1
    have h0 : 0 ≤ meantN q n * q := Int.mul_nonneg ih.1 (by omega)
    have hp : (4 : Int) ^ (n + 1) = 4 ^ n * 4 := Int.pow_succ ..
    unfold meantN
    rw [hp]
    generalize (4 : Int) ^ n = z at *
    omega
theorem meantN_small {q : Int} (hq : 1 ≤ q ∧ q ≤ 3) {n : Nat} (hn : n ≤ 13) : 0 ≤ meantN q n ∧ meantN q n < 100000000 := by
  have h := meantN_bound hq n
  have : (4 : Int) ^ n ≤ 4 ^ 13 := by
    have h := Nat.pow_le_pow_right (n := 4) (by decide) hn
    exact_mod_cast h
  have e : (4 : Int) ^ 13 = 67108864 := by decide
  omega
def fallN (q x : Int) : Nat → Int
  | 0 => 1
  | n + 1 => fallN q x n * meantN q (x - (n : Int)).toNat
def spreadN (cs : List Int) (q x : Int) : Nat → Int
  | 0 => 0
  | k + 1 => spreadN cs q x k + cs.getD k 0 * fallN q x (4 - k)
theorem spread_in0 {a q x : Int} : a = a * fallN q x ([] : List Int).length := by
  show a = a * fallN q x 0
  simp [fallN]
theorem spread_in {c p q x k : Int} {pre : List Int} (hk : k = 0 + (pre.length : Int)) (h : p = c * fallN q x pre.length) : p * meantN q (x - k).toNat = c * fallN q x (pre ++ [k]).length := by
  subst hk
  rw [List.length_append, List.length_singleton, h, Int.mul_assoc, Int.zero_add]
  rfl
theorem spread_out {ns : List Int} {whole part q x k : Int} {pre : List Int} (hk : k = 0 + (pre.length : Int)) (h1 : whole = spreadN ns q x pre.length) (h2 : part = ns.getD k.toNat 0 * fallN q x (rangeKs 0 (4 - k - 0).toNat).length) :
    whole + part = spreadN ns q x (pre ++ [k]).length := by
  rw [rangeKs_length] at h2
  have e : (4 - k - 0).toNat = 4 - pre.length := by omega
  have e2 : k.toNat = pre.length := by omega
  rw [e, e2] at h2
  rw [List.length_append, List.length_singleton, h1, h2]
  rfl
theorem spread_end {ns : List Int} {whole q x : Int} (h : whole = spreadN ns q x (rangeKs 0 (5 - 0 : Int).toNat).length) : whole = spreadN ns q x 5 := by rw [h, rangeKs_length]; rfl
set_option maxHeartbeats 8000000 in

theorem spread_spec (w : World) (l : Addr) (vs : List Value) (ns : List Int) (c : Nat) (x q : Int) (tx tq : Tok) (hi : IntsAre vs ns) (hlen : ns.length = 5) (hx : 0 ≤ x ∧ x ≤ 5) (hq : 1 ≤ q ∧ q ≤ 3) :
    Spec w 168 2 [.ref l, .int x tx, .int q tq] [(l, listOf vs.toArray c)] (fun v led' => led' = [(l, listOf vs.toArray c)] ∧ ∃ t, v = .int (spreadN ns q x 5) t) := by
  unfold Spec
  k_fill
  intro mean mg mb dp un gd cn cs a ccd cl outer A₀ base h₀ L m s Q E B F X N T hk hd hu hret
  refine wpAny_call ?_
  k_dflt cell_enter

  k_steps
  refine Blk.mk ?_
  (k_with "state" => first | exact spread_in0 | exact spread_in (by assumption) (by assumption) | exact spread_out (by assumption) (by assumption) (by assumption) | exact rfl)
  k_state_short (fun pre whole => whole = spreadN ns q x pre.length) "whole"
  · k_steps
    refine Blk.mk ?_
    k_state (fun pre part => part = ns.getD kN.toNat 0 * fallN q x pre.length) "part"
    · k_steps
      cell_ask (meant_spec w _ q _ tq ?hn hq)
      (case hn => omega)
      intro v9 led9 h9 tk9 O9 A9 F9 N9
      obtain ⟨rfl, t, rfl⟩ := O9
      have hb := meantN_small hq (n := (x - kN).toNat) (by omega)
      dsimp only [List.nil_append] at N9
      dsimp only
      k_steps
    · k_steps
  · k_steps
    exact hret _ _ _ _ ⟨rfl, _, vint (spread_end (by assumption))⟩ (by assumption) (by assumption) (After.old (by assumption) (by assumption) (by simp))
end
local macro_rules | `(tactic| walk_at "idle6") => `(tactic| skip)
section
theorem wipeP1 : True := by k_with_none; w_top off; trivial
def BisL (x : Int) (a : List Int) (lo hi : Int) : Prop := 0 ≤ lo ∧ lo ≤ hi ∧ hi ≤ (a.length : Int) ∧ (∀ i : Nat, (i : Int) < lo → a.getD i 0 < x) ∧ (∀ i : Nat, hi ≤ (i : Int) → i < a.length → x ≤ a.getD i 0)
theorem bisl_start (x : Int) (a : List Int) : BisL x a 0 (a.length : Int) :=
  ⟨by omega, by omega, by omega, fun i h => by omega, fun i h h2 => by omega⟩
theorem bisl_hi {x : Int} {a : List Int} {lo hi : Int} (hm : Mono a) (P : BisL x a lo hi) (hlt : lo < hi) (h : ¬ a.getD ((lo + hi).fdiv 2).toNat 0 < x) : BisL x a lo ((lo + hi).fdiv 2) := by
  rw [fdiv2] at h ⊢
  obtain ⟨h1, h2, h3, h4, h5⟩ := P
  exact ⟨h1, by omega, by omega, h4, fun i hi' hl => Int.le_trans (Int.not_lt.mp h) (hm _ _ (by omega) hl)⟩
theorem bisl_lo {x : Int} {a : List Int} {lo hi : Int} (hm : Mono a) (P : BisL x a lo hi) (hlt : lo < hi) (h : a.getD ((lo + hi).fdiv 2).toNat 0 < x) : BisL x a ((lo + hi).fdiv 2 + 1) hi := by
  rw [fdiv2] at h ⊢
  obtain ⟨h1, h2, h3, h4, h5⟩ := P
  exact ⟨by omega, by omega, h3, fun i hi' => Int.lt_of_le_of_lt (hm i ((lo + hi) / 2).toNat (by omega) (by omega)) h, h5⟩
theorem BisL.both {x : Int} {a : List Int} {lo hi : Int} (P : BisL x a lo hi) : 0 ≤ lo ∧ hi ≤ (a.length : Int) ∧ BisL x a lo hi := ⟨P.1, P.2.2.1, P⟩
theorem BisL.eq {x : Int} {a : List Int} {lo hi : Int} (P : BisL x a lo hi) (h : ¬ lo < hi) : BisL x a lo lo := by
  have : hi = lo := by have := P.2.1; omega
  subst this; exact P
set_option maxHeartbeats 8000000 in
theorem bisL_spec (w : World) (l : Addr) (vs : List Value) (ns : List Int) (c : Nat) (x : Int) (tx : Tok) (hi : IntsAre vs ns) (hlen : ns.length ≤ 8) (hs : Mono ns) :
    Spec w 66 1 [.ref l, .int x tx] [(l, listOf vs.toArray c)] (fun v led' => led' = [(l, listOf vs.toArray c)] ∧ ∃ k t, v = .int k t ∧ BisL x ns k k) := by
  unfold Spec
  k_fill
  intro mean mg mb dp un gd cn cs a ccd cl outer A₀ base h₀ L m s Q E B F X N T hk hd hu hret
  refine wpAny_call ?_
  k_dflt cell_enter
  k_steps
  refine Blk.mk ?_
  (k_with "state" => first | exact (bisl_start _ _).both | exact (bisl_hi hs (by assumption) (by assumption) (by assumption)).both | exact (bisl_lo hs (by assumption) (by assumption) (by assumption)).both)
  (k_with "measure" => first | exact (bis_less (by assumption)).1 | exact (bis_less (by assumption)).2)
  k_while_given ["x", "a"] (fun x a _ lo hi => 0 ≤ lo ∧ hi ≤ (a.length : Int) ∧ BisL x a lo hi) (fun _ _ _ lo hi => (hi - lo).toNat) "lo" "hi"
  k_steps
  exact hret _ _ _ _ ⟨rfl, _, _, rfl, BisL.eq (by assumption) (by assumption)⟩ (by assumption) (by assumption) (After.old (by assumption) (by assumption) (by simp))
set_option maxHeartbeats 8000000 in
theorem bisR2_spec (w : World) (l : Addr) (vs : List Value) (ns : List Int) (c : Nat) (x : Int) (tx : Tok) (hi : IntsAre vs ns) (hlen : ns.length ≤ 8) (hs : Mono ns) :
    Spec w 57 1 [.ref l, .int x tx] [(l, listOf vs.toArray c)] (fun v led' => led' = [(l, listOf vs.toArray c)] ∧ ∃ k t, v = .int k t ∧ BisP x ns k k) := by
  unfold Spec
  k_fill
  intro mean mg mb dp un gd cn cs a ccd cl outer A₀ base h₀ L m s Q E B F X N T hk hd hu hret
  refine wpAny_call ?_
  k_dflt cell_enter
  k_steps
  refine Blk.mk ?_
  (k_with "state" => first | exact (bis_start _ _).both | exact (bis_hi hs (by assumption) (by assumption) (by assumption)).both | exact (bis_lo hs (by assumption) (by assumption) (by assumption)).both)
  (k_with "measure" => first | exact (bis_less (by assumption)).1 | exact (bis_less (by assumption)).2)
  k_while_given ["x", "a"] (fun x a _ lo hi => 0 ≤ lo ∧ hi ≤ (a.length : Int) ∧ BisP x a lo hi) (fun _ _ _ lo hi => (hi - lo).toNat) "lo" "hi"
  k_steps
  exact hret _ _ _ _ ⟨rfl, _, _, rfl, BisP.eq (by assumption) (by assumption)⟩ (by assumption) (by assumption) (After.old (by assumption) (by assumption) (by simp))
end
local macro_rules | `(tactic| walk_at "idle7") => `(tactic| skip)
section
theorem wipePD : True := by k_with_none; w_top off; trivial
set_option maxHeartbeats 8000000

def vAt (x : Int) (b : List Int) (i : Nat) : Int := b.getD i 0 + x - (i : Int)
def lineN (x : Int) (b : List Int) : List Int := insS (vAt x b 3) (insS (vAt x b 2) (insS (vAt x b 1) (insS (vAt x b 0) [])))
def cntLe (x : Int) : List Int → Int
  | [] => 0
  | y :: r => (if y ≤ x then 1 else 0) + cntLe x r
def conjN (b : List Int) : List Int := [4 - cntLe 3 b, 4 - cntLe 2 b, 4 - cntLe 1 b, 4 - cntLe 0 b]
def offN : Nat → List Int → Nat → Nat × List Int
  | 0, l, k => (k, l)
  | f + 1, l, k => if -(k : Int) ∈ l then offN f (l.erase (-(k : Int))) (k + 1) else (k, l)
def strictN (b : List Int) : List Int := ((offN 5 (lineN 0 b) 0).2).foldl (fun s v => s ++ [v + (s.length : Int)]) (List.replicate (offN 5 (lineN 0 b) 0).1 0)
def Brd (m : Int) (b : List Int) : Prop := b.length = 4 ∧ b.Pairwise (· ≤ ·) ∧ ∀ n ∈ b, 0 ≤ n ∧ n ≤ m
theorem Brd.up {b : List Int} (h : Brd 4 b) : Brd 7 b := ⟨h.1, h.2.1, fun n hn => by have := h.2.2 n hn; omega⟩
theorem dig_in (n : Int) (r : Nat) : 0 ≤ digN n r ∧ digN n r ≤ 4 := by
  unfold digN
  rw [Int.fmod_eq_emod_of_nonneg _ (by decide)]
  omega
theorem board_brd (n : Int) : Brd 4 (boardN n) := by
  refine ⟨by unfold boardN; simp only [insS_length, List.length_nil], ?_, fun z hz => ?_⟩
  · unfold boardN
    exact insS_pairwise _ (insS_pairwise _ (insS_pairwise _ (insS_pairwise _ List.Pairwise.nil)))
  · unfold boardN at hz
    simp only [insS_mem, List.not_mem_nil, or_false] at hz
    rcases hz with rfl | rfl | rfl | rfl <;> exact dig_in ..
def partN (b : List Int) (n kind : Int) : List Int := if kind = 0 then boardN n else if kind = 2 then conjN b else strictN b
end
local macro_rules | `(tactic| walk_at "idle8") => `(tactic| skip)
section
theorem wipeP2 : True := by k_with_none; w_top off; trivial
theorem insR_spec' (w : World) (l : Addr) (vs : List Value) (ns : List Int) (c : Nat) (x x' : Int) (tx : Tok) (e : x = x') (hi : IntsAre vs ns) (hlen : ns.length ≤ 7) (hs : ns.Pairwise (· ≤ ·)) :
    Spec w 48 2 [.ref l, .int x tx] [(l, listOf vs.toArray c)] (fun v led' => v = .none ∧ ∃ vs' c', led' = [(l, listOf vs'.toArray c')] ∧ IntsAre vs' (insS x' ns)) := by
  subst e; exact insR_spec w l vs ns c x tx hi hlen hs
def insF (x : Int) (b : List Int) : Nat → List Int
  | 0 => []
  | k + 1 => insS (vAt x b k) (insF x b k)
theorem insF_length (x : Int) (b : List Int) : ∀ k, (insF x b k).length = k
  | 0 => rfl
  | k + 1 => by unfold insF; rw [insS_length, insF_length x b k]
theorem insF_pw (x : Int) (b : List Int) : ∀ k, (insF x b k).Pairwise (· ≤ ·)
  | 0 => List.Pairwise.nil
  | k + 1 => insS_pairwise _ (insF_pw x b k)
theorem vat_k {b : List Int} {j : Int} {k : Nat} (hj : j = 0 + (k : Int)) : b.getD j.toNat 0 - j = vAt 0 b k := by
  have e2 : j = (k : Int) := by omega
  rw [e2, Int.toNat_natCast]
  unfold vAt
  rw [Int.add_zero]
theorem newsHd {P : Prop} {h₀ h : Heap} {L a : Addr} {x : Obj} {r : List (Addr × Obj)} (_N : News h₀ L h ((a, x) :: r)) (k : ∀ a', a' = a → P) : P := k _ rfl

section
variable {prog : Program} {w : World} {A A₀ : Around} {s : Shared} {K : Frag} {L : Addr} {h₀ base : Heap} {m mg mb : Str → Option Value} {news : List (Addr × Obj)} {p : Program} {loose : List Str} {mean : ExcName → Option Value}
theorem enterC {env : Env} {outer : List Env} {R : Result → Shared → Prop} {name qual : Str} {params : Arguments} {body : List Stmt} {scope : Scope} {dV kV doc pm cdv ct oc : Value} {an od : Option Addr} {osl : Array (Option Value)} {f : Addr} {args : Args} {binds : List (Str × Value)}
    (B : Below A₀ base outer h₀) (F : Fr h₀ L s.heap m) (X : K.In h₀) (N : News h₀ L s.heap news) (T : Top p loose mean mg mb h₀) (hA : A.frames = some (env :: outer)) (hf : env.frame = some L) (hke : env.scope.kind = .function)
    (ho : K.lookup f = some ⟨oc, od, .func (fnOf name qual params body scope dV kV doc pm an cdv ct), osl⟩) (hcd : codeIn K cdv qual = true) (hroom : A.depth < recursionLimit)
    (hbind : BindsTo s (fnOf name qual params body scope dV kV doc pm an cdv ct) args binds) (hkind : (binds.all fun y => scope.names.lookup y.1 == some .local || scope.names.lookup y.1 == some .cell) = true)
    (hnd : ((cellsFrom 0 scope.names []).map (·.1)).Nodup) {m' : Str → Option Value} (hm' : ∀ L', bindL (envOfC qual scope L' f cdv).kindOf binds (fun _ => none) = m')
    (h : ∀ g L' h₁ tk cells, Fr h₀ L g m → Fr g L' h₁ m' → News g L' h₁ (cells ++ news) →
      CellsAre (bindC (envOfC qual scope L' f cdv).kindOf binds fun _ => none) (cellsFrom (L' + 1) scope.names []) cells → Below A base (env :: outer) g → K.In g → Top p loose mean mg mb g → (∀ p ∈ news, p.1 < L') → Kept s.heap news g →
      wpAny (model prog w) (A.deeper (envOfC qual scope L' f cdv)) (execs body (envOfC qual scope L' f cdv))
        (fun fl s' => LeaveK h₀ L m g R (match fl with | .ret v => v | _ => .none) s')
        (fun e s' => wpAny (model prog w) (A.deeper (envOfC qual scope L' f cdv)) (leaving (envOfC qual scope L' f cdv) e) (fun _ s'' => R (.error e) s'') (fun e' s'' => R (.error e') s'') s')
        { s with heap := h₁, toks := tk })
    (hco : scope.isCoroutine = false) (hgen : scope.isGenerator = false) (hk : scope.kind = .function) : codeAny (model prog w) A (.call (.ref f) args) R s := by
  have XS := X.keeps F.keep
  obtain ⟨FG, BG, st, lv⟩ := groundX (R := R) B F N hA hf hke
  refine codeAny_call_function (fd := fnOf name qual params body scope dV kV doc pm an cdv ct) (body := body) hroom (XS _ _ ho) rfl hco hgen rfl (codeRec_of XS hcd) (hbind _ _ _ _ ?_)
  refine wpAny_newFunctionEnv_cells hk (kindsX hkind _) fun env' he s' x => ?_
  subst he
  refine ⟨(T.nolimit.keeps F.keep).keeps x.toInCall.keep, codeAny_func ?_⟩
  obtain ⟨h₁, tk, rfl, _⟩ := x.done
  have hk₁ := x.toInCall.keep
  obtain ⟨cells, NC, Y⟩ := Cl.news (h₀ := s.heap) (Nat.le_refl _) fun n c hm => ⟨x.cell n c (lookup_of_mem_nodup (cellsFrom_names scope.names 0 (s.heap.objs.size + 1) [] [] rfl ▸ hnd) hm), x.above n c hm⟩
  refine wpAny_mono (h _ s.heap.objs.size h₁ tk cells FG (hm' _ ▸ ⟨x.toInCall.ns, fun b o e => hk₁ b o (of_hideAll _ e), Nat.le_of_eq (hideAll_size _ _)⟩) (fun p hp => ?_) Y BG (X.keeps fun b o e => st b o e) (T.keeps fun b o e => st b o e) (fun p hp => Heap.lt_size (N p hp).1) fun b o e n => hideAll_get _ e fun hb => ?_) (fun fl s' hl => lv _ _ hl) fun _ _ y => y
  · rcases List.mem_append.mp hp with hp | hp
    · refine ⟨(NC p hp).1, (NC p hp).2.1, ?_⟩
      cases q : (hideAll s.heap (news.map (·.1))).get? p.1 with
      | none => rfl
      | some o => have := of_hideAll _ q; rw [(NC p hp).2.2] at this; cases this
    · exact ⟨hk₁ _ _ (N p hp).1, Nat.ne_of_lt (Heap.lt_size (N p hp).1), hideAll_none _ (List.mem_map_of_mem hp)⟩
  · obtain ⟨q, hq, rfl⟩ := List.mem_map.mp hb
    exact n q hq rfl
end

def SrcT (prog : Program) (w : World) (A : Around) (h₀ : Heap) (L : Addr) (m : Str → Option Value) (env : Env) (elt : Expr) (x : Str) (scope : Scope) (cl : List (Str × Addr)) (Fin : Shared → List Value → List (Addr × Obj) → Prop) (xv : Value) (s₁ : Shared) : Prop :=
  ∃ ax lo its k news, xv = .ref ax ∧ A.handled = none ∧ Fr h₀ L s₁.heap m ∧ News h₀ L s₁.heap news ∧ (ax, lo) ∈ news ∧ lo.cls = .type "tuple" ∧ lo.data = .seq its k ∧ its.size ≤ sizeLine ∧
    ∀ s₂ : Shared, (∃ h, s₂ = { s₁ with heap := h }) → LCg.CompRest prog w A h₀ L m env elt x scope cl s₂ (fun nw => (ax, lo) ∈ nw) (fun i v => its[i]? = some v) (Fin s₂) its.size 0 [] news
section
variable {prog : Program} {w : World} {A : Around} {E : Value → Shared → Prop} {s : Shared} {h₀ : Heap} {L : Addr} {m : Str → Option Value} {env : Env}
theorem tup_st {ax I : Addr} {lo : Obj} {its : Array Value} {k : Nat} (hc : lo.cls = .type "tuple") (hd : lo.data = .seq its k) : ∀ i (h h' : Heap) (o : Obj) (nw : List (Addr × Obj)), (h.IsTupleIter I ax i ∧ h.IsTuple ax its) → h.get? I = some o → h'.get? I = some o → (∀ b o, h₀.get? b = some o → h'.get? b = some o) → News h₀ L h' nw → (ax, lo) ∈ nw → (h'.IsTupleIter I ax i ∧ h'.IsTuple ax its) :=
  fun i h h' o nw st e e' _ N S => ⟨by obtain ⟨o', q, r⟩ := st.1; rw [e] at q; cases q; exact ⟨o, e', r⟩, ⟨lo, (N _ S).1, hc, k, hd⟩⟩
theorem ListComp_UT {elt iter : Expr} {x : Str} {px : Pos} {scope : Scope} {cl : List (Str × Addr)} {pos : Pos} {Q : Value → Shared → Prop} (F₀ : Fr h₀ L s.heap m)
    (hclos : closureFor scope env = pure cl) (hcell : ∀ y ∈ scope.names, y.2 ≠ .cell) (hkind : scope.kind = .function)
    (hnames : ∀ y ∈ scope.names, y.2 = .local → scope.names.lookup y.1 = some .local) (hx : scope.names.lookup x = some .local)
    (h : wpAny (model prog w) A (eval iter env) (SrcT prog w A h₀ L m env elt x scope cl (fun s₂ => LCg.FinE h₀ L m s₂ Q)) E s)
    (hs : ∀ x, foldedSetIterable iter env x = pure x := by intro _; rfl) :
    wpAny (model prog w) A (eval (.ListComp elt [⟨.Name x px, iter, [], 0⟩] scope pos) env) Q E s := by
  rw [eval_ListComp]
  refine wpAny_comprehension_free (use := none) rfl hs hclos hkind hnames (wpAny_mono h (fun xv s₁ h₁ => ?_) fun _ _ e => e)
  obtain ⟨ax, lo, its, k, news, rfl, hh, F, N, S, hc, hd, hsz, R⟩ := h₁
  have hl : s₁.heap.IsTuple ax its := ⟨lo, (N _ S).1, hc, k, hd⟩
  have hlt : ax < s₁.heap.objs.size := Heap.lt_size (N _ S).1
  refine wpAny_pyIter_tuple hl ?_
  have up : ∀ b o, s₁.heap.get? b = some o → (s₁.heap.push { cls := .type "tuple_iterator", data := .fields #[.ref ax, .int 0 0] }).get? b = some o := fun b o e => Heap.get?_push_of_some _ e
  refine LCg.block_U (S := fun nw => (ax, lo) ∈ nw) (Walks.tuple hh s₁.heap.objs.size ax (Nat.ne_of_lt hlt) its) hsz (fun i h st => by obtain ⟨o, e, _⟩ := st.1; exact ⟨o, e⟩) (tup_st hc hd) hcell hkind hx ⟨⟨_, Heap.get?_push_size _ rfl, rfl, rfl⟩, hl.push _⟩ (fun b hb => ?_)
    (F.keeps up) (N.grown up) (Nat.ne_of_lt F.ns.lt) (next_is_new F) (fun p hp => Nat.ne_of_lt (Heap.lt_size (N p hp).1)) S (R _ ⟨_, rfl⟩) ?_
  · show b < (s₁.heap.push _).objs.size
    rw [Heap.size_push]
    rcases List.mem_cons.mp hb with rfl | hb
    · exact Nat.lt_succ_self _
    · rw [List.mem_singleton.mp hb]; exact Nat.lt_succ_of_lt hlt
  · intro D C h tk m' ys news' F' N' o1 hn hC₀ hD₀ hCL hDL hCD offC fin
    refine ⟨m', hn, fun h'' hs'' => fin D h'' tk (F'.change hs'' hCL hC₀) (fun p hp => ?_) o1⟩
    refine ⟨hs''.extBut _ _ ?_ (N' p hp).1, (N' p hp).2⟩
    rcases List.mem_cons.mp hp with rfl | hp
    · exact Ne.symm hCD
    · exact offC p hp
end
local macro_rules | `(tactic| lcg_src) => `(tactic| k_mem)
local macro_rules | `(tactic| walk_at "eval ListComp") => `(tactic| (refine Blk.out ?_))
local macro_rules | `(tactic| walk_at "SrcT") => `(tactic| (refine Blk.out ?_))
local macro_rules | `(tactic| walk_at "SrcT Name cons ref") => `(tactic| (refine Blk.out ?_))
local macro_rules | `(tactic| walk_at "SrcT BinOp cons ref") => `(tactic| (refine Blk.out ?_))

theorem bis_cnt {x : Int} : ∀ {a : List Int} {k : Nat}, (∀ i : Nat, i < k → a.getD i 0 ≤ x) → (∀ i : Nat, k ≤ i → i < a.length → x < a.getD i 0) → k ≤ a.length → (k : Int) = cntLe x a
  | [], k, _, _, hk => by
    have : k = 0 := by simpa using hk
    subst this; rfl
  | y :: r, 0, _, h2, _ => by
    have h0 := h2 0 (Nat.le_refl _) (by simp)
    simp at h0
    have := bis_cnt (x := x) (a := r) (k := 0) (fun i hi => absurd hi (Nat.not_lt_zero _)) (fun i _ hl => by have := h2 (i + 1) (by omega) (by simpa using hl); simpa using this) (Nat.zero_le _)
    show ((0 : Nat) : Int) = (if y ≤ x then 1 else 0) + cntLe x r
    rw [if_neg (by omega), ← this]; rfl
  | y :: r, k + 1, h1, h2, hk => by
    have h0 := h1 0 (by omega)
    simp at h0
    have := bis_cnt (x := x) (a := r) (k := k) (fun i hi => by have := h1 (i + 1) (by omega); simpa using this) (fun i hi hl => by have := h2 (i + 1) (by omega) (by simpa using hl); simpa using this) (by simpa using hk)
    show ((k + 1 : Nat) : Int) = (if y ≤ x then 1 else 0) + cntLe x r
    rw [if_pos h0, ← this]; omega
theorem BisP.cnt {x : Int} {a : List Int} {k : Int} (P : BisP x a k k) : k = cntLe x a := by
  obtain ⟨h1, _, h3, h4, h5⟩ := P
  have := bis_cnt (x := x) (a := a) (k := k.toNat) (fun i hi => h4 i (by omega)) (fun i hi hl => h5 i (by omega) hl) (by omega)
  omega
theorem conj_end {b : List Int} {n kind k3 k2 k1 k0 : Int} {t3 t2 t1 t0 : Tok} (hk : kind = 2) (P3 : BisP 3 b k3 k3) (P2 : BisP 2 b k2 k2) (P1 : BisP 1 b k1 k1) (P0 : BisP 0 b k0 k0) :
    IntsAre [.int (4 - k3) t3, .int (4 - k2) t2, .int (4 - k1) t1, .int (4 - k0) t0] (partN b n kind) := by
  subst hk
  rw [P3.cnt, P2.cnt, P1.cnt, P0.cnt]
  exact .cons _ _ (.cons _ _ (.cons _ _ (.cons _ _ .nil)))

theorem frName {P : Prop} {h₀ h : Heap} {L : Addr} {m : Str → Option Value} (_F : Fr h₀ L h m) (k : ∀ L', L' = L → P) : P := k _ rfl
theorem ints_any {k : Int} {vs : List Value} {ns : List Int} (h : IntsAre vs ns) : kf_ints vs = true ∧ vs.any (isInt k) = decide (k ∈ ns) := by
  induction h with
  | nil => exact ⟨rfl, rfl⟩
  | cons n t _ ih =>
    refine ⟨ih.1, ?_⟩
    have e : isInt k (Value.int n t) = decide (k = n) := by
      show (n == k) = _
      rw [Bool.eq_iff_iff, beq_iff_eq, decide_eq_true_eq]
      exact eq_comm
    rw [List.any_cons, ih.2, e, Bool.eq_iff_iff, Bool.or_eq_true, decide_eq_true_eq, decide_eq_true_eq, decide_eq_true_eq, List.mem_cons]
theorem cut_at : ∀ {l : List Value} {k : Nat} (h : k < l.length), kl_cut l k = some (l.take k, l[k], l.drop (k + 1))
  | x :: r, 0, _ => rfl
  | x :: r, k + 1, h => by
    unfold kl_cut
    rw [cut_at (l := r) (k := k) (by simpa using h)]
    rfl
theorem erase_at {x : Int} : ∀ (a : List Int) (k : Nat), (∀ i : Nat, i < k → a.getD i 0 < x) → (∀ i : Nat, k ≤ i → i < a.length → x ≤ a.getD i 0) → x ∈ a → a.Pairwise (· ≤ ·) → k < a.length ∧ a.erase x = a.take k ++ a.drop (k + 1)
  | [], _, _, _, h, _ => by cases h
  | y :: r, 0, h1, h2, hx, hp => by
    have h0 := h2 0 (Nat.le_refl _) (by simp)
    simp at h0
    have hp' := List.pairwise_cons.mp hp
    have : y = x := by
      rcases List.mem_cons.mp hx with rfl | hx
      · rfl
      · have := hp'.1 _ hx; omega
    subst this
    exact ⟨by simp, by simp⟩
  | y :: r, k + 1, h1, h2, hx, hp => by
    have h0 := h1 0 (by omega)
    simp at h0
    have hx' : x ∈ r := by
      rcases List.mem_cons.mp hx with rfl | hx
      · omega
      · exact hx
    have ih := erase_at (x := x) r k (fun i hi => by have := h1 (i + 1) (by omega); simpa using this) (fun i hi hl => by have := h2 (i + 1) (by omega) (by simpa using hl); simpa using this) hx' (List.pairwise_cons.mp hp).2
    refine ⟨by rw [List.length_cons]; omega, ?_⟩
    rw [List.erase_cons_tail (by simp; omega), ih.2]
    rfl
theorem bisl_at {x : Int} {a : List Int} {k : Int} (P : BisL x a k k) (hx : x ∈ a) (hp : a.Pairwise (· ≤ ·)) : k.toNat < a.length ∧ a.erase x = a.take k.toNat ++ a.drop (k.toNat + 1) := by
  obtain ⟨h1, _, h3, h4, h5⟩ := P
  exact erase_at a k.toNat (fun i hi => h4 i (by omega)) (fun i hi hl => h5 i (by omega) hl) hx hp
def StrictP (fin : Nat × List Int) (ls ss : List Int) : Prop := ∃ k : Nat, ss = List.replicate k 0 ∧ ls.length + k = 4 ∧ ls.Pairwise (· ≤ ·) ∧ offN (ls.length + 1) ls k = fin

theorem newsName2 {P : Prop} {h₀ h : Heap} {L a b : Addr} {x y : Obj} {r : List (Addr × Obj)} (_N : News h₀ L h ((a, x) :: (b, y) :: r)) (k : ∀ a' b', a' = a → b' = b → P) : P := k _ _ rfl rfl
abbrev SW : Type := List Value × List Int × Nat × List Value × List Int × Nat

theorem strict_fin {b na nb nd L0 : List Int} {vd : List Value} {kk : Nat} {n kind : Int} (h0 : kind ≠ 0) (h2 : kind ≠ 2) (e0 : L0 = lineN 0 b)
    (hnl : nb.length = kk) (hnb : nb = List.replicate kk 0) (hoff : offN (na.length + 1) na kk = offN 5 L0 0) (hout : ¬ -(nb.length : Int) ∈ na) (hP : nd = na.foldl (fun s v => s ++ [v + (s.length : Int)]) nb) (hf : IntsAre vd nd) : IntsAre vd (partN b n kind) := by
  have e1 : offN (na.length + 1) na kk = (kk, na) := by
    show (if -(kk : Int) ∈ na then offN na.length (na.erase (-(kk : Int))) (kk + 1) else (kk, na)) = _
    rw [hnl] at hout
    rw [if_neg hout]
  have e2 : partN b n kind = strictN b := by unfold partN; rw [if_neg h0, if_neg h2]
  rw [e2]
  unfold strictN
  rw [← e0, ← hoff, e1, ← hnb, ← hP]
  exact hf
theorem keptName {P : Prop} {h g : Heap} {led : List (Addr × Obj)} (_K : Kept h led g) (k : ∀ g', g' = g → P) : P := k _ rfl

theorem fold_len : ∀ (p s : List Int), (p.foldl (fun s v => s ++ [v + (s.length : Int)]) s).length = p.length + s.length
  | [], s => by simp
  | v :: p, s => by
    show (p.foldl _ (s ++ [v + (s.length : Int)])).length = _
    rw [fold_len p, List.length_append, List.length_singleton, List.length_cons]
    omega
theorem strict_turn {fin : Nat × List Int} {na nb : List Int} {kk : Nat} (hnb : nb = List.replicate kk 0) (hnl : nb.length = kk) (hlk : na.length + kk = 4) (hpw : na.Pairwise (· ≤ ·)) (hoff : offN (na.length + 1) na kk = fin) (hmem : -(nb.length : Int) ∈ na) : StrictP fin (na.erase (-(nb.length : Int))) (nb ++ [0]) := by
  have hle := List.length_erase_of_mem hmem
  have hpos : 0 < na.length := List.length_pos_of_mem hmem
  refine ⟨kk + 1, by rw [hnb, List.replicate_succ'], by omega, hpw.sublist List.erase_sublist, ?_⟩
  rw [← hoff, hle, show na.length - 1 + 1 = na.length by omega]
  show _ = (if -(kk : Int) ∈ na then offN na.length (na.erase (-(kk : Int))) (kk + 1) else (kk, na))
  rw [hnl] at hmem ⊢
  rw [if_pos hmem]

theorem seq_at {i : Int} {n : Nat} (h0 : 0 ≤ i) (h1 : i.toNat < n) : seqIndex? i n = some i.toNat := by
  unfold seqIndex?
  have e : ¬ i < 0 := by omega
  simp [e]
  omega

theorem strict0 {b L0 : List Int} (h : L0 = lineN 0 b) : StrictP (offN 5 L0 0) L0 [] := by
  have hl : L0.length = 4 := by rw [h]; unfold lineN; simp only [insS_length, List.length_nil]
  exact ⟨0, rfl, by rw [hl], by rw [h]; exact insS_pairwise _ (insS_pairwise _ (insS_pairwise _ (insS_pairwise _ List.Pairwise.nil))), by rw [hl]⟩

def conjL (b : List Int) : Nat → List Int
  | 0 => []
  | i + 1 => conjL b i ++ [4 - cntLe (3 - (i : Int)) b]
theorem tup_at {a b c d : Tok} {v : Value} : ∀ {i : Nat}, i < 4 → (#[Value.int 3 a, Value.int 2 b, Value.int 1 c, Value.int 0 d] : Array Value)[i]? = some v → ∃ t, v = .int (3 - (i : Int)) t
  | 0, _, h => ⟨a, (Option.some.inj h).symm⟩
  | 1, _, h => ⟨b, (Option.some.inj h).symm⟩
  | 2, _, h => ⟨c, (Option.some.inj h).symm⟩
  | 3, _, h => ⟨d, (Option.some.inj h).symm⟩
  | i + 4, hi, _ => absurd hi (by omega)
theorem comp_ind {prog : Program} {w : World} {A : Around} {h₀ : Heap} {L : Addr} {m : Str → Option Value} {env : Env} {elt : PySem.Expr} {x : Str} {scope : Scope} {cl : List (Str × Addr)} {s : Shared} {S : List (Addr × Obj) → Prop} {P : Nat → Value → Prop} {Fin : List Value → List (Addr × Obj) → Prop} {news : List (Addr × Obj)} {n : Nat} (J : Nat → List Value → Prop)
    (step : ∀ k i ys, i + (k + 1) = n → J i ys → (∀ ys', J (i + 1) ys' → LCg.CompRest prog w A h₀ L m env elt x scope cl s S P Fin k (i + 1) ys' news) → LCg.CompRest prog w A h₀ L m env elt x scope cl s S P Fin (k + 1) i ys news)
    (last : ∀ ys, J n ys → Fin ys news) (h0 : J 0 []) : LCg.CompRest prog w A h₀ L m env elt x scope cl s S P Fin n 0 [] news := by
  have key : ∀ k i ys, i + k = n → J i ys → LCg.CompRest prog w A h₀ L m env elt x scope cl s S P Fin k i ys news := by
    intro k
    induction k with
    | zero => intro i ys e j; rw [Nat.add_zero] at e; subst e; exact LCg.CompRest.zero (last ys j)
    | succ k ih => intro i ys e j; exact step k i ys e j fun ys' j' => ih (i + 1) ys' (by omega) j'
  exact key n 0 [] (Nat.zero_add n) h0
theorem conjL_end {b : List Int} {n kind : Int} {ys : List Value} (hk : kind = 2) (h : IntsAre ys (conjL b 4)) : IntsAre ys (partN b n kind) := by
  subst hk
  exact h

local macro_rules | `(tactic| walk_at "compareOp In int ref") => `(tactic| (refine Blk.out ?_))
local macro_rules | `(tactic| walk_at "call builtin:list.pop") => `(tactic| (refine Blk.out ?_))
local macro_rules | `(tactic| walk_at "KswEnd") => `(tactic| (refine Blk.out ?_))
local macro_rules | `(tactic| walk_at "CompRest") => `(tactic| (refine Blk.out ?_))

set_option maxHeartbeats 8000000 in
theorem partner_spec (w : World) (l : Addr) (vs : List Value) (b : List Int) (c : Nat) (n kind : Int) (tn tk : Tok) (hi : IntsAre vs b) (hB : Brd 4 b) (hkd : 0 ≤ kind ∧ kind ≤ 2) :
    Spec w 126 4 [.ref l, .int n tn, .int kind tk] [(l, listOf vs.toArray c)] (fun v led' => ∃ l2 vs2 c2, v = .ref l2 ∧ led' = [(l2, listOf vs2.toArray c2), (l, listOf vs.toArray c)] ∧ IntsAre vs2 (partN b n kind) ∧ l ≠ l2) := by
  have hlen : b.length = 4 := hB.1
  unfold Spec
  k_fill
  intro mean mg mb dp un gd cn cs a ccd cl outer A₀ base h₀ L m s Q E B F X N T hk hd hu hret
  refine wpAny_call ?_
  refine' enterC (binds := [(Str.ofString "board", .ref l), (Str.ofString "number", .int n tn), (Str.ofString "kind", .int kind tk)]) (m' := fun y => if y = Str.ofString "kind" then some (.int kind tk) else if y = Str.ofString "number" then some (.int n tn) else none) ?k1 ?k2 ?k3 ?k4 ?k5 ?kA ?kF ?kK ?k6 ?k7 ?k8 ?k9 ?kB ?kD ?kM ?_ ?c2 ?c3 ?c4
  (case kA => exact rfl)
  (case kF => exact rfl)
  (case kK => assumption)
  (case k1 => k_asm)
  (case k2 => k_asm)
  (case k3 => k_asm)
  (case k4 => k_asm)
  (case k5 => k_asm)
  (case k6 => k_is)
  (case k7 => k_is)
  (case k8 => ktr_room)
  (case k9 => first | exact BindsTo.of_eq rfl | (refine' kp_binds ?kx ?ke; (case kx => k_in); (case ke => exact fun _ => rfl)))
  (case kB => exact rfl)
  (case kD => decide +kernel)
  (case kM => intro _; rfl)
  (case c2 => exact rfl)
  (case c3 => exact rfl)
  (case c4 => exact rfl)
  k_whole
  intro g' L' h' tk' cells' FG' F' N' Y' B' X' T' l1 KE
  (try k_lt l1)
  k_cells Y'
  (try simp only [List.cons_append, List.nil_append] at N')
  (try dsimp only)
  (try k_fold)
  rename_i oP d1P
  (rename Fr _ _ _ _ => FP)
  refine frName FP ?_
  rintro LP rfl
  (rename Kept _ _ _ => KEP)
  refine keptName KEP ?_
  rintro gP rfl
  k_steps
  · cell_ask (board_spec w n tn)
    intro v9 led9 h9 tk9 O9 A9 F9 N9
    obtain ⟨l9, v9', c9, rfl, rfl, I9⟩ := O9
    have hne9 : l ≠ l9 := Ne.symm (A9 _ (.head _) (l, listOf vs.toArray c) (by k_mem))
    dsimp only [List.cons_append, List.nil_append] at N9
    k_steps
    have hk0 : kind = 0 := by assumption
    exact hret _ _ _ _ ⟨l9, v9', c9, rfl, rfl, by subst hk0; exact I9, hne9⟩ (by assumption) (kst_newsOf (by assumption) (by k_allIn)) (After.mix (by assumption) (by assumption) N9 (List.forall_mem_cons.mpr ⟨.inr ⟨.head _, List.forall_mem_cons.mpr ⟨hne9, List.forall_mem_nil _⟩⟩, List.forall_mem_cons.mpr ⟨.inl ⟨_, .head _, rfl⟩, List.forall_mem_nil _⟩⟩))
  · refine Blk.mk ?_
    k_dflt (refine ListComp_UT (F₀ := by k_asm) (by with_unfolding_all rfl) (by decide) (by rfl) (by decide) (by rfl) ?_)
    k_steps
    refine Blk.mk ?_
    (rename News _ _ _ _ => lN')
    refine newsHd lN' ?_
    rintro dT rfl
    refine ⟨dT, _, _, _, [(l, listOf vs.toArray c), (dT, _), (LP + 1, oP)], rfl, rfl, by k_asm, kst_newsOf lN' (by k_allIn), .tail _ (.head _), rfl, rfl, ?_, ?_⟩
    · exact Nat.le_of_ble_eq_true rfl
    rintro s₂ ⟨hx, rfl⟩
    refine comp_ind (n := 4) (fun i ys => IntsAre ys (conjL b i)) ?cstep ?clast .nil
    (case cstep =>
      intro k i ys hik hys ih
      refine LCg.CompRest.succ ?_
      intro v' I' oI' C' oC' D' m' h' tk' E' hv' hC' hx' F' N' off' ne'
      obtain ⟨t9', rfl⟩ := tup_at (by omega) hv'
      (try simp only [LCg.Off3, and_true] at off')
      k_steps
      cell_ask (bisR2_spec w l vs b c (3 - (i : Int)) _ hi (by omega) (mono_of_pairwise hB.2.1))
      intro v9 led9 h9 tk9 O9 A9 F9 N9
      obtain ⟨rfl, k3, t3, rfl, P3⟩ := O9
      have hb3 : 0 ≤ k3 ∧ k3 ≤ 4 := ⟨P3.1, by have := P3.2.2.1; omega⟩
      dsimp only [List.cons_append, List.nil_append] at N9
      dsimp only
      k_steps
      refine Blk.mk ?_
      have hk3 := P3.cnt
      subst hk3
      exact ih _ (hys.append (IntsAre.cons _ _ IntsAre.nil)))
    k_steps
    (rename News gP _ _ _ => kN8)
    (rename IntsAre _ (conjL b 4) => hys)
    (rename List Value => ysL)
    (rename _ ≠ _ ∧ _ ≠ _ ∧ LP + 1 ≠ _ => lO8)
    have hne9 := lO8.1
    exact hret _ _ _ _ ⟨_, ysL, ysL.length, rfl, rfl, conjL_end ‹kind = 2› hys, hne9⟩ (by assumption) (kst_newsOf (by assumption) (by k_allIn)) (After.mix (by assumption) (by assumption) kN8 (List.forall_mem_cons.mpr ⟨.inr ⟨.head _, List.forall_mem_cons.mpr ⟨hne9, List.forall_mem_nil _⟩⟩, List.forall_mem_cons.mpr ⟨.inl ⟨_, .head _, rfl⟩, List.forall_mem_nil _⟩⟩))
  · refine Blk.mk ?_
    (rename IsRange _ _ _ _ _ _ _ _ => rgX)
    (rename Fr _ _ _ _ => lF')
    (rename News _ _ _ _ => lN')
    refine newsHd lN' ?_
    rintro lf rfl
    k_dflt (refine' kst_range (σ := List Value × List Int × Nat) (n := 4) (fun e => [(lf, listOf e.1.toArray e.2.2), (LP + 1, oP), (l, listOf vs.toArray c)]) (fun e => []) (fun e => IntsAre e.1 e.2.1) [] (fun pj e => e.2.1 = insF 0 b pj.length) ([], [], 0) ?ca1 rgX ?ca2 ?ca3 lF' lN' ?ca4 ?ca5 ?ca6 ?ca7 ?ca8)
    (case ca1 => exact rfl)
    (case ca2 => decide)
    (case ca3 => exact rfl)
    (case ca4 => exact IntsAre.nil)
    (case ca5 => exact List.forall_mem_nil _)
    (case ca6 => exact rfl)
    (case ca7 =>
      rintro ⟨vd, nd, cd⟩ pj j tj u5 h5 tk5 own5 hj hjn hown hf5 hP5 F5 N5
      dsimp only [kstB, List.cons_append, List.nil_append] at hf5 hP5 F5 N5
      have hndl : nd.length = pj.length := by rw [hP5]; exact insF_length 0 b pj.length
      k_steps
      cell_ask (insR_spec' w lf vd nd cd _ (vAt 0 b pj.length) _ ?he hf5 (by omega) ?hs)
      (case he => exact vat_k hj)
      (case hs => rw [hP5]; exact insF_pw 0 b pj.length)
      intro v9 led9 h9 tk9 O9 A9 F9 N9
      obtain ⟨rfl, w9, d9, rfl, I9⟩ := O9
      dsimp only [List.cons_append, List.nil_append] at N9
      dsimp only
      k_steps
      all_goals exact kst_end (w9, insS (vAt 0 b pj.length) nd, d9) (by assumption) (by assumption) (by k_allIn) (by intro p hp; k_ownIn) rfl I9 (List.forall_mem_nil _) (by kst_same) (by rw [List.length_append, List.length_singleton, hP5]; rfl))
    case' ca8 =>
      rintro ⟨v4, L0, c4⟩ u8 h8 tk8 I5 hP8 F8 N8
      dsimp only [kstB, List.cons_append, List.nil_append] at I5 hP8 F8 N8
      rw [rangeKs_length] at hP8
      have hL0 : L0 = lineN 0 b := hP8
      k_steps
    refine Blk.mk ?_
    (rename Fr _ _ _ _ => lF')
    (rename News _ _ _ _ => N5)
    refine newsHd N5 ?_
    rintro lS rfl
    k_dflt (refine' ksw_while (σ := SW) (fun e => [(lS, listOf e.2.2.2.1.toArray e.2.2.2.2.2), (lf, listOf e.1.toArray e.2.2.1), (LP + 1, oP), (l, listOf vs.toArray c)]) (fun e => []) (fun e => IntsAre e.1 e.2.1 ∧ IntsAre e.2.2.2.1 e.2.2.2.2.1) [] (fun e => StrictP (offN 5 L0 0) e.2.1 e.2.2.2.2.1) (fun e => e.2.1.length) (v4, L0, c4, [], [], 0) lF' N5 ?fa (List.forall_mem_nil _) ?pa ?ta ?ea)
    (case fa => exact ⟨I5, IntsAre.nil⟩)
    (case pa => exact strict0 hL0)
    (case ea => passes_own)
    (case ta =>
      rintro ⟨va, na, ca, vb, nb, cb⟩ u1 h1 tk1 ⟨hia, hib⟩ ⟨kk, hnb, hlk, hpw, hoff⟩ F1 N1
      dsimp only [kstB, List.cons_append, List.nil_append] at hia hib hnb hlk hpw hoff F1 N1
      have hla := hia.length
      have hlb := hib.length
      have hnl : nb.length = kk := by rw [hnb, List.length_replicate]
      have hb4 : nb.length ≤ 4 := by omega
      have ha4 : na.length ≤ 4 := by omega
      k_steps
      refine Blk.mk ?_
      k_dflt (refine' kf_in (b := decide (-(nb.length : Int) ∈ na)) ?ki1 ?ki2 ?ki3 ?ki4 ?_)
      (case ki1 => exact N1)
      (case ki2 => exact .tail _ (.head _))
      (case ki3 => exact (ints_any (k := 0) hia).1)
      (case ki4 => exact (ints_any hia).2)
      k_steps
      · rename _ ∈ na => hmem
        cell_ask (bisL_spec w lf va na ca (-(nb.length : Int)) _ hia (by omega) (mono_of_pairwise hpw))
        intro v9 led9 h9 tk9 O9 A9 F9 N9
        obtain ⟨rfl, k, t, rfl, P⟩ := O9
        have hk := bisl_at P hmem hpw
        dsimp only [List.cons_append, List.nil_append] at N9
        dsimp only
        k_steps
        refine Blk.mk ?_
        k_dflt (refine' kl_popAt (its := va.toArray) (k := k.toNat) (p := va.take k.toNat) (q := va.drop (k.toNat + 1)) (y := va[k.toNat]'(by omega)) ?F ?N ?f ?g ?e ?U ?z ?_; (case F => k_asm); (case N => k_asm); (case f => exact fits_small P.1 (by omega)); (case g => exact seq_at P.1 (by show k.toNat < va.toArray.size; rw [List.size_toArray]; omega)); (case e => exact cut_at (l := va) (by omega)); (case U => k_upd); (case z => (show va.length ≤ sizeLine; rw [sizeLine_eq]; omega)); intro h5 F5 N5)
        k_steps
        refine Blk.mk ?_
        rename News _ _ _ _ => lN'
        simp only [List.push_toArray] at lN'
        exact ksw_end (va.take k.toNat ++ va.drop (k.toNat + 1), na.erase (-(nb.length : Int)), ca + 1, vb ++ [Value.int 0 _], nb ++ [0], cb + 1) (by assumption) lN' (by k_allIn) ⟨by rw [hk.2]; exact (ints_take hia _).append (ints_drop hia _), hib.append (IntsAre.cons _ _ IntsAre.nil)⟩ (List.forall_mem_nil _) (by ksw_same) (strict_turn hnb hnl hlk hpw hoff hmem) (by show (na.erase (-(nb.length : Int))).length < na.length; rw [List.length_erase_of_mem hmem]; omega)
      · refine Blk.mk ?_
        (rename Fr _ _ _ _ => lG')
        (rename News _ _ _ _ => lN')
        rename ¬ _ ∈ na => hout
        k_dflt (refine' kst_listL (σ := List Value × List Int × Nat) (nn := ca) (vs := va) (ns := na) (fun e => [(lS, listOf e.1.toArray e.2.2), (lf, listOf va.toArray ca), (LP + 1, oP), (l, listOf vs.toArray c)]) (fun e => []) (fun e => IntsAre e.1 e.2.1) [] (fun pre e => e.2.1 = pre.foldl (fun s v => s ++ [v + (s.length : Int)]) nb) (vb, nb, cb) ?sa1 ?sa2 hia lG' lN' ?sa4 (List.forall_mem_nil _) ?sa6 ?sa7 ?sa8)
        (case sa1 => exact rfl)
        (case sa2 => intro e; exact .tail _ (.head _))
        (case sa4 => exact hib)
        (case sa6 => exact rfl)
        (case sa7 =>
          rintro ⟨vd, nd, cd⟩ pj post j tj u5 h5 tk5 own5 hsp hjm hown hf5 hP5 F5 N5
          dsimp only [kstB, List.cons_append, List.nil_append] at hf5 hP5 F5 N5
          have hnd : nd.length = pj.length + nb.length := by rw [hP5]; exact fold_len pj nb
          have hsp' := congrArg List.length hsp
          rw [List.length_append, List.length_cons] at hsp'
          have hnd8 : nd.length ≤ 8 := by omega
          k_steps)
        (case sa8 =>
          rintro ⟨vd, nd, cd⟩ u8 h8 tk8 hf8 hP8 F8 N8
          dsimp only [kstB, List.cons_append, List.nil_append] at hf8 hP8 F8 N8
          k_steps
          exact hret _ _ _ _ ⟨lS, _, _, rfl, rfl, strict_fin ‹kind ≠ 0› ‹kind ≠ 2› hL0 hnl hnb hoff hout hP8 hf8, neN (by omega)⟩ (by assumption) (kst_newsOf (by assumption) (by k_allIn)) (After.mix (by assumption) (by assumption) N8 (List.forall_mem_cons.mpr ⟨.inr ⟨.head _, List.forall_mem_cons.mpr ⟨neN (by omega), List.forall_mem_nil _⟩⟩, List.forall_mem_cons.mpr ⟨.inl ⟨_, .head _, rfl⟩, List.forall_mem_nil _⟩⟩))))
end
local macro_rules | `(tactic| walk_at "idle9") => `(tactic| skip)
local macro_rules | `(tactic| walk_at "idle10") => `(tactic| skip)
local macro_rules | `(tactic| walk_at "idle11") => `(tactic| skip)
local macro_rules | `(tactic| walk_at "idle12") => `(tactic| skip)
local macro_rules | `(tactic| walk_at "idle13") => `(tactic| skip)
local macro_rules | `(tactic| walk_at "idle14") => `(tactic| skip)
local macro_rules | `(tactic| walk_at "idle15") => `(tactic| skip)
local macro_rules | `(tactic| walk_at "idle16") => `(tactic| skip)
local macro_rules | `(tactic| walk_at "idle17") => `(tactic| skip)
section
theorem wipeC6A : True := by k_with_none; w_top off; trivial
section
open PyProof.V
variable {prog : Program} {w : World} {A : Around} {s : Shared} {env : Env} {h₀ : Heap}
/-- a for with an else that is never reached -/
theorem forLoopElse {R : Result → Shared → Prop} {x : Str} {px : Pos} {body orelse : List Stmt} {I : Addr} {fp wr : List Addr} {n : Nat} {P : Nat → Value → Prop} {St : Nat → Heap → Prop} {m : Str → Option Value}
    {news : List (Addr × Obj)} (W : Walks prog w A I fp wr n P St) (hx : env.kindOf x = some .local)
    (hp : (env.scope.kind == .class || (env.scope.kind == .module && env.locals != env.globals)) = false)
    (hLf : env.locals ∉ fp) (hwr : ∀ b ∈ wr, h₀.get? b = none) (hfp : ∀ q ∈ news, q.1 ∉ fp)
    (hst : St 0 s.heap) (F : Fr h₀ env.locals s.heap m) (N : News h₀ env.locals s.heap news)
    (J : Nat → (Str → Option Value) → List (Addr × Obj) → Prop) (h0 : J 0 m news)
    (turn : ∀ i v m₁ news₁ h tk own, i < n → P i v → OwnOff own (news.map (·.1)) → J i m₁ news₁ → Fr h₀ env.locals h (fun y => if y = x then some v else m₁ y) → News h₀ env.locals h (news₁ ++ own) →
      wpAny (model prog w) A (execs body env) (InvPostN h₀ env.locals (J (i + 1)) own (news.map (·.1)) { s with heap := h, toks := tk } fun f s' => R (.ok f) s') (notedBy (model prog w) A env fun e s' => R (.error e) s') { s with heap := h, toks := tk })
    (done : ∀ m₁ news₁, ¬ J n m₁ news₁) : codeAny (model prog w) A (.forLoop (.Name x px) (.ref I) body orelse env) R s := by
  refine codeAny_forLoop (fun k s' => ∃ h' tk m' news' i, s' = { s with heap := h', toks := tk } ∧ St i h' ∧ Fr h₀ env.locals h' m' ∧ News h₀ env.locals h' news' ∧ news'.map (·.1) = news.map (·.1) ∧ J i m' news' ∧ i ≤ n ∧ k = n + 1 - i) ?_ (n + 1)
    ⟨s.heap, s.toks, m, news, 0, rfl, hst, F, N, rfl, h0, Nat.zero_le _, rfl⟩
  rintro k s' ⟨h', tk, m', news', i, rfl, hst', F', N', hadr, hJ, hi, rfl⟩
  rcases Nat.lt_or_eq_of_le hi with hlt | rfl
  case inr => exact absurd hJ (done _ _)
  refine W.item i _ _ _ hlt hst' fun v h₁ tk₁ hP hst₁ hk₁ => ?_
  have offW : ∀ p ∈ news', p.1 ∉ wr := fun p hp hb => by
    have h1 : p.1 ∈ news.map (·.1) := hadr ▸ List.mem_map_of_mem hp
    obtain ⟨q, hq, e⟩ := List.mem_map.mp h1
    exact hfp q hq (e ▸ W.sub _ hb)
  have F₁ : Fr h₀ env.locals h₁ m' := ⟨F'.ns.at' fun o e => hk₁ _ o (fun h => hLf (W.sub _ h)) e, fun b o e => hk₁ b o (fun hb => by rw [hwr b hb] at e; cases e) (F'.keep b o e), F'.above⟩
  have N₁ : News h₀ env.locals h₁ news' := fun p hp => ⟨hk₁ _ _ (offW p hp) (N' p hp).1, (N' p hp).2⟩
  refine wpAny_assign_Name (wpAny_storeName_local hx F₁.ns (fun h₂ hn₂ hs₂ => ?_) hp)
  have F₂ := F₁.set hn₂ hs₂
  have N₂ : News h₀ env.locals h₂ (news' ++ ownOf h₀ fp h₂) := fun p hp => (List.mem_append.mp hp).elim (N₁.set hs₂ p) (news_ownOf hLf p)
  have hst₂ : St (i + 1) h₂ := W.frame _ _ _ hst₁ fun b hb o e => (hs₂.2 b fun q => hLf (q ▸ hb)).trans e
  have hoff : OwnOff (ownOf h₀ fp h₂) (news.map (·.1)) := fun p hp b hb e => by
    obtain ⟨q, hq, rfl⟩ := List.mem_map.mp hb
    exact hfp q hq (e ▸ ownOf_sub p hp)
  refine wpAny_mono (turn i v m' news' h₂ _ _ hlt hP hoff hJ F₂ N₂) (fun f s₃ h₃ => ?_) fun _ _ e => e
  have fin : InvEndN h₀ env.locals (J (i + 1)) (ownOf h₀ fp h₂) (news.map (·.1)) { s with heap := h₂, toks := tk₁ + 1 } s₃ →
      ∃ k, k < n + 1 - i ∧ ∃ h' tk m' news' j, s₃ = { s with heap := h', toks := tk } ∧ St j h' ∧ Fr h₀ env.locals h' m' ∧ News h₀ env.locals h' news' ∧ news'.map (·.1) = news.map (·.1) ∧ J j m' news' ∧ j ≤ n ∧ k = n + 1 - j := by
    rintro ⟨h₃', tk₃, m₃, all, nx, rfl, F₃, N₃, hn, ho, ha, hJ₃⟩
    refine ⟨n + 1 - (i + 1), by omega, h₃', tk₃, m₃, nx, i + 1, rfl, W.frame _ _ _ hst₂ fun b hb o e => ?_, F₃, fun p hp => N₃ p (hn p hp), ha, hJ₃, hlt, rfl⟩
    cases hn0 : h₀.get? b with
    | some o₀ =>
      have e0 := F₂.keep b o₀ hn0
      rw [e] at e0
      cases e0
      exact F₃.keep b o hn0
    | none => exact (N₃ _ (ho _ (mem_ownOf hb hn0 e))).1
  cases f with
  | ret v => exact h₃
  | brk => exact h₃
  | next => exact fin h₃
  | cont => exact fin h₃

theorem forElse_range {σ : Type} {E : Value → Shared → Prop} {Q : Flow → Shared → Prop} {x : Str} {px pos : Pos} {iter : Expr} {body orelse : List Stmt} {n : Nat} {m₀ : Str → Option Value} (Led : σ → List (Addr × Obj)) (ps : σ → List (Str × Value)) (Facts : σ → Prop) (stored : List Str) (P : List Int → σ → Prop) (c₀ : σ) (_F0 : Fr h₀ env.locals s.heap m₀)
    (hh : A.handled = none) (hx : env.kindOf x = some .local) (hp0 : (env.scope.kind == .class || (env.scope.kind == .module && env.locals != env.globals)) = false) (hsmall : Builtin.Range.small 0 n 1 = true) (hn : Builtin.Range.rangeSize 0 n 1 = (n : Int))
    (heval : wpAny (model prog w) A (eval iter env) (fun xv s₁ => ∃ r t u v h tk, xv = .ref r ∧ s₁ = { s with heap := h, toks := tk } ∧ IsRange h r 0 n 1 t u v ∧ Fr h₀ env.locals h m₀ ∧ News h₀ env.locals h (Led c₀)) E s)
    (hf : Facts c₀) (hk : ∀ p ∈ ps c₀, m₀ p.1 = some p.2) (hp : P [] c₀)
    (turn : ∀ (c : σ) (pre : List Int) (k : Int) t (u : Str → Option Value) h tk own, k = 0 + (pre.length : Int) → pre.length < n → OwnOff own ((Led c₀).map (·.1)) → Facts c → P pre c →
      Fr h₀ env.locals h (fun y => if y = x then some (.int k t) else kstB (fun z => if stored.contains z then u z else m₀ z) (ps c) y) → News h₀ env.locals h (Led c ++ own) →
      wpAny (model prog w) A (execs body env) (InvPostN h₀ env.locals (KstS Led ps Facts x stored m₀ P (pre ++ [k])) own ((Led c₀).map (·.1)) { s with heap := h, toks := tk } Q) E { s with heap := h, toks := tk })
    (done : ∀ c pre, pre.length = n → Facts c → ¬ P pre c)
    (hs : ∀ x, foldedSetIterable iter env x = pure x := by intro _; rfl)
    (hE : PassesOwn (model prog w) A env E := by passes_own) :
    wpAny (model prog w) A (exec (.For (.Name x px) iter body orelse pos) env) Q E s := by
  refine wpAny_For (wpAny_mono heval (fun xv s₁ h₁ => ?_) fun _ _ e => e) hs
  obtain ⟨r, t, u, v, h, tk, rfl, rfl, hr, F, N⟩ := h₁
  refine wpAny_pyIter_range hr hsmall ?_
  have W : Walks prog w A h.objs.size [h.objs.size] [h.objs.size] n (fun i v => i < n ∧ ∃ t, v = .int (0 + i * 1) t)
      (fun i h' => IsRangeIter h' h.objs.size (0 + (i : Nat) * 1) ((n : Int) - (i : Nat)) 1) := (Walks.range hh _ 0 1 n).bound
  have hlenR : (rangeKs 0 n).length = n := rangeKs_length _ _
  refine forLoopElse (J := fun i m nx => KstS Led ps Facts x stored m₀ P ((rangeKs 0 n).take i) m nx) W hx hp0 ?_ ?_ ?_ (by show IsRangeIter _ _ _ _ _; rw [hn]; simpa using Heap.get?_push_size _ rfl) (F.push _) (fun p hp => ⟨Heap.get?_push_of_some _ (N p hp).1, (N p hp).2⟩) ⟨c₀, rfl, hf, hk, fun _ _ _ _ => rfl, by simpa using hp⟩ ?_ ?_
  · intro hm
    exact absurd F.ns.lt ((List.mem_singleton.mp hm) ▸ Nat.lt_irrefl _)
  · intro b hb
    rw [List.mem_singleton.mp hb]
    exact next_is_new F
  · intro p hp hI
    exact absurd (Heap.lt_size (N p hp).1) ((List.mem_singleton.mp hI) ▸ Nat.lt_irrefl _)
  · rintro i v m₁ nx h' tk' own hi ⟨_, t, rfl⟩ hoff ⟨c, rfl, hf', h1, h2, hp'⟩ F₁ N₁
    have e1 : (0 : Int) + (i : Int) * 1 = 0 + (i : Int) := by omega
    rw [e1] at F₁
    have hk' : (rangeKs 0 n)[i]? = some (0 + (i : Int)) := by simp [rangeKs, hi]
    have hs' : (rangeKs 0 n).take (i + 1) = (rangeKs 0 n).take i ++ [0 + (i : Int)] := by simp [List.take_add_one, hk']
    have hlen : ((rangeKs 0 n).take i).length = i := by rw [List.length_take, hlenR]; omega
    rw [hs']
    exact wpAny_passesOwn hE (turn c _ _ t m₁ h' tk' own (by rw [hlen]) (by rw [hlen]; exact hi) hoff hf' hp' (kst_fr h1 h2 F₁) N₁)
  · rintro m₁ nx ⟨c, _, hf', _, _, hp'⟩
    exact done c _ (by rw [List.length_take, hlenR]; omega) hf' hp'
end
end
local macro_rules | `(tactic| walk_at "idle18") => `(tactic| skip)
section
theorem wipeC6B : True := by k_with_none; w_top off; trivial
def D32 : List (PyData × PyData) := [(PyData.int 1, PyData.str (Str.ofString "OPTIMIZED")), (PyData.int 2, PyData.str (Str.ofString "NEWLOCALS")), (PyData.int 4, PyData.str (Str.ofString "VARARGS")), (PyData.int 8, PyData.str (Str.ofString "VARKEYWORDS")), (PyData.int 16, PyData.str (Str.ofString "NESTED")), (PyData.int 32, PyData.str (Str.ofString "GENERATOR")), (PyData.int 64, PyData.str (Str.ofString "NOFREE")), (PyData.int 128, PyData.str (Str.ofString "COROUTINE")), (PyData.int 256, PyData.str (Str.ofString "ITERABLE_COROUTINE")), (PyData.int 512, PyData.str (Str.ofString "ASYNC_GENERATOR"))]
def D84 : List (PyData × PyData) := [(PyData.str (Str.ofString "!"), PyData.int 54), (PyData.str (Str.ofString "!="), PyData.int 28), (PyData.str (Str.ofString "%"), PyData.int 24), (PyData.str (Str.ofString "%="), PyData.int 40), (PyData.str (Str.ofString "&"), PyData.int 19), (PyData.str (Str.ofString "&="), PyData.int 41), (PyData.str (Str.ofString "("), PyData.int 7), (PyData.str (Str.ofString ")"), PyData.int 8), (PyData.str (Str.ofString "*"), PyData.int 16), (PyData.str (Str.ofString "**"), PyData.int 35), (PyData.str (Str.ofString "**="), PyData.int 46), (PyData.str (Str.ofString "*="), PyData.int 38), (PyData.str (Str.ofString "+"), PyData.int 14), (PyData.str (Str.ofString "+="), PyData.int 36), (PyData.str (Str.ofString ","), PyData.int 12), (PyData.str (Str.ofString "-"), PyData.int 15), (PyData.str (Str.ofString "-="), PyData.int 37), (PyData.str (Str.ofString "->"), PyData.int 51), (PyData.str (Str.ofString "."), PyData.int 23), (PyData.str (Str.ofString "..."), PyData.int 52), (PyData.str (Str.ofString "/"), PyData.int 17), (PyData.str (Str.ofString "//"), PyData.int 47), (PyData.str (Str.ofString "//="), PyData.int 48), (PyData.str (Str.ofString "/="), PyData.int 39), (PyData.str (Str.ofString ":"), PyData.int 11), (PyData.str (Str.ofString ":="), PyData.int 53), (PyData.str (Str.ofString ";"), PyData.int 13), (PyData.str (Str.ofString "<"), PyData.int 20), (PyData.str (Str.ofString "<<"), PyData.int 33), (PyData.str (Str.ofString "<<="), PyData.int 44), (PyData.str (Str.ofString "<="), PyData.int 29), (PyData.str (Str.ofString "="), PyData.int 22), (PyData.str (Str.ofString "=="), PyData.int 27), (PyData.str (Str.ofString ">"), PyData.int 21), (PyData.str (Str.ofString ">="), PyData.int 30), (PyData.str (Str.ofString ">>"), PyData.int 34), (PyData.str (Str.ofString ">>="), PyData.int 45), (PyData.str (Str.ofString "@"), PyData.int 49), (PyData.str (Str.ofString "@="), PyData.int 50), (PyData.str (Str.ofString "["), PyData.int 9), (PyData.str (Str.ofString "]"), PyData.int 10), (PyData.str (Str.ofString "^"), PyData.int 32), (PyData.str (Str.ofString "^="), PyData.int 43), (PyData.str (Str.ofString "{"), PyData.int 25), (PyData.str (Str.ofString "|"), PyData.int 18), (PyData.str (Str.ofString "|="), PyData.int 42), (PyData.str (Str.ofString "}"), PyData.int 26), (PyData.str (Str.ofString "~"), PyData.int 31)]
def KeysInt : List DictEntry → Prop
  | [] => True
  | e :: r => (∃ i t, e.key = .int i t ∧ e.hash = hashInt i) ∧ KeysInt r
theorem KeysInt.all : ∀ {l : List DictEntry}, KeysInt l → ∀ e ∈ l, ∃ i t, e.key = .int i t ∧ e.hash = hashInt i
  | _ :: _, ⟨h, _⟩, _, .head _ => h
  | _ :: _, ⟨_, r⟩, _, .tail _ m => r.all _ m
section
variable {prog : Program} {w : World} {h : Heap}
theorem tab32 (X : (hd.heap_39 w.params).In h) : IntTab prog w h 32 D32 := by
  refine PyProof.Rows.TabAt.ofObj (kvs := [((1 : Int), Value.str (Str.ofString "OPTIMIZED") 285), ((2 : Int), Value.str (Str.ofString "NEWLOCALS") 287), ((4 : Int), Value.str (Str.ofString "VARARGS") 289), ((8 : Int), Value.str (Str.ofString "VARKEYWORDS") 291), ((16 : Int), Value.str (Str.ofString "NESTED") 293), ((32 : Int), Value.str (Str.ofString "GENERATOR") 295), ((64 : Int), Value.str (Str.ofString "NOFREE") 297), ((128 : Int), Value.str (Str.ofString "COROUTINE") 299), ((256 : Int), Value.str (Str.ofString "ITERABLE_COROUTINE") 301), ((512 : Int), Value.str (Str.ofString "ASYNC_GENERATOR") 303)]) rfl (X 32 _ rfl) ⟨_, _, ⟨rfl, rfl, rfl⟩, rfl, ?_, ?_, ?_⟩ ?_
  · have hk : KeysInt [(⟨1, .int 1 284, .str (Str.ofString "OPTIMIZED") 285⟩ : DictEntry), (⟨2, .int 2 286, .str (Str.ofString "NEWLOCALS") 287⟩ : DictEntry), (⟨4, .int 4 288, .str (Str.ofString "VARARGS") 289⟩ : DictEntry), (⟨8, .int 8 290, .str (Str.ofString "VARKEYWORDS") 291⟩ : DictEntry), (⟨16, .int 16 292, .str (Str.ofString "NESTED") 293⟩ : DictEntry), (⟨32, .int 32 294, .str (Str.ofString "GENERATOR") 295⟩ : DictEntry), (⟨64, .int 64 296, .str (Str.ofString "NOFREE") 297⟩ : DictEntry), (⟨128, .int 128 298, .str (Str.ofString "COROUTINE") 299⟩ : DictEntry), (⟨256, .int 256 300, .str (Str.ofString "ITERABLE_COROUTINE") 301⟩ : DictEntry), (⟨512, .int 512 302, .str (Str.ofString "ASYNC_GENERATOR") 303⟩ : DictEntry)] := by (repeat (first | exact True.intro | refine And.intro ⟨_, _, rfl, rfl⟩ ?_))
    intro e he
    obtain ⟨i, t, e1, e2⟩ := hk.all e (Array.mem_toList_iff.mpr he)
    exact ⟨i, by rw [e1]; exact intKind_is prog w i t, e2⟩
  · (repeat (first | exact PySem.Pairs.nil | refine PySem.Pairs.cons (by exact intKind_is prog w _ _) rfl ?_))
  · decide
  · (repeat (first | exact PyProof.V.FlatPairs.nil | refine PyProof.V.FlatPairs.cons (PyProof.V.Flat.str _ _) ?_))
theorem tab84 (X : (hd.heap_39 w.params).In h) : StrTab prog w h 84 D84 := by
  refine PyProof.Rows.TabAt.ofObj (kvs := [(Str.ofString "!", Value.int 54 535), (Str.ofString "!=", Value.int 28 483), (Str.ofString "%", Value.int 24 475), (Str.ofString "%=", Value.int 40 507), (Str.ofString "&", Value.int 19 465), (Str.ofString "&=", Value.int 41 509), (Str.ofString "(", Value.int 7 441), (Str.ofString ")", Value.int 8 443), (Str.ofString "*", Value.int 16 459), (Str.ofString "**", Value.int 35 497), (Str.ofString "**=", Value.int 46 519), (Str.ofString "*=", Value.int 38 503), (Str.ofString "+", Value.int 14 455), (Str.ofString "+=", Value.int 36 499), (Str.ofString ",", Value.int 12 451), (Str.ofString "-", Value.int 15 457), (Str.ofString "-=", Value.int 37 501), (Str.ofString "->", Value.int 51 529), (Str.ofString ".", Value.int 23 473), (Str.ofString "...", Value.int 52 531), (Str.ofString "/", Value.int 17 461), (Str.ofString "//", Value.int 47 521), (Str.ofString "//=", Value.int 48 523), (Str.ofString "/=", Value.int 39 505), (Str.ofString ":", Value.int 11 449), (Str.ofString ":=", Value.int 53 533), (Str.ofString ";", Value.int 13 453), (Str.ofString "<", Value.int 20 467), (Str.ofString "<<", Value.int 33 493), (Str.ofString "<<=", Value.int 44 515), (Str.ofString "<=", Value.int 29 485), (Str.ofString "=", Value.int 22 471), (Str.ofString "==", Value.int 27 481), (Str.ofString ">", Value.int 21 469), (Str.ofString ">=", Value.int 30 487), (Str.ofString ">>", Value.int 34 495), (Str.ofString ">>=", Value.int 45 517), (Str.ofString "@", Value.int 49 525), (Str.ofString "@=", Value.int 50 527), (Str.ofString "[", Value.int 9 445), (Str.ofString "]", Value.int 10 447), (Str.ofString "^", Value.int 32 491), (Str.ofString "^=", Value.int 43 513), (Str.ofString "{", Value.int 25 477), (Str.ofString "|", Value.int 18 463), (Str.ofString "|=", Value.int 42 511), (Str.ofString "}", Value.int 26 479), (Str.ofString "~", Value.int 31 489)]) rfl (X 84 _ rfl) ⟨_, _, ⟨rfl, rfl, rfl⟩, rfl, ?_, ?_, ?_⟩ ?_
  · have hk : KeysLit w.params [(⟨PyData.keyHash w.params (Str.ofString "!"), .str (Str.ofString "!") 539, .int 54 535⟩ : DictEntry), (⟨PyData.keyHash w.params (Str.ofString "!="), .str (Str.ofString "!=") 541, .int 28 483⟩ : DictEntry), (⟨PyData.keyHash w.params (Str.ofString "%"), .str (Str.ofString "%") 543, .int 24 475⟩ : DictEntry), (⟨PyData.keyHash w.params (Str.ofString "%="), .str (Str.ofString "%=") 545, .int 40 507⟩ : DictEntry), (⟨PyData.keyHash w.params (Str.ofString "&"), .str (Str.ofString "&") 547, .int 19 465⟩ : DictEntry), (⟨PyData.keyHash w.params (Str.ofString "&="), .str (Str.ofString "&=") 549, .int 41 509⟩ : DictEntry), (⟨PyData.keyHash w.params (Str.ofString "("), .str (Str.ofString "(") 551, .int 7 441⟩ : DictEntry), (⟨PyData.keyHash w.params (Str.ofString ")"), .str (Str.ofString ")") 553, .int 8 443⟩ : DictEntry), (⟨PyData.keyHash w.params (Str.ofString "*"), .str (Str.ofString "*") 555, .int 16 459⟩ : DictEntry), (⟨PyData.keyHash w.params (Str.ofString "**"), .str (Str.ofString "**") 557, .int 35 497⟩ : DictEntry), (⟨PyData.keyHash w.params (Str.ofString "**="), .str (Str.ofString "**=") 559, .int 46 519⟩ : DictEntry), (⟨PyData.keyHash w.params (Str.ofString "*="), .str (Str.ofString "*=") 561, .int 38 503⟩ : DictEntry), (⟨PyData.keyHash w.params (Str.ofString "+"), .str (Str.ofString "+") 563, .int 14 455⟩ : DictEntry), (⟨PyData.keyHash w.params (Str.ofString "+="), .str (Str.ofString "+=") 565, .int 36 499⟩ : DictEntry), (⟨PyData.keyHash w.params (Str.ofString ","), .str (Str.ofString ",") 567, .int 12 451⟩ : DictEntry), (⟨PyData.keyHash w.params (Str.ofString "-"), .str (Str.ofString "-") 569, .int 15 457⟩ : DictEntry), (⟨PyData.keyHash w.params (Str.ofString "-="), .str (Str.ofString "-=") 571, .int 37 501⟩ : DictEntry), (⟨PyData.keyHash w.params (Str.ofString "->"), .str (Str.ofString "->") 573, .int 51 529⟩ : DictEntry), (⟨PyData.keyHash w.params (Str.ofString "."), .str (Str.ofString ".") 575, .int 23 473⟩ : DictEntry), (⟨PyData.keyHash w.params (Str.ofString "..."), .str (Str.ofString "...") 577, .int 52 531⟩ : DictEntry), (⟨PyData.keyHash w.params (Str.ofString "/"), .str (Str.ofString "/") 579, .int 17 461⟩ : DictEntry), (⟨PyData.keyHash w.params (Str.ofString "//"), .str (Str.ofString "//") 581, .int 47 521⟩ : DictEntry), (⟨PyData.keyHash w.params (Str.ofString "//="), .str (Str.ofString "//=") 583, .int 48 523⟩ : DictEntry), (⟨PyData.keyHash w.params (Str.ofString "/="), .str (Str.ofString "/=") 585, .int 39 505⟩ : DictEntry), (⟨PyData.keyHash w.params (Str.ofString ":"), .str (Str.ofString ":") 587, .int 11 449⟩ : DictEntry), (⟨PyData.keyHash w.params (Str.ofString ":="), .str (Str.ofString ":=") 589, .int 53 533⟩ : DictEntry), (⟨PyData.keyHash w.params (Str.ofString ";"), .str (Str.ofString ";") 591, .int 13 453⟩ : DictEntry), (⟨PyData.keyHash w.params (Str.ofString "<"), .str (Str.ofString "<") 593, .int 20 467⟩ : DictEntry), (⟨PyData.keyHash w.params (Str.ofString "<<"), .str (Str.ofString "<<") 595, .int 33 493⟩ : DictEntry), (⟨PyData.keyHash w.params (Str.ofString "<<="), .str (Str.ofString "<<=") 597, .int 44 515⟩ : DictEntry), (⟨PyData.keyHash w.params (Str.ofString "<="), .str (Str.ofString "<=") 599, .int 29 485⟩ : DictEntry), (⟨PyData.keyHash w.params (Str.ofString "="), .str (Str.ofString "=") 601, .int 22 471⟩ : DictEntry), (⟨PyData.keyHash w.params (Str.ofString "=="), .str (Str.ofString "==") 603, .int 27 481⟩ : DictEntry), (⟨PyData.keyHash w.params (Str.ofString ">"), .str (Str.ofString ">") 605, .int 21 469⟩ : DictEntry), (⟨PyData.keyHash w.params (Str.ofString ">="), .str (Str.ofString ">=") 607, .int 30 487⟩ : DictEntry), (⟨PyData.keyHash w.params (Str.ofString ">>"), .str (Str.ofString ">>") 608, .int 34 495⟩ : DictEntry), (⟨PyData.keyHash w.params (Str.ofString ">>="), .str (Str.ofString ">>=") 609, .int 45 517⟩ : DictEntry), (⟨PyData.keyHash w.params (Str.ofString "@"), .str (Str.ofString "@") 610, .int 49 525⟩ : DictEntry), (⟨PyData.keyHash w.params (Str.ofString "@="), .str (Str.ofString "@=") 611, .int 50 527⟩ : DictEntry), (⟨PyData.keyHash w.params (Str.ofString "["), .str (Str.ofString "[") 612, .int 9 445⟩ : DictEntry), (⟨PyData.keyHash w.params (Str.ofString "]"), .str (Str.ofString "]") 613, .int 10 447⟩ : DictEntry), (⟨PyData.keyHash w.params (Str.ofString "^"), .str (Str.ofString "^") 614, .int 32 491⟩ : DictEntry), (⟨PyData.keyHash w.params (Str.ofString "^="), .str (Str.ofString "^=") 615, .int 43 513⟩ : DictEntry), (⟨PyData.keyHash w.params (Str.ofString "{"), .str (Str.ofString "{") 616, .int 25 477⟩ : DictEntry), (⟨PyData.keyHash w.params (Str.ofString "|"), .str (Str.ofString "|") 617, .int 18 463⟩ : DictEntry), (⟨PyData.keyHash w.params (Str.ofString "|="), .str (Str.ofString "|=") 618, .int 42 511⟩ : DictEntry), (⟨PyData.keyHash w.params (Str.ofString "}"), .str (Str.ofString "}") 619, .int 26 479⟩ : DictEntry), (⟨PyData.keyHash w.params (Str.ofString "~"), .str (Str.ofString "~") 620, .int 31 489⟩ : DictEntry)] := by (repeat (first | exact True.intro | refine And.intro ⟨_, _, rfl, rfl⟩ ?_))
    intro e he
    obtain ⟨x, t, e1, e2⟩ := hk.all e (Array.mem_toList_iff.mpr he)
    exact ⟨x, by rw [e1]; exact strKind_is prog w x t, e2⟩
  · (repeat (first | exact PySem.Pairs.nil | refine PySem.Pairs.cons (by exact strKind_is prog w _ _) rfl ?_))
  · decide +kernel
  · (repeat (first | exact PyProof.V.FlatPairs.nil | refine PyProof.V.FlatPairs.cons (PyProof.V.Flat.int _ _) ?_))
end
end
local macro_rules | `(tactic| walk_at "idle19") => `(tactic| skip)
section
theorem wipeC6 : True := by k_with_none; w_top off; trivial
local macro_rules | `(tactic| walk_at "exec For Name Call cons cons") => `(tactic| (refine Blk.out ?_))
local macro_rules | `(tactic| walk_at "call builtin:dict.get") => `(tactic| (refine Blk.out ?_))
local macro_rules | `(tactic| walk_at "call builtin:hex") => `(tactic| (refine Blk.out ?_))
local macro_rules | `(tactic| walk_at "call builtin:str.join") => `(tactic| (refine Blk.out ?_))
def nameAt (i : Nat) : Str := [Str.ofString "OPTIMIZED", Str.ofString "NEWLOCALS", Str.ofString "VARARGS", Str.ofString "VARKEYWORDS", Str.ofString "NESTED", Str.ofString "GENERATOR", Str.ofString "NOFREE"].getD i (Str.ofString "")
def bitsTo (n : Nat) : Nat → List Nat
  | 0 => []
  | i + 1 => if n.testBit i then bitsTo n i ++ [i] else bitsTo n i
def clr (n i : Nat) : Int := ((n >>> i <<< i : Nat) : Int)
theorem hexlen {k : Int} (hk : k.toNat < 32) : (baseText "0x" 16 (1 * 2 ^ k.toNat)).length ≤ sizeLine := by
  have h : ∀ j : Fin 32, (baseText "0x" 16 (1 * 2 ^ j.val)).length ≤ 16777216 := by decide +kernel
  rw [sizeLine_eq]
  exact h ⟨k.toNat, hk⟩
theorem look32 {j : Nat} (hj : j < 7) (d : PyData) : (PySem.Spec.lookup (PyData.int (1 * 2 ^ j)) D32).getD d = PyData.str (nameAt j) := by
  match j, hj with
  | 0, _ => rfl
  | 1, _ => rfl
  | 2, _ => rfl
  | 3, _ => rfl
  | 4, _ => rfl
  | 5, _ => rfl
  | 6, _ => rfl
theorem clr_tab : ∀ n : Fin 128, ∀ j : Fin 32, (Builtin.bitAnd (clr n j) (1 * 2 ^ j.val) ≠ 0 ↔ n.val.testBit j = true) ∧ (n.val.testBit j = true → Builtin.bitXor (clr n j) (1 * 2 ^ j.val) = clr n (j + 1)) ∧ (n.val.testBit j = false → clr n (j + 1) = clr n j) ∧
    (clr n (j + 1) = 0 → bitsTo n (j + 1) = bitsTo n 7) ∧ (clr n j ≠ 0 → j.val < 7) := by decide +kernel
theorem flat_str {v : Value} {x : Str} (h : PyProof.V.Flat v (PyData.str x)) : ∃ t, v = .str x t := PyProof.V.Flat.str_inv h
theorem bitsTo_len (n : Nat) : ∀ i, (bitsTo n i).length ≤ i
  | 0 => Nat.le_refl _
  | i + 1 => by
    have := bitsTo_len n i
    unfold bitsTo
    split
    · rw [List.length_append, List.length_singleton]; omega
    · omega
def wordsN (n : Nat) : List Str := (bitsTo n 7).map nameAt
def flagText (n : Nat) : Str := Txt.join (Str.ofString ", ") (wordsN n)
theorem wordsN_small (n : Nat) (hn : n < 128) : ((wordsN n).map (·.length)).sum + (wordsN n).length ≤ 1048576 := by
  have h : ∀ n : Fin 128, ((wordsN n).map (·.length)).sum + (wordsN n).length ≤ 1048576 := by decide +kernel
  exact h ⟨n, hn⟩
theorem strs_snoc {vs : List Value} {ys : List Str} (h : StrsAre vs ys) (y : Str) (t : Tok) : StrsAre (vs ++ [.str y t]) (ys ++ [y]) := by
  induction h with
  | nil => exact StrsAre.cons _ _ StrsAre.nil
  | cons z u _ ih => exact StrsAre.cons _ _ ih
theorem words_on {n j : Nat} {ys : List Str} (h : ys = (bitsTo n j).map nameAt) (hb : n.testBit j = true) : ys ++ [nameAt j] = (bitsTo n (j + 1)).map nameAt := by
  rw [h]
  show _ = (if n.testBit j = true then bitsTo n j ++ [j] else bitsTo n j).map nameAt
  rw [if_pos hb, List.map_append]
  rfl
theorem words_off {n j : Nat} {ys : List Str} (h : ys = (bitsTo n j).map nameAt) (hb : n.testBit j = false) : ys = (bitsTo n (j + 1)).map nameAt := by
  rw [h]
  show _ = (if n.testBit j = true then bitsTo n j ++ [j] else bitsTo n j).map nameAt
  rw [if_neg (by rw [hb]; decide)]
set_option maxHeartbeats 8000000 in

theorem flags_spec (w : World) (n : Nat) (tn : Tok) (hn : 0 < n ∧ n < 128) : Spec w 39 1 [.int n tn] [] (fun v led' => led' = [] ∧ ∃ t, v = .str (flagText n) t) := by
  unfold Spec
  k_fill
  intro mean mg mb dp un gd cn cs a ccd cl outer A₀ base h₀ L m s Q E B F X N T hk hd hu hret
  refine wpAny_call ?_
  cell_end [(Str.ofString "flags", .int n tn)] rfl rfl

  k_steps
  refine Blk.mk ?_
  rename_i l0 hA l1 h0 F0 N0
  k_dflt (refine' forElse_range (σ := List Value × List Str × Nat × Int × Tok) (n := 32) (fun c => [(l0, listOf c.1.toArray c.2.2.1)]) (fun c => [(Str.ofString "flags", .int c.2.2.2.1 c.2.2.2.2)]) (fun c => StrsAre c.1 c.2.1) [Str.ofString "flag"] (fun pre c => c.2.1 = (bitsTo n pre.length).map nameAt ∧ c.2.2.2.1 = clr n pre.length ∧ c.2.2.2.1 ≠ 0) ([], [], 0, (n : Int), tn) F0 ?a1 ?a2 ?a3 ?a4 ?a5 ?a6 ?a7 ?a8 ?a9 ?a10 ?a11 ?a12 ?a13)
  (case a1 => exact rfl)
  (case a2 => exact rfl)
  (case a3 => exact rfl)
  (case a4 => decide)
  (case a5 => decide)
  (case a6 => (k_steps; all_goals assumption))
  (case a7 => exact StrsAre.nil)
  (case a8 => exact List.forall_mem_cons.mpr ⟨rfl, List.forall_mem_nil _⟩)
  (case a9 => exact ⟨rfl, by simp [clr], by simp; omega⟩)
  (case a11 =>
    intro c pre hl _ hp
    have h0 := (clr_tab ⟨n, hn.2⟩ ⟨31, by decide⟩).2.2.2.2
    have h1 := hp.2.1
    rw [hl] at h1
    have h2 : clr n 32 = 0 := by
      have : n >>> 32 = 0 := by rw [Nat.shiftRight_eq_div_pow]; exact Nat.div_eq_of_lt (by omega)
      simp [clr, this]
    exact hp.2.2 (h1.trans h2))
  (case a12 => (intro _; with_unfolding_all rfl))
  (case a13 => with_unfolding_all passes_own)
  (case a10 =>
    rintro ⟨us, ys, cn, fl, tf⟩ pre k t u h tk own hk hlt hoff hf ⟨hp1, hp2, hp3⟩ F N
    dsimp only [kstB] at hp1 hp2 hp3 hf F N
    have hkn : k.toNat = pre.length := by omega
    have T := clr_tab ⟨n, hn.2⟩ ⟨pre.length, hlt⟩
    dsimp only at T
    have hus : us.length ≤ 32 := by
      have h1 := hf.length
      have h2 := bitsTo_len n pre.length
      rw [hp1, List.length_map] at h1
      omega
    have hj := T.2.2.2.2 (by rw [← hp2]; exact hp3)
    rw [hkn.symm] at hp1 hp2 T hj
    have hlen : (pre ++ [k]).length = k.toNat + 1 := by rw [List.length_append, List.length_singleton, hkn]
    have SA : Builtin.bitAnd fl (1 * 2 ^ k.toNat) ≠ 0 → Builtin.bitXor fl (1 * 2 ^ k.toNat) ≠ 0 → ys ++ [nameAt k.toNat] = (bitsTo n (pre ++ [k]).length).map nameAt ∧ Builtin.bitXor fl (1 * 2 ^ k.toNat) = clr n (pre ++ [k]).length ∧ Builtin.bitXor fl (1 * 2 ^ k.toNat) ≠ 0 := by
      intro h1 h2
      have hb := T.1.mp (hp2 ▸ h1)
      rw [hlen]
      exact ⟨words_on hp1 hb, by rw [hp2]; exact T.2.1 hb, h2⟩
    have SJ : Builtin.bitAnd fl (1 * 2 ^ k.toNat) ≠ 0 → Builtin.bitXor fl (1 * 2 ^ k.toNat) = 0 → ys ++ [nameAt k.toNat] = wordsN n := by
      intro h1 h2
      have hb := T.1.mp (hp2 ▸ h1)
      rw [words_on hp1 hb]
      unfold wordsN
      rw [T.2.2.2.1 (by rw [← T.2.1 hb, ← hp2]; exact h2)]
    have SB : Builtin.bitAnd fl (1 * 2 ^ k.toNat) = 0 → ys = (bitsTo n (pre ++ [k]).length).map nameAt ∧ fl = clr n (pre ++ [k]).length ∧ fl ≠ 0 := by
      intro h1
      have hb : n.testBit k.toNat = false := by
        cases q : n.testBit k.toNat with
        | false => rfl
        | true => exact absurd (hp2 ▸ h1) (T.1.mpr q)
      rw [hlen]
      exact ⟨words_off hp1 hb, by rw [hp2]; exact (T.2.2.1 hb).symm, hp3⟩
    (k_with "state" => first | exact SA (by assumption) (by assumption) | exact SB (by assumption))
    k_steps
    · refine Blk.mk ?_
      k_dflt (refine P.hex_of_int ?_ (hexlen (by omega)))
      k_steps
      refine Blk.mk ?_
      k_dflt (refine call_get2_intTab (tab32 (by k_in)) (PyProof.V.Flat.str _ _) ?_)
      intro v9 hv
      rw [look32 hj] at hv
      obtain ⟨t9, rfl⟩ := flat_str hv
      dsimp only
      have hS := strs_snoc hf (nameAt k.toNat) t9
      k_steps
      have hW := SJ (by assumption) (by assumption)
      refine Blk.mk ?_
      k_dflt (refine join_listW (items := us.toArray.push (Value.str (nameAt k.toNat) t9)) (ys := ys ++ [nameAt k.toNat]) (by is_list) (by simpa using hS) (by decide +kernel) (by rw [hW]; exact wordsN_small n hn.2) ?_)
      rw [hW]
      intro t' k'
      k_steps
      exact hret _ _ _ _ ⟨rfl, _, rfl⟩ (by assumption) News.nil (After.old (by assumption) (by assumption) (by simp)))
end
local macro_rules | `(tactic| walk_at "idle20") => `(tactic| skip)
local macro_rules | `(tactic| walk_at "idle21") => `(tactic| skip)
local macro_rules | `(tactic| walk_at "idle22") => `(tactic| skip)
local macro_rules | `(tactic| walk_at "idle23") => `(tactic| skip)
local macro_rules | `(tactic| walk_at "idle24") => `(tactic| skip)
section
theorem wipeC7 : True := by k_with_none; w_top off; trivial
section
open PySem.Builtin.Str
variable {x y : Str}
def gl : List (List Nat) → List Nat
  | [] => []
  | [w] => w
  | w :: v :: r => w ++ 44 :: 32 :: gl (v :: r)
theorem at_iff (hy : y.cps.toList = [44, 32]) (k : Nat) : StrLaws.At x y x.length k ↔ ∃ t, x.cps.toList.drop k = 44 :: 32 :: t := by
  have hl : y.length = 2 := by show y.cps.size = 2; rw [← Array.length_toList, hy]; rfl
  unfold StrLaws.At
  rw [StrLaws.subAt_eq, hl, hy, beq_iff_eq]
  constructor
  · rintro ⟨_, h⟩
    refine ⟨(x.cps.toList.drop k).drop 2, ?_⟩
    have := List.take_append_drop 2 (x.cps.toList.drop k)
    rw [h] at this
    exact this.symm
  · rintro ⟨t, h⟩
    rw [h]
    refine ⟨?_, rfl⟩
    have := congrArg List.length h
    rw [List.length_drop] at this
    simp at this
    show k + 2 ≤ x.cps.size
    omega
theorem no_at (hy : y.cps.toList = [44, 32]) {a : Nat} {u rest : List Nat} (h : x.cps.toList.drop a = u ++ rest) (hu : 44 ∉ u) {k : Nat} (h1 : a ≤ k) (h2 : k < a + u.length) : ¬ StrLaws.At x y x.length k := by
  rw [at_iff hy]
  rintro ⟨t, ht⟩
  have e : x.cps.toList.drop k = u.drop (k - a) ++ rest := by
    have : x.cps.toList.drop k = (x.cps.toList.drop a).drop (k - a) := by rw [List.drop_drop]; congr 1; omega
    rw [this, h, List.drop_append_of_le_length (by omega)]
  rw [List.drop_eq_getElem_cons (l := u) (by omega)] at e
  rw [e] at ht
  have : u[k - a] = 44 := (List.cons.inj ht).1
  exact hu (this ▸ List.getElem_mem ..)
theorem parts_are (hy : y.cps.toList = [44, 32]) (hl : y.length = 2) : ∀ (ws : List (List Nat)) (a : Nat) (cuts : List Nat) (f : Nat), ws ≠ [] → (∀ u ∈ ws, 44 ∉ u) → x.cps.toList.drop a = gl ws → StrLaws.ChainG x y x.length a cuts f → (∀ k, f ≤ k → ¬ StrLaws.At x y x.length k) →
    (StrLaws.partsFrom x y.length a cuts).map (fun p => p.cps.toList) = ws
  | [], _, _, _, h, _, _, _, _ => absurd rfl h
  | [u], a, cuts, f, _, hu, hd, hc, hf => by
    have hd' : x.cps.toList.drop a = u ++ [] := by rw [hd, List.append_nil]; rfl
    match cuts, hc with
    | [], _ =>
      show [(strSub x a x.length).cps.toList] = [u]
      rw [StrLaws.strSub_toList, hd, List.take_of_length_le]
      · rfl
      · have := congrArg List.length hd
        rw [List.length_drop] at this
        show (gl [u]).length ≤ x.cps.size - a
        rw [← this]; simp
    | c :: r, hc =>
      exfalso
      have hat := (at_iff hy c).mp hc.2.1
      obtain ⟨t, ht⟩ := hat
      refine no_at hy hd' (hu u (.head _)) (k := c) hc.1 ?_ hc.2.1
      have h1 := congrArg List.length hd'
      have h2 := congrArg List.length ht
      rw [List.length_drop] at h1 h2
      simp at h1 h2
      omega
  | u :: v :: r, a, cuts, f, _, hu, hd, hc, hf => by
    have hd' : x.cps.toList.drop a = u ++ (44 :: 32 :: gl (v :: r)) := hd
    have hat : StrLaws.At x y x.length (a + u.length) := by
      rw [at_iff hy]
      refine ⟨gl (v :: r), ?_⟩
      rw [← List.drop_drop, hd']
      simp
    match cuts, hc with
    | [], hc =>
      exfalso
      have e : f = a := hc
      exact hf _ (by omega) hat
    | c :: r', hc =>
      have hca : c = a + u.length := by
        rcases Nat.lt_trichotomy c (a + u.length) with q | q | q
        · exact absurd hc.2.1 (no_at hy hd' (hu u (.head _)) hc.1 q)
        · exact q
        · exact absurd hat (hc.2.2.1 _ (by omega) q)
      have hnext : x.cps.toList.drop (c + y.length) = gl (v :: r) := by
        rw [hl, hca, Nat.add_assoc, ← List.drop_drop, hd']
        simp
      have ih := parts_are hy hl (v :: r) (c + y.length) r' f (by simp) (fun z hz => hu z (.tail _ hz)) hnext hc.2.2.2 hf
      show (strSub x a c).cps.toList :: (StrLaws.partsFrom x y.length (c + y.length) r').map (fun p => p.cps.toList) = u :: v :: r
      rw [ih, StrLaws.strSub_toList, hd', hca]
      simp
theorem split_is (hy : y.cps.toList = [44, 32]) {ws : List (List Nat)} (h0 : ws ≠ []) (hw : ∀ u ∈ ws, 44 ∉ u) (hx : x.cps.toList = gl ws) : (Txt.split x y).map (fun p => p.cps.toList) = ws := by
  have hl : y.length = 2 := by show y.cps.size = 2; rw [← Array.length_toList, hy]; rfl
  obtain ⟨f, hG, hn⟩ := StrLaws.occ_tight x y (by omega)
  have hp := parts_are hy hl ws 0 _ f h0 hw (by rw [List.drop_zero]; exact hx) hG hn
  have hk : ¬ Builtin.Str.strKind x < Builtin.Str.strKind y := by
    have : y = ⟨#[44, 32]⟩ := Str.ext' (Array.toList_inj.mp hy)
    subst this
    have : Builtin.Str.strKind (⟨#[44, 32]⟩ : Str) = 1 := by decide +kernel
    rw [this]
    unfold Builtin.Str.strKind
    split
    · omega
    · split <;> omega
  have hone : occurrences x y 0 x.length (x.length + 1) = [] → StrLaws.partsFrom x y.length 0 (occurrences x y 0 x.length (x.length + 1)) = [x] := by
    intro e
    rw [e]
    show [strSub x 0 x.length] = [x]
    rw [StrLaws.sub_whole]
  unfold Txt.split
  split
  · rename_i hc
    rw [Bool.or_eq_true, decide_eq_true_eq, decide_eq_true_eq] at hc
    rcases hc with hc | hc
    · rw [← hone ?_]
      · exact hp
      · match q : occurrences x y 0 x.length (x.length + 1), hG with
        | [], _ => rfl
        | c :: r, hG => have := hG.2.1.1; omega
    · exact absurd hc hk
  · split
    · rename_i he
      rw [← hone (List.isEmpty_iff.mp he)]
      exact hp
    · rw [StrLaws.partsBetween_eq]
      exact hp
end
local macro_rules | `(tactic| walk_at "call builtin:str.split") => `(tactic| (refine Blk.out ?_))
theorem words_tab : ∀ n : Fin 128, 0 < n.val → wordsN n ≠ [] ∧ (∀ u ∈ (wordsN n).map (fun p => p.cps.toList), 44 ∉ u) ∧ (flagText n).cps.toList = gl ((wordsN n).map (fun p => p.cps.toList)) ∧ (flagText n).length ≤ 1000 := by decide +kernel
theorem strs_of_lists : ∀ {xs ys : List Str}, xs.map (fun p => p.cps.toList) = ys.map (fun p => p.cps.toList) → xs = ys
  | [], [], _ => rfl
  | [], _ :: _, h => by simp at h
  | _ :: _, [], h => by simp at h
  | x :: xs, y :: ys, h => by
    rw [List.map_cons, List.map_cons] at h
    have h1 := (List.cons.inj h).1
    have h2 := strs_of_lists (List.cons.inj h).2
    rw [h2, Str.ext' (Array.toList_inj.mp h1)]
theorem split_words {n : Nat} (h0 : 0 < n) (hn : n < 128) : Txt.split (flagText n) (Str.ofString ", ") = wordsN n ∧ (flagText n).length + 2 ≤ sizeLine := by
  obtain ⟨h1, h2, h3, h4⟩ := words_tab ⟨n, hn⟩ h0
  refine ⟨strs_of_lists (split_is (by decide +kernel) (by simpa using h1) h2 h3), ?_⟩
  rw [sizeLine_eq]
  dsimp only at h4
  omega
set_option maxHeartbeats 8000000 in

theorem words_spec (w : World) (n : Nat) (tn : Tok) (hn : n < 128) : Spec w 147 2 [.int n tn] [] (fun v led' => ∃ l vs c, v = .ref l ∧ led' = [(l, listOf vs.toArray c)] ∧ StrsAre vs (wordsN n)) := by
  unfold Spec
  k_fill
  intro mean mg mb dp un gd cn cs a ccd cl outer A₀ base h₀ L m s Q E B F X N T hk hd hu hret
  refine wpAny_call ?_
  cell_end [(Str.ofString "number", .int n tn)] rfl rfl

  k_steps
  · cell_ask (flags_spec w n tn ?hn)
    (case hn => omega)
    intro v9 led9 h9 tk9 O9 A9 F9 N9
    obtain ⟨rfl, t, rfl⟩ := O9
    dsimp only
    k_steps
    have hw := split_words (n := n) (by omega) hn
    refine Blk.mk ?_
    k_dflt (refine PySem.W.KSpl.split1 (by k_asm) (by k_asm) (by decide +kernel) ?_ hw.2)
    intro D l h' k e S F' N' l1
    rw [e, hw.1] at S
    k_steps
    exact hret _ _ _ _ ⟨_, _, _, rfl, rfl, S⟩ (by assumption) (by assumption) (After.new (by assumption) (by assumption) (by assumption) (by k_allIn))
  · k_steps
    have e0 : n = 0 := by omega
    subst e0
    exact hret _ _ _ _ ⟨_, [], _, rfl, rfl, StrsAre.nil⟩ (by assumption) (by assumption) (After.new (by assumption) (by assumption) (by assumption) (by k_allIn))
end
local macro_rules | `(tactic| walk_at "idle25") => `(tactic| skip)
local macro_rules | `(tactic| walk_at "idle26") => `(tactic| skip)
section
theorem wipeC8A : True := by k_with_none; w_top off; trivial
section
open PyProof.V
variable {prog : Program} {w : World} {A : Around} {E : Value → Shared → Prop} {s : Shared} {env : Env} {h₀ : Heap} {x : Str} {body : List Stmt} {Q : Flow → Shared → Prop}
/-- a turn's end in a loop whose ledger may change its addresses -/
def GrowEnd (h₀ : Heap) (L : Addr) (S : (Str → Option Value) → List (Addr × Obj) → Prop) (I : Addr) (io : Obj) (s₁ s₂ : Shared) : Prop :=
  ∃ h' tk m' all nx, s₂ = { s₁ with heap := h', toks := tk } ∧ Fr h₀ L h' m' ∧ News h₀ L h' all ∧ (I, io) ∈ all ∧ (∀ p ∈ nx, p ∈ all) ∧ (∀ p ∈ nx, p.1 ≠ I) ∧ S m' nx
def GrowPost (h₀ : Heap) (L : Addr) (S : (Str → Option Value) → List (Addr × Obj) → Prop) (I : Addr) (io : Obj) (s₁ : Shared) (Q : Flow → Shared → Prop) (f : Flow) (s₂ : Shared) : Prop :=
  match f with
  | .ret v => Q (.ret v) s₂
  | .brk => Q .next s₂
  | _ => GrowEnd h₀ L S I io s₁ s₂
theorem GrowEnd.intro {L I : Addr} {S : (Str → Option Value) → List (Addr × Obj) → Prop} {io : Obj} {s₁ : Shared} {h' : Heap} {tk : Nat} {m' : Str → Option Value} {all : List (Addr × Obj)} (nx : List (Addr × Obj)) (F : Fr h₀ L h' m') (N : News h₀ L h' all)
    (hI : (I, io) ∈ all) (hs : ∀ p ∈ nx, p ∈ all) (hn : ∀ p ∈ nx, p.1 ≠ I) (hS : S m' nx) : GrowEnd h₀ L S I io s₁ { s₁ with heap := h', toks := tk } := ⟨h', tk, m', all, nx, rfl, F, N, hI, hs, hn, hS⟩

theorem loop_grow {I : Addr} {fp : List Addr} {n : Nat} {P : Nat → Value → Prop} {St : Nat → Heap → Prop} {m₀ : Str → Option Value} {news base : List (Addr × Obj)} (J : Nat → (Str → Option Value) → List (Addr × Obj) → Prop)
    (W : Walks prog w A I fp [I] n P St) (hI0 : h₀.get? I = none) (hLf : env.locals ∉ fp) (hb : ∀ b ∈ fp, b = I ∨ ∃ o, (b, o) ∈ base) (hJb : ∀ i m nx, J i m nx → ∀ p ∈ base, p ∈ nx) (hio : ∀ i h, St i h → ∃ io, h.get? I = some io)
    (hnw : ∀ p ∈ news, p.1 ≠ I) (hst : St 0 s.heap) (F : Fr h₀ env.locals s.heap m₀) (N : News h₀ env.locals s.heap news) (hj : J 0 m₀ news)
    (turn : ∀ i v m₁ news₁ h tk io, i < n → P i v → (∀ p ∈ news₁, p.1 ≠ I) → J i m₁ news₁ → Fr h₀ env.locals h (fun y => if y = x then some v else m₁ y) → News h₀ env.locals h (news₁ ++ [(I, io)]) →
      wpAny (model prog w) A (execs body env) (GrowPost h₀ env.locals (J (i + 1)) I io { s with heap := h, toks := tk } Q) E { s with heap := h, toks := tk })
    (done : ∀ m₁ news₁ h tk, J n m₁ news₁ → Fr h₀ env.locals h m₁ → News h₀ env.locals h news₁ → Q .next { s with heap := h, toks := tk }) :
    LoopAtV prog w A h₀ env x body Q E (.ref I) s := by
  refine ⟨I, fp, [I], n, P, St, m₀, news, J, rfl, W, hLf, fun b hb => by rw [List.mem_singleton.mp hb]; exact hI0, fun p hp h => hnw p hp (List.mem_singleton.mp h), hst, F, N, hj, ?_, ?_⟩
  · rintro i v m₁ news₁ s₁ own ⟨hh', tk', rfl⟩ hin hP hJ hoff hown hget hall hst₁ F₁ N₁
    obtain ⟨io, hio'⟩ := hio _ _ hst₁
    have hIfp : I ∈ fp := W.sub I (.head _)
    have N₂ : News h₀ env.locals hh' (news₁ ++ [(I, io)]) := fun p hp => (List.mem_append.mp hp).elim (fun h => N₁ p (List.mem_append_right _ h)) fun h => by
      rw [List.mem_singleton.mp h]
      exact ⟨hio', fun e => hLf (by rw [← e]; exact hIfp), hI0⟩
    refine wpAny_mono (turn i v m₁ news₁ hh' tk' io hin hP (fun p hp h => hoff p hp (by rw [h]; exact .head _)) hJ F₁ N₂) (fun f s₂ p => ?_) fun _ _ e => e
    have fin : GrowEnd h₀ env.locals (J (i + 1)) I io { s with heap := hh', toks := tk' } s₂ → LoopStepU h₀ env.locals [I] own (J (i + 1)) { s with heap := hh', toks := tk' } .next s₂ := by
      rintro ⟨h', tk, m', all, nx, e, F', N', hI, hs, hn, hm⟩
      refine ⟨rfl, h', tk, m', nx, e, F', fun p hp => ?_, fun p hp hq => hn p hp (List.mem_singleton.mp hq), hm⟩
      rcases List.mem_append.mp hp with hp | hp
      · rcases hb p.1 (hown p hp) with hb1 | ⟨o, ho⟩
        · have e1 := hget p hp
          rw [hb1, hio'] at e1
          have : p = (I, io) := Prod.ext hb1 (Option.some.inj e1).symm
          rw [this]
          exact N' _ hI
        · have e1 := hget p hp
          have e2 := (N₁ _ (List.mem_append_right _ (hJb _ _ _ hJ _ ho))).1
          have e3 : some p.2 = some o := e1.symm.trans e2
          have : p = (p.1, o) := Prod.ext rfl (Option.some.inj e3)
          rw [this]
          exact N' _ (hs _ (hJb _ _ _ hm _ ho))
      · exact N' p (hs p hp)
    cases f with
    | ret v => exact .ret p
    | brk => exact .brk p
    | next => exact .next (fin p)
    | cont => exact .cont (fin p)
  · rintro h' tk m' news' F' N' _ hJ
    exact done m' news' h' tk hJ F' N'

set_option maxHeartbeats 4000000 in
theorem grow_list {σ : Type} {l : Addr} {vs : List Value} {ns : List Int} {nn : Nat} {m₀ : Str → Option Value} (Led : σ → List (Addr × Obj)) (ps : σ → List (Str × Value)) (Facts : σ → Prop) (stored : List Str) (P : List Int → σ → Prop) (c₀ : σ)
    (hh : A.handled = none) (hl : ∀ c : σ, (l, listOf vs.toArray nn) ∈ Led c) (hi : IntsAre vs ns) (F : Fr h₀ env.locals s.heap m₀) (N : News h₀ env.locals s.heap (Led c₀)) (hf : Facts c₀) (hk : ∀ p ∈ ps c₀, m₀ p.1 = some p.2) (hp : P [] c₀)
    (turn : ∀ (c : σ) pre post n t (u : Str → Option Value) h tk I io, ns = pre ++ n :: post → (∀ p ∈ Led c, p.1 ≠ I) → Facts c → P pre c →
      Fr h₀ env.locals h (fun y => if y = x then some (.int n t) else kstB (fun z => if stored.contains z then u z else m₀ z) (ps c) y) → News h₀ env.locals h (Led c ++ [(I, io)]) →
      wpAny (model prog w) A (execs body env) (GrowPost h₀ env.locals (KstS Led ps Facts x stored m₀ P (pre ++ [n])) I io { s with heap := h, toks := tk } Q) E { s with heap := h, toks := tk })
    (done : ∀ (c : σ) (u : Str → Option Value) h tk, Facts c → P ns c → Fr h₀ env.locals h (fun y => if y = x then u y else kstB (fun z => if stored.contains z then u z else m₀ z) (ps c) y) → News h₀ env.locals h (Led c) → Q .next { s with heap := h, toks := tk }) :
    wpAny (model prog w) A (pyIter (.ref l)) (fun it s₂ => LoopAtV prog w A h₀ env x body Q E it s₂) E s := by
  have hol : s.heap.get? l = some (listOf vs.toArray nn) := (N _ (hl c₀)).1
  have hls : s.heap.IsList l vs.toArray := ⟨_, hol, rfl, nn, rfl⟩
  have hne : l ≠ s.heap.objs.size := Nat.ne_of_lt (Heap.lt_size hol)
  refine wpAny_pyIter_list hls ?_
  have W := Walks.list (prog := prog) (w := w) hh s.heap.objs.size l hne vs.toArray
  have hlen : vs.toArray.size = ns.length := by simp [hi.length]
  rw [hlen] at W
  refine loop_grow (base := [(l, listOf vs.toArray nn)]) (fun i m nx => KstS Led ps Facts x stored m₀ P (ns.take i) m nx) W (next_is_new F) ?_ ?_ ?_ ?_ ?_ ⟨⟨_, Heap.get?_push_size _ rfl, rfl, rfl⟩, hls.at fun o e => Heap.get?_push_of_some _ e⟩ (F.push _) (fun p hp => ⟨Heap.get?_push_of_some _ (N p hp).1, (N p hp).2⟩) ⟨c₀, rfl, hf, hk, fun _ _ _ _ => rfl, by simpa using hp⟩ ?_ ?_
  · intro hm
    rcases List.mem_cons.mp hm with e | hm
    · exact absurd F.ns.lt (e ▸ Nat.lt_irrefl _)
    · exact (N _ (hl c₀)).2.1 (List.mem_singleton.mp hm).symm
  · intro b hb
    rcases List.mem_cons.mp hb with e | hb
    · exact .inl e
    · exact .inr ⟨_, by rw [List.mem_singleton.mp hb]; exact .head _⟩
  · rintro i m nx ⟨c, rfl, _⟩ p hp
    rw [List.mem_singleton.mp hp]
    exact hl c
  · rintro i h ⟨⟨o, ho, _⟩, _⟩
    exact ⟨o, ho⟩
  · intro p hp hI
    exact absurd (Heap.lt_size (N p hp).1) (hI ▸ Nat.lt_irrefl _)
  · rintro i v m₁ nx h tk io hi' hP hoff ⟨c, rfl, hf', h1, h2, hp'⟩ F₁ N₁
    obtain ⟨n, hn⟩ : ∃ n, ns[i]? = some n := ⟨_, List.getElem?_eq_getElem hi'⟩
    obtain ⟨t, hx⟩ := hi.get i n hn
    have hv : v = .int n t := by
      have hP' : vs[i]? = some v := by simpa using hP
      rw [hx] at hP'; exact (Option.some.inj hP').symm
    subst hv
    have hs : ns.take (i + 1) = ns.take i ++ [n] := by rw [List.take_add_one, hn]; rfl
    have e : ns = ns.take i ++ n :: ns.drop (i + 1) := by
      have ht := List.take_append_drop (i + 1) ns
      rw [hs, List.append_assoc] at ht
      exact ht.symm
    rw [hs]
    exact turn c _ _ _ t m₁ h tk _ io e hoff hf' hp' (kst_fr h1 h2 F₁) N₁
  · rintro m₁ nx h tk ⟨c, rfl, hf', h1, h2, hp'⟩ F₁ N₁
    rw [List.take_length] at hp'
    exact done c m₁ h tk hf' hp' (kst_frOut h1 h2 F₁) N₁

set_option maxHeartbeats 4000000 in
theorem grow_dict {σ : Type} {d : Addr} {o : Obj} {kvs : List (Int × Value)} {cs : List (Int × Int)} {m₀ : Str → Option Value} (Led : σ → List (Addr × Obj)) (ps : σ → List (Str × Value)) (Facts : σ → Prop) (stored : List Str) (P : List Int → σ → Prop) (c₀ : σ)
    (hh : A.handled = none) (lo : (d == sysModules) = false) (hl : ∀ c : σ, (d, o) ∈ Led c) (hd : o.IsDictOf (PySem.intKind prog w) kvs) (hfl : FlatPairs PyData.int kvs (kdfD cs)) (F : Fr h₀ env.locals s.heap m₀) (N : News h₀ env.locals s.heap (Led c₀)) (hf : Facts c₀) (hk : ∀ p ∈ ps c₀, m₀ p.1 = some p.2) (hp : P [] c₀)
    (turn : ∀ (c : σ) pre post n t (u : Str → Option Value) h tk I io, cs.map (·.1) = pre ++ n :: post → (∀ p ∈ Led c, p.1 ≠ I) → Facts c → P pre c →
      Fr h₀ env.locals h (fun y => if y = x then some (.int n t) else kstB (fun z => if stored.contains z then u z else m₀ z) (ps c) y) → News h₀ env.locals h (Led c ++ [(I, io)]) →
      wpAny (model prog w) A (execs body env) (GrowPost h₀ env.locals (KstS Led ps Facts x stored m₀ P (pre ++ [n])) I io { s with heap := h, toks := tk } Q) E { s with heap := h, toks := tk })
    (done : ∀ (c : σ) (u : Str → Option Value) h tk, Facts c → P (cs.map (·.1)) c → Fr h₀ env.locals h (fun y => if y = x then u y else kstB (fun z => if stored.contains z then u z else m₀ z) (ps c) y) → News h₀ env.locals h (Led c) → Q .next { s with heap := h, toks := tk }) :
    wpAny (model prog w) A (pyIter (.ref d)) (fun it s₂ => LoopAtV prog w A h₀ env x body Q E it s₂) E s := by
  have hod : s.heap.get? d = some o := (N _ (hl c₀)).1
  obtain ⟨ep, ha⟩ := KdkAt.of hd
  have hat := ha.dictAt hod
  have hne : d ≠ s.heap.objs.size := Nat.ne_of_lt (Heap.lt_size hod)
  refine wpAny_pyIter_dict lo hat ?_
  have W := Walks.dictKeys (prog := prog) (w := w) (knd := PySem.intKind prog w) hh s.heap.objs.size d hne kvs ep
  have hlen : kvs.length = (cs.map (·.1)).length := by rw [List.length_map, ← hfl.length, kdfD_length]
  rw [hlen] at W
  refine loop_grow (base := [(d, o)]) (fun i m nx => KstS Led ps Facts x stored m₀ P ((cs.map (·.1)).take i) m nx) W (next_is_new F) ?_ ?_ ?_ ?_ ?_ ⟨⟨_, Heap.get?_push_size _ rfl, rfl, by rw [hlen]; rfl⟩, hat.at' fun o e => Heap.get?_push_of_some _ e⟩ (F.push _) (fun p hp => ⟨Heap.get?_push_of_some _ (N p hp).1, (N p hp).2⟩) ⟨c₀, rfl, hf, hk, fun _ _ _ _ => rfl, by simpa using hp⟩ ?_ ?_
  · intro hm
    rcases List.mem_cons.mp hm with e | hm
    · exact absurd F.ns.lt (e ▸ Nat.lt_irrefl _)
    · exact (N _ (hl c₀)).2.1 (List.mem_singleton.mp hm).symm
  · intro b hb
    rcases List.mem_cons.mp hb with e | hb
    · exact .inl e
    · exact .inr ⟨_, by rw [List.mem_singleton.mp hb]; exact .head _⟩
  · rintro i m nx ⟨c, rfl, _⟩ p hp
    rw [List.mem_singleton.mp hp]
    exact hl c
  · rintro i h ⟨⟨o, ho, _⟩, _⟩
    exact ⟨o, ho⟩
  · intro p hp hI
    exact absurd (Heap.lt_size (N p hp).1) (hI ▸ Nat.lt_irrefl _)
  · rintro i v m₁ nx h tk io hi' ⟨k, y, hky, hisk⟩ hoff ⟨c, rfl, hf', h1, h2, hp'⟩ F₁ N₁
    obtain ⟨t, rfl⟩ := PySem.Value.isInt_shape hisk
    obtain ⟨p, hpj, t2, _⟩ := kdy_valAt hfl hky
    have hkeys : (cs.map (·.1))[i]? = some k := by
      obtain ⟨dv, hdv, _⟩ := hfl.at hky
      have hd' : (cs[i]?).map (fun p => (PyData.int p.1, PyData.int p.2)) = some (PyData.int k, dv) := by rw [← List.getElem?_map]; exact hdv
      rw [hpj] at hd'
      have e1 : PyData.int p.1 = PyData.int k := congrArg Prod.fst (Option.some.inj hd')
      injection e1 with e1
      rw [List.getElem?_map, hpj, ← e1]; rfl
    have hs : (cs.map (·.1)).take (i + 1) = (cs.map (·.1)).take i ++ [k] := by rw [List.take_add_one, hkeys]; rfl
    have e : cs.map (·.1) = (cs.map (·.1)).take i ++ k :: (cs.map (·.1)).drop (i + 1) := by
      have ht := List.take_append_drop (i + 1) (cs.map (·.1))
      rw [hs, List.append_assoc] at ht
      exact ht.symm
    rw [hs]
    exact turn c _ _ _ t m₁ h tk _ io e hoff hf' hp' (kst_fr h1 h2 F₁) N₁
  · rintro m₁ nx h tk ⟨c, rfl, hf', h1, h2, hp'⟩ F₁ N₁
    rw [List.take_length] at hp'
    exact done c m₁ h tk hf' hp' (kst_frOut h1 h2 F₁) N₁
end
end
local macro_rules | `(tactic| walk_at "idle27") => `(tactic| skip)
section
theorem wipeC8P : True := by k_with_none; w_top off; trivial
/-! plain law of the rooks' dict -/
def ones (m : Nat) : Nat := (bitsTo m 7).length
def freeTo (m : Nat) : Nat → Nat
  | 0 => 0
  | j + 1 => if m.testBit j then freeTo m j else freeTo m j + 1
def cnt (k : Nat) (c : List (Int × Int)) : Int := (c.map fun p => if p.1 / 128 = (k : Int) then p.2 else 0).sum
def contrib (q n : Int) (k : Nat) (key v : Int) : Int :=
  (if key / 128 = (k : Int) then v * q ^ (n.toNat - k) else 0) + (match k with | 0 => 0 | k' + 1 => if key / 128 = (k' : Int) then v * meantN q (n.toNat - k') else 0)
def rstep (q : Int) (R : Nat → Int) (n : Int) : Nat → Int := fun k => R k * q ^ (n.toNat - k) + (match k with | 0 => 0 | k' + 1 => R k' * meantN q (n.toNat - k'))
def R0 : Nat → Int := fun k => if k = 0 then 1 else 0
def rookF (q : Int) (b : List Int) : Nat → Int := b.foldl (rstep q) R0
def Key (t r : Nat) (key : Int) : Prop := ∃ m : Nat, key = 128 * (r : Int) + (m : Int) ∧ m < 2 ^ t ∧ ones m = r
theorem meantN_pow (q : Int) : ∀ n, meantN q (n + 1) = meantN q n + q ^ n
  | 0 => by simp [meantN]
  | n + 1 => by
    have ih := meantN_pow q n
    show meantN q (n + 1) * q + 1 = meantN q (n + 1) + q ^ (n + 1)
    have e : meantN q (n + 1) = meantN q n * q + 1 := rfl
    have hp : q ^ (n + 1) = q ^ n * q := Int.pow_succ q n
    rw [show meantN q (n + 1) * q = (meantN q n + q ^ n) * q by rw [ih], Int.add_mul, ← hp, e]
    omega
theorem cnt_cons (k : Nat) (p : Int × Int) (c : List (Int × Int)) : cnt k (p :: c) = (if p.1 / 128 = (k : Int) then p.2 else 0) + cnt k c := by simp [cnt]
theorem contrib_sum (q n : Int) (k : Nat) : ∀ c : List (Int × Int), (c.map fun p => contrib q n k p.1 p.2).sum = rstep q (fun k => cnt k c) n k
  | [] => by
    unfold rstep cnt
    cases k <;> simp
  | p :: c => by
    rw [List.map_cons, List.sum_cons, contrib_sum q n k c]
    unfold rstep contrib
    cases k with
    | zero =>
      simp only [cnt_cons]
      rw [Int.add_mul]
      split <;> simp <;> omega
    | succ k' =>
      simp only [cnt_cons]
      rw [Int.add_mul, Int.add_mul]
      have e1 : (if p.1 / 128 = ((k' + 1 : Nat) : Int) then p.2 else 0) * q ^ (n.toNat - (k' + 1)) = if p.1 / 128 = ((k' + 1 : Nat) : Int) then p.2 * q ^ (n.toNat - (k' + 1)) else 0 := by split <;> simp
      have e2 : (if p.1 / 128 = (k' : Int) then p.2 else 0) * meantN q (n.toNat - k') = if p.1 / 128 = (k' : Int) then p.2 * meantN q (n.toNat - k') else 0 := by split <;> simp
      rw [e1, e2]
      omega
theorem look_notin {c : List (Int × Int)} {k d : Int} (h : k ∉ c.map (·.1)) : kdfLook c k d = d := by
  unfold kdfLook
  rw [List.find?_eq_none.mpr]
  · rfl
  · intro p hp
    have : p.1 ≠ k := fun e => h (e ▸ List.mem_map_of_mem hp)
    simpa using this
theorem look_cons (p : Int × Int) (c : List (Int × Int)) (k d : Int) : kdfLook (p :: c) k d = if p.1 = k then p.2 else kdfLook c k d := by
  unfold kdfLook
  rw [List.find?_cons]
  by_cases h : p.1 = k <;> simp [h]
theorem put_cons (p : Int × Int) (c : List (Int × Int)) (k v : Int) (h : p.1 ≠ k) : kdfPut (p :: c) k v = p :: kdfPut c k v := by
  unfold kdfPut
  have e : ((p :: c).any fun p => decide (p.1 = k)) = c.any fun p => decide (p.1 = k) := by simp [h]
  rw [e]
  split
  · simp [h]
  · rfl
theorem map_same {c : List (Int × Int)} {k v : Int} (h : k ∉ c.map (·.1)) : c.map (fun p => if decide (p.1 = k) then (p.1, v) else p) = c := by
  induction c with
  | nil => rfl
  | cons p c ih =>
    rw [List.map_cons, List.mem_cons, not_or] at h
    rw [List.map_cons, ih h.2]
    have : ¬ p.1 = k := fun e => h.1 e.symm
    simp [this]
theorem put_head (p : Int × Int) (c : List (Int × Int)) (v : Int) (h : p.1 ∉ c.map (·.1)) : kdfPut (p :: c) p.1 v = (p.1, v) :: c := by
  unfold kdfPut
  rw [if_pos (by simp), List.map_cons, map_same h]
  simp
theorem cnt_put (k : Nat) (key w : Int) : ∀ {c : List (Int × Int)}, (c.map (·.1)).Nodup → cnt k (kdfPut c key (kdfLook c key 0 + w)) = cnt k c + (if key / 128 = (k : Int) then w else 0)
  | [], _ => by simp [kdfPut, kdfLook, cnt]
  | p :: c, hn => by
    rw [List.map_cons, List.nodup_cons] at hn
    by_cases h : p.1 = key
    · subst h
      rw [look_cons, if_pos rfl, put_head p c _ hn.1, cnt_cons, cnt_cons]
      split <;> omega
    · rw [put_cons p c key _ h, look_cons, if_neg h, cnt_cons, cnt_cons, cnt_put k key w hn.2]
      omega
theorem keys_put (key v : Int) : ∀ (c : List (Int × Int)), (kdfPut c key v).map (·.1) = if key ∈ c.map (·.1) then c.map (·.1) else c.map (·.1) ++ [key] := by
  intro c
  unfold kdfPut
  by_cases h : (c.any fun p => decide (p.1 = key)) = true
  · rw [if_pos h, if_pos]
    · rw [List.map_map]
      refine List.map_congr_left fun p _ => ?_
      show (if decide (p.1 = key) = true then (p.1, v) else p).1 = p.1
      split <;> rfl
    · obtain ⟨p, hp, e⟩ := List.any_eq_true.mp h
      rw [← of_decide_eq_true e]
      exact List.mem_map_of_mem hp
  · rw [if_neg h, if_neg]
    · simp
    · intro hm
      obtain ⟨p, hp, e⟩ := List.mem_map.mp hm
      exact h (List.any_eq_true.mpr ⟨p, hp, decide_eq_true e⟩)
theorem nodup_put {key v : Int} {c : List (Int × Int)} (h : (c.map (·.1)).Nodup) : ((kdfPut c key v).map (·.1)).Nodup := by
  rw [keys_put]
  split
  · exact h
  · rename_i hm
    rw [List.nodup_append]
    refine ⟨h, by simp, fun a ha b hb e => hm ?_⟩
    rw [List.mem_singleton.mp hb] at e
    exact e ▸ ha
theorem put_keys {key v : Int} {c : List (Int × Int)} {z : Int} (h : z ∈ (kdfPut c key v).map (·.1)) : z = key ∨ z ∈ c.map (·.1) := by
  rw [keys_put] at h
  split at h
  · exact .inr h
  · rcases List.mem_append.mp h with h | h
    · exact .inr h
    · exact .inl (List.mem_singleton.mp h)
theorem has_of_mem {c : List (Int × Int)} {k : Int} (h : k ∈ c.map (·.1)) : kdfHas c k = true := by
  obtain ⟨p, hp, e⟩ := List.mem_map.mp h
  exact List.any_eq_true.mpr ⟨p, hp, decide_eq_true e⟩
theorem look_sum (f : Int → Int → Int) : ∀ {c : List (Int × Int)}, (c.map (·.1)).Nodup → ((c.map (·.1)).map fun k => f k (kdfLook c k 0)) = c.map fun p => f p.1 p.2
  | [], _ => rfl
  | p :: c, hn => by
    rw [List.map_cons, List.nodup_cons] at hn
    have ih := look_sum f hn.2
    rw [List.map_cons, List.map_cons, List.map_cons, look_cons, if_pos rfl, ← ih]
    congr 1
    refine List.map_congr_left fun k hk => ?_
    have : ¬ p.1 = k := fun e => hn.1 (e ▸ hk)
    rw [look_cons, if_neg this]
theorem ones_tab : ∀ m : Fin 128, ∀ t : Fin 8, m.val < 2 ^ t.val → ones m ≤ t.val ∧ freeTo m t = t.val - ones m ∧ ∀ j : Fin 7, j.val < t.val → m.val.testBit j = false → m.val + 2 ^ j.val < 2 ^ t.val ∧ ones (m.val + 2 ^ j.val) = ones m + 1 := by decide +kernel
theorem cell_tab : ∀ t : Fin 8, (2 ^ t.val - 1 < 128) ∧ (wordsN (2 ^ t.val - 1)).length = t.val ∧ ∀ j : Fin 7, j.val < t.val → (wordsN (2 ^ t.val - 1)).getD j Str.empty = nameAt j := by decide +kernel
theorem in_tab : ∀ m : Fin 128, ∀ j : Fin 7, (wordsN m).any (· == nameAt j) = m.val.testBit j := by decide +kernel
theorem key_parts {t r : Nat} {key : Int} (h : Key t r key) (ht : t ≤ 7) : ∃ m : Nat, key = 128 * (r : Int) + (m : Int) ∧ m < 128 ∧ m < 2 ^ t ∧ ones m = r ∧ key / 128 = (r : Int) ∧ key.fmod 128 = (m : Int) ∧ 0 ≤ key := by
  obtain ⟨m, e, hm, ho⟩ := h
  have h7 : 2 ^ t ≤ 2 ^ 7 := Nat.pow_le_pow_right (by decide) ht
  have hm' : m < 128 := by omega
  refine ⟨m, e, hm', hm, ho, by omega, ?_, by omega⟩
  rw [Int.fmod_eq_emod_of_nonneg _ (by decide)]
  omega
theorem key_mono {t t' r : Nat} {key : Int} (h : Key t r key) (ht : t ≤ t') : Key t' r key := by
  obtain ⟨m, e, hm, ho⟩ := h
  exact ⟨m, e, Nat.lt_of_lt_of_le hm (Nat.pow_le_pow_right (by decide) ht), ho⟩
end
local macro_rules | `(tactic| walk_at "idle28") => `(tactic| skip)
section
theorem wipeC8 : True := by k_with_none; w_top off; trivial
local macro_rules | `(tactic| walk_at "setItem ref int") => `(tactic| (refine Blk.out ?_))
local macro_rules | `(tactic| walk_at "exec For Name Name cons nil") => `(tactic| (refine Blk.out ?_))
theorem words_spec' (w : World) (v : Int) (n : Nat) (tn : Tok) (hv : v = (n : Int)) (hn : n < 128) : Spec w 147 2 [.int v tn] [] (fun v led' => ∃ l vs c, v = .ref l ∧ led' = [(l, listOf vs.toArray c)] ∧ StrsAre vs (wordsN n)) := by
  subst hv
  exact words_spec w n tn hn
theorem last_small {ns : List Int} (hb : ∀ n ∈ ns, 0 ≤ n ∧ n ≤ 7) : (ns.getLastD 0).toNat ≤ 7 := by
  cases q : ns.getLast? with
  | none => rw [List.getLastD_eq_getLast?, q]; decide
  | some z =>
    rw [List.getLastD_eq_getLast?, q]
    have := hb z (List.mem_of_getLast? q)
    show z.toNat ≤ 7
    omega
def cntK (c : List (Int × Int)) (keys : List Int) : List Int := (List.range 5).map fun (j : Nat) => (keys.map fun key => if key / 128 = (j : Int) then kdfLook c key 0 else 0).sum
theorem cntK_turn {c : List (Int × Int)} {keys nc : List Int} {key : Int} {r : Nat} (e : nc = cntK c keys) (hr : r < 5) (h : key.fdiv 128 = (r : Int)) : nc.set (key.fdiv 128).toNat (nc.getD (key.fdiv 128).toNat 0 + kdfLook c key 0) = cntK c (keys ++ [key]) := by
  subst e
  rw [h, Int.toNat_natCast]
  have h' : key / 128 = (r : Int) := by rw [← h, Int.fdiv_eq_ediv_of_nonneg _ (by decide)]
  unfold cntK
  refine List.ext_getElem (by simp) fun j h1 h2 => ?_
  rw [List.getElem_set]
  by_cases hj : r = j
  · subst hj
    simp [h', hr]
  · have hj' : ¬ (r : Int) = (j : Int) := by omega
    simp [h', hj, hj']
theorem hcnt_end {c : List (Int × Int)} {vc : List Value} {nc : List Int} {f : Nat → Int} (hi : IntsAre vc nc) (e : nc = cntK c (c.map (·.1))) (h1 : (c.map (·.1)).Nodup) (h3 : ∀ k, cnt k c = f k) : IntsAre vc ((List.range 5).map f) := by
  have : nc = (List.range 5).map f := by
    rw [e]
    unfold cntK
    refine List.map_congr_left fun j _ => ?_
    rw [look_sum (fun key v => if key / 128 = (j : Int) then v else 0) h1]
    exact h3 j
  exact this ▸ hi
theorem newsSub {g h : Heap} {L : Addr} {a b : List (Addr × Obj)} (N : News g L h a) (hs : ∀ p ∈ b, p ∈ a) : News g L h b := fun p hp => N p (hs p hp)
theorem neN' {a b : Nat} (h : a < b) : b ≠ a := Nat.ne_of_gt h
theorem pow_cast (n : Nat) : (2 : Int) ^ n - 1 = ((2 ^ n - 1 : Nat) : Int) := by
  have := Nat.one_le_two_pow (n := n)
  rw [Int.natCast_sub this]
  simp
theorem last_le {ns pre post : List Int} {n : Int} (h : ns.Pairwise (· ≤ ·)) (e : ns = pre ++ n :: post) (hn : 0 ≤ n) : (pre.getLastD 0).toNat ≤ n.toNat := by
  cases q : pre.getLast? with
  | none =>
    have : pre = [] := by simpa using q
    subst this
    simp
  | some z =>
    have hz : pre.getLastD 0 = z := by rw [List.getLastD_eq_getLast?, q]; rfl
    rw [hz]
    have hm : z ∈ pre := List.mem_of_getLast? q
    rw [e] at h
    have := (List.pairwise_append.mp h).2.2 z hm n (List.Mem.head _)
    omega
theorem freeTo_le (m : Nat) : ∀ j, freeTo m j ≤ j
  | 0 => Nat.le_refl _
  | j + 1 => by
    have := freeTo_le m j
    unfold freeTo
    split <;> omega
abbrev EW := Obj × List (Int × Value) × List (Int × Int)
def EFacts (w : World) (e : EW) : Prop := e.1.IsDictOf (PySem.intKind PySem.Challenge.rw_us0009_01.row.prog w) e.2.1 ∧ PyProof.V.FlatPairs PyData.int e.2.1 (kdfD e.2.2)
def PState (q n : Int) (R : Nat) (c : List (Int × Int)) (keys : List Int) (e : EW) : Prop := (e.2.2.map (·.1)).Nodup ∧ (∀ key ∈ e.2.2.map (·.1), ∃ r, r ≤ R + 1 ∧ Key n.toNat r key) ∧ (∀ k, cnt k e.2.2 = (keys.map fun key => contrib q n k key (kdfLook c key 0)).sum) ∧ e.2.2.length ≤ 8 * keys.length
theorem pstate0 (q n : Int) (R : Nat) (c : List (Int × Int)) (o : Obj) (kvs : List (Int × Value)) : PState q n R c [] (o, kvs, []) := ⟨by simp, by simp, by simp [cnt], by simp⟩
def PCol (q n v : Int) (R r m : Nat) (c0 : List (Int × Int)) (j : Nat) (e : EW) (f : Int) : Prop := (e.2.2.map (·.1)).Nodup ∧ (∀ key ∈ e.2.2.map (·.1), ∃ r, r ≤ R + 1 ∧ Key n.toNat r key) ∧ (∀ k, cnt k e.2.2 = cnt k c0 + if k = r + 1 then v * meantN q (freeTo m j) else 0) ∧ e.2.2.length ≤ c0.length + j ∧ f = (freeTo m j : Int)
theorem pcol0 {q n v : Int} {R r m : Nat} {c : List (Int × Int)} {keys : List Int} {e : EW} (h : PState q n R c keys e) : PCol q n v R r m e.2.2 0 e 0 :=
  ⟨h.1, h.2.1, fun k => by simp [freeTo, meantN], by omega, rfl⟩
theorem pcol_off {q n v f : Int} {R r m J : Nat} {c0 : List (Int × Int)} {e : EW} (hb : m.testBit J = true) (h : PCol q n v R r m c0 J e f) : PCol q n v R r m c0 (J + 1) e f := by
  obtain ⟨h1, h2, h3, h4, h5⟩ := h
  have e1 : freeTo m (J + 1) = freeTo m J := by show (if m.testBit J = true then _ else _) = _; rw [if_pos hb]
  exact ⟨h1, h2, fun k => by rw [e1]; exact h3 k, by omega, by rw [e1]; exact h5⟩
theorem pcol_on {q n v f key : Int} {R r m J : Nat} {c0 : List (Int × Int)} {e : EW} {o' : Obj} {kvs' : List (Int × Value)} (hb : m.testBit J = false) (h : PCol q n v R r m c0 J e f) (hk : key = 128 * (r : Int) + (m : Int)) (hr : r ≤ R) (hn : n.toNat ≤ 7) (hm : m + 2 ^ J < 2 ^ n.toNat) (ho : ones m = r) (ho2 : ones (m + 2 ^ J) = ones m + 1) :
    PCol q n v R r m c0 (J + 1) (o', kvs', kdfPut e.2.2 (key + 128 + 2 ^ J) (kdfLook e.2.2 (key + 128 + 2 ^ J) 0 + v * q ^ f.toNat)) (f + 1) := by
  obtain ⟨h1, h2, h3, h4, h5⟩ := h
  have e1 : freeTo m (J + 1) = freeTo m J + 1 := by show (if m.testBit J = true then _ else _) = _; rw [if_neg (by rw [hb]; decide)]
  have hput : key + 128 + 2 ^ J = 128 * ((r + 1 : Nat) : Int) + ((m + 2 ^ J : Nat) : Int) := by
    have : ((2 ^ J : Nat) : Int) = (2 : Int) ^ J := by simp
    omega
  have h7 : 2 ^ n.toNat ≤ 2 ^ 7 := Nat.pow_le_pow_right (by decide) hn
  have hdiv : (key + 128 + 2 ^ J) / 128 = ((r + 1 : Nat) : Int) := by
    rw [hput]
    generalize m + 2 ^ J = M at hm
    omega
  refine ⟨nodup_put h1, fun z hz => ?_, fun k => ?_, ?_, by rw [e1, h5]; omega⟩
  · rcases put_keys hz with rfl | hz
    · exact ⟨r + 1, by omega, m + 2 ^ J, hput, hm, by omega⟩
    · exact h2 z hz
  · show cnt k (kdfPut e.2.2 _ _) = _
    rw [cnt_put k _ _ h1, h3 k, hdiv, e1, meantN_pow, h5, Int.toNat_natCast]
    by_cases hk' : k = r + 1
    · subst hk'
      rw [if_pos rfl, if_pos rfl, if_pos rfl, Int.mul_add]
      omega
    · have : ¬ ((r + 1 : Nat) : Int) = (k : Int) := by omega
      rw [if_neg hk', if_neg hk', if_neg this]
      omega
  · have := kdfPut_len e.2.2 (key + 128 + 2 ^ J) (kdfLook e.2.2 (key + 128 + 2 ^ J) 0 + v * q ^ f.toNat)
    show (kdfPut e.2.2 _ _).length ≤ _
    omega
theorem pstate_step {q n v f key : Int} {R r m : Nat} {c : List (Int × Int)} {keys : List Int} {e3 e7 : EW} {o' : Obj} {kvs' : List (Int × Value)} (h : PState q n R c keys e3) (h7 : PCol q n v R r m e3.2.2 n.toNat e7 f) (hv : v = kdfLook c key 0) (hn : n.toNat ≤ 7) (hr : r ≤ R) (hkey : Key n.toNat r key) (hrow : key / 128 = (r : Int)) (hfree : freeTo m n.toNat = n.toNat - r) :
    PState q n R c (keys ++ [key]) (o', kvs', kdfPut e7.2.2 key (kdfLook e7.2.2 key 0 + v * q ^ f.toNat)) := by
  obtain ⟨a1, a2, a3, a4⟩ := h
  obtain ⟨b1, b2, b3, b4, b5⟩ := h7
  refine ⟨nodup_put b1, fun z hz => ?_, fun k => ?_, ?_⟩
  · rcases put_keys hz with rfl | hz
    · exact ⟨r, by omega, hkey⟩
    · exact b2 z hz
  · show cnt k (kdfPut e7.2.2 _ _) = _
    rw [cnt_put k _ _ b1, b3 k, a3 k, List.map_append, List.sum_append, hrow, b5, Int.toNat_natCast, hfree]
    show _ = _ + (contrib q n k key (kdfLook c key 0) + 0)
    rw [← hv]
    unfold contrib
    rw [hrow]
    cases k with
    | zero =>
      have e1 : ¬ (0 = r + 1) := by omega
      rw [if_neg e1]
      by_cases e2 : (r : Int) = ((0 : Nat) : Int)
      · rw [if_pos e2, if_pos e2]
        have : r = 0 := by omega
        subst this
        simp
      · rw [if_neg e2, if_neg e2]
        simp
    | succ k' =>
      dsimp only
      by_cases e1 : (r : Int) = (k' : Int)
      · have : r = k' := by omega
        subst this
        rw [if_pos rfl, if_neg (by omega), if_neg (by omega), if_pos rfl]
        omega
      · rw [if_neg (by omega : ¬ k' + 1 = r + 1), if_neg e1]
        by_cases e2 : (r : Int) = ((k' + 1 : Nat) : Int)
        · have : r = k' + 1 := by omega
          subst this
          rw [if_pos rfl]
          omega
        · rw [if_neg e2]
          omega
  · have := kdfPut_len e7.2.2 key (kdfLook e7.2.2 key 0 + v * q ^ f.toNat)
    rw [List.length_append, List.length_singleton]
    show (kdfPut e7.2.2 _ _).length ≤ _
    omega
theorem qpow_small {q : Int} (hq : 1 ≤ q ∧ q ≤ 3) {f : Nat} (hf : f ≤ 7) : 0 < q ^ f ∧ q ^ f < 10000 := by
  have h : ∀ f : Fin 8, (0 < (1 : Int) ^ f.val ∧ (1 : Int) ^ f.val < 10000) ∧ (0 < (2 : Int) ^ f.val ∧ (2 : Int) ^ f.val < 10000) ∧ (0 < (3 : Int) ^ f.val ∧ (3 : Int) ^ f.val < 10000) := by decide
  have h' := h ⟨f, by omega⟩
  rcases (by omega : q = 1 ∨ q = 2 ∨ q = 3) with rfl | rfl | rfl
  · exact h'.1
  · exact h'.2.1
  · exact h'.2.2
theorem PState.col {q n : Int} {R : Nat} {c : List (Int × Int)} {keys : List Int} {e : EW} (h : PState q n R c keys e) : e.2.2.length ≤ 8 * keys.length := h.2.2.2
abbrev DW := Addr × Obj × List (Int × Value) × List (Int × Int)
def DFacts (w : World) (c : DW) : Prop := (c.1 == sysModules) = false ∧ c.2.1.IsDictOf (PySem.intKind PySem.Challenge.rw_us0009_01.row.prog w) c.2.2.1 ∧ PyProof.V.FlatPairs PyData.int c.2.2.1 (kdfD c.2.2.2)
def PRow (q : Int) (pre : List Int) (c : DW) : Prop := (c.2.2.2.map (·.1)).Nodup ∧ (∀ key ∈ c.2.2.2.map (·.1), ∃ r, r ≤ pre.length ∧ Key (pre.getLastD 0).toNat r key) ∧ (∀ k, cnt k c.2.2.2 = rookF q pre k) ∧ c.2.2.2.length ≤ 8 ^ pre.length
theorem prow_step {q n : Int} {pre : List Int} {c : DW} {e : EW} {d2 : Addr} (h : PRow q pre c) (hs : PState q n pre.length c.2.2.2 (c.2.2.2.map (·.1)) e) : PRow q (pre ++ [n]) (d2, e.1, e.2.1, e.2.2) := by
  obtain ⟨a1, a2, a3, a4⟩ := h
  obtain ⟨b1, b2, b3, b4⟩ := hs
  refine ⟨b1, ?_, fun k => ?_, ?_⟩
  · rw [List.length_append, List.length_singleton]
    have : (pre ++ [n]).getLastD 0 = n := by simp
    rw [this]
    exact b2
  · show cnt k e.2.2 = _
    rw [b3 k, look_sum (contrib q n k) a1, contrib_sum]
    unfold rookF
    rw [List.foldl_append]
    show rstep q (fun k => cnt k c.2.2.2) n k = rstep q (rookF q pre) n k
    rw [funext a3]
  · rw [List.length_append, List.length_singleton, Nat.pow_succ]
    rw [List.length_map] at b4
    show e.2.2.length ≤ _
    omega
theorem prow0 (q : Int) (a : Addr) (o : Obj) (kvs : List (Int × Value)) : PRow q [] (a, o, kvs, [(0, 1)]) := by
  refine ⟨by simp, ?_, ?_, by simp⟩
  · intro key hk
    simp at hk
    subst hk
    exact ⟨0, Nat.le_refl _, 0, by simp, by simp, by decide⟩
  · intro k
    show cnt k [(0, 1)] = R0 k
    unfold R0 cnt
    by_cases h : k = 0
    · simp [h]
    · have : ¬ (0 : Int) = (k : Int) := by omega
      simp [h, this]
set_option maxHeartbeats 8000000 in

theorem rooks_spec (w : World) (l : Addr) (vs : List Value) (ns : List Int) (cc : Nat) (q : Int) (tq : Tok) (hi : IntsAre vs ns) (hlen : ns.length = 4) (hns : ns.Pairwise (· ≤ ·)) (hb : ∀ n ∈ ns, 0 ≤ n ∧ n ≤ 7) (hq : 1 ≤ q ∧ q ≤ 3) :
    Spec w 154 3 [.ref l, .int q tq] [(l, listOf vs.toArray cc)] (fun v led' => ∃ l2 vs2 c2, v = .ref l2 ∧ led' = [(l2, listOf vs2.toArray c2), (l, listOf vs.toArray cc)] ∧ IntsAre vs2 ((List.range 5).map (rookF q ns)) ∧ l2 ≠ l) := by
  unfold Spec
  k_fill
  intro mean mg mb dp un gd cn cs a ccd cl outer A₀ base h₀ L m s Q E B F X N T hk hd hu hret
  refine wpAny_call ?_
  cell_end [(Str.ofString "board", .ref l), (Str.ofString "q", .int q tq)] rfl rfl
  k_steps
  refine Blk.mk ?_
  (rename Fr _ _ _ _ => lF')
  (with_unfolding_all refine' For_invVF lF' ?k1 ?k2 ?_)
  (case k1 => exact rfl)
  (case k2 => exact rfl)
  k_steps
  refine Blk.mk ?_
  rename_i hh0 o1 lo1 hd1 hf1 ap1 l1 h2 N2
  simp only [intKeyPairs, intData, datumOf, Option.getD_some] at hf1 hd1
  k_dflt (refine' grow_list (σ := DW) (nn := cc) (vs := vs) (ns := ns) (fun c => [(c.1, c.2.1), (l, listOf vs.toArray cc)]) (fun c => [(Str.ofString "ways", .ref c.1)]) (fun c => DFacts w c ∧ c.1 ≠ l) [Str.ofString "cells", Str.ofString "later", Str.ofString "state", Str.ofString "taken", Str.ofString "free", Str.ofString "column", Str.ofString "put"] (PRow q) (_, o1, [(0, Value.int 1 (tk + 1))], [(0, 1)]) ?ra1 ?ra2 hi lF' N2 ?ra3 ?ra4 ?ra5 ?ra6 ?ra7)
  (case ra1 => exact rfl)
  (case ra2 => exact fun c => List.Mem.tail _ (List.Mem.head _))
  (case ra3 => exact ⟨⟨lo1, hd1, hf1⟩, fun e => ap1 _ (List.Mem.head _) e.symm⟩)
  (case ra4 => exact List.forall_mem_cons.mpr ⟨rfl, List.forall_mem_nil _⟩)
  (case ra5 => exact prow0 _ _ _ _)
  (case ra6 =>
    rintro ⟨d, o, kvs, c⟩ pre post n t u h tk I io hpre hoff ⟨⟨lo, hd0, hf0⟩, hdl⟩ ⟨hp1, hp2, hp3, hp4⟩ F3 N3
    dsimp only [kstB, List.cons_append, List.nil_append] at lo hd0 hf0 hdl hp1 hp2 hp3 hp4 F3 N3 hoff
    simp only [List.forall_mem_cons] at hoff
    obtain ⟨ap1, ap2, -⟩ := hoff
    have hn := hb n (by rw [hpre]; exact List.mem_append_right _ (List.Mem.head _))
    have hcl : c.length ≤ 4096 := by
      have h1 := congrArg List.length hpre
      rw [List.length_append, List.length_cons] at h1
      have h2 : 8 ^ pre.length ≤ 8 ^ 4 := Nat.pow_le_pow_right (by decide) (by omega)
      omega
    have ht := (cell_tab ⟨n.toNat, by omega⟩)
    dsimp only at ht
    k_steps
    cell_ask (words_spec' w (2 ^ n.toNat - 1) (2 ^ n.toNat - 1) _ ?hv ht.1)
    (case hv => exact pow_cast _)
    intro v9 led9 h9 tk9 O9 A9 F9 N9
    obtain ⟨lw, vw, cw, rfl, rfl, SW⟩ := O9
    simp only [List.forall_mem_cons, List.forall_mem_nil, and_true] at A9
    obtain ⟨⟨aw1, aw2, aw3, -⟩, -⟩ := A9
    dsimp only [List.cons_append, List.nil_append] at N9
    dsimp only
    k_steps
    refine Blk.mk ?_
    (rename Fr _ _ _ _ => lF')
    (with_unfolding_all refine' For_invVF lF' ?k1 ?k2 ?_)
    (case k1 => exact rfl)
    (case k2 => exact rfl)
    k_steps
    refine Blk.mk ?_
    rename_i d2 hA o2 lo2 hs2 fs2 hi2 fi2 l2 hB N4
    k_dflt (refine' grow_dict (σ := EW) (o := o) (cs := c) (fun e => [(d2, e.1), (lw, listOf vw.toArray cw), (d, o), (l, listOf vs.toArray cc), (I, io)]) (fun e => []) (EFacts w) [Str.ofString "taken", Str.ofString "free", Str.ofString "column", Str.ofString "put"] (PState q n pre.length c) (o2, [], []) ?sa1 lo ?sa2 hd0 hf0 lF' N4 ?sa3 ?sa4 ?sa5 ?sa6 ?sa7)
    (case sa1 => exact rfl)
    (case sa2 => exact fun c => List.Mem.tail _ (List.Mem.tail _ (List.Mem.head _)))
    (case sa3 => exact ⟨hi2, fi2⟩)
    (case sa4 => exact List.forall_mem_nil _)
    (case sa5 => exact pstate0 _ _ _ _ _ _)
    (case sa6 =>
      rintro ⟨o3, kvs3, c3⟩ pre2 post2 k t2 u2 h3 tk3 I2 io2 hpre2 hoff2 ⟨hd3, hf3⟩ hP3 F5 N5
      dsimp only [kstB, List.cons_append, List.nil_append] at hd3 hf3 F5 N5 hoff2
      simp only [List.forall_mem_cons] at hoff2
      obtain ⟨ao1, ao2, ao3, ao4, ao5, -⟩ := hoff2
      obtain ⟨r, hr, hkey⟩ := hp2 k (by rw [hpre2]; exact List.mem_append_right _ (List.Mem.head _))
      have hkhas : kdfHas c k = true := has_of_mem (by rw [hpre2]; exact List.mem_append_right _ (List.Mem.head _))
      have hp2l : pre2.length ≤ c.length := by have := congrArg List.length hpre2; rw [List.length_map, List.length_append] at this; omega
      have hlast : (pre.getLastD 0).toNat ≤ n.toNat := last_le hns hpre hn.1
      obtain ⟨mk, hk1, hm7, hmt, hones, hrow, hmod, hk0⟩ := key_parts (key_mono hkey hlast) (by omega)
      have hOT := ones_tab ⟨mk, hm7⟩ ⟨n.toNat, by omega⟩ hmt
      dsimp only at hOT
      k_steps
      cell_ask (words_spec' w (k.fmod 128) mk _ hmod hm7)
      intro v9 led9 h9 tk9 O9 A9 F9 N9
      obtain ⟨lt, vt, ct, rfl, rfl, ST⟩ := O9
      simp only [List.forall_mem_cons, List.forall_mem_nil, and_true] at A9
      obtain ⟨⟨at1, at2, at3, at4, at5, at6, -⟩, -⟩ := A9
      dsimp only [List.cons_append, List.nil_append] at N9
      dsimp only
      k_steps
      refine Blk.mk ?_
      rename IsRange _ _ _ _ _ _ _ _ => rgX
      rename Fr _ _ _ _ => lF'
      rename News _ _ _ _ => lN'
      k_dflt (refine' kst_range (σ := EW × Int × Tok) (n := n.toNat) (fun e => [(lt, listOf vt.toArray ct), (d2, e.1.1), (lw, listOf vw.toArray cw), (d, o), (l, listOf vs.toArray cc), (I, io), (I2, io2)]) (fun e => [(Str.ofString "free", .int e.2.1 e.2.2)]) (fun e => EFacts w e.1) [Str.ofString "put"] (fun pj e => PCol q n (kdfLook c k 0) pre.length r mk c3 pj.length e.1 e.2.1) ((o3, kvs3, c3), 0, tk) ?ca1 rgX ?ca2 ?ca3 lF' lN' ?ca4 ?ca5 ?ca6 ?ca7 ?ca8)
      (case ca1 => exact rfl)
      (case ca2 => exact small_one (by omega) (by omega) (by omega) (by omega))
      (case ca3 => exact (by rw [rangeSize_nat]; omega))
      (case ca4 => exact ⟨hd3, hf3⟩)
      (case ca5 => exact List.forall_mem_cons.mpr ⟨rfl, List.forall_mem_nil _⟩)
      (case ca6 => exact pcol0 hP3)
      (case ca7 =>
        rintro ⟨⟨o5, kvs5, c5⟩, f5, tf5⟩ pre3 j t3 u3 h5 tk5 own3 hj hj2 hoff3 ⟨hd5, hf5⟩ ⟨hq1, hq2, hq3, hq4, hq5⟩ F7 N7
        dsimp only [kstB, List.cons_append, List.nil_append, List.map_cons, List.map_nil] at hd5 hf5 hq1 hq2 hq3 hq4 hq5 F7 N7 hoff3
        have hf5b : 0 ≤ f5 ∧ f5 ≤ 7 := by have := freeTo_le mk pre3.length; omega
        have hjn : j.toNat = pre3.length := by omega
        have hqp := qpow_small hq (f := f5.toNat) (by omega)
        have hany : ((wordsN mk).any fun x => x == (wordsN (2 ^ n.toNat - 1)).getD j.toNat Str.empty) = mk.testBit pre3.length := by
          rw [hjn, ht.2.2 ⟨pre3.length, by omega⟩ hj2]
          exact in_tab ⟨mk, hm7⟩ ⟨pre3.length, by omega⟩
        have hlenj : (pre3 ++ [j]).length = pre3.length + 1 := by rw [List.length_append, List.length_singleton]
        have hP5 : PCol q n (kdfLook c k 0) pre.length r mk c3 pre3.length (o5, kvs5, c5) f5 := ⟨hq1, hq2, hq3, hq4, hq5⟩
        have hc5 : c5.length ≤ 16777216 := by have := hP3.2.2.2; dsimp only at this; omega
        have SA : ((wordsN mk).any fun x => x == (wordsN (2 ^ n.toNat - 1)).getD j.toNat Str.empty) = true → PCol q n (kdfLook c k 0) pre.length r mk c3 (pre3 ++ [j]).length (o5, kvs5, c5) f5 := by
          intro h
          rw [hlenj]
          exact pcol_off (hany.symm.trans h) hP5
        have SB : ((wordsN mk).any fun x => x == (wordsN (2 ^ n.toNat - 1)).getD j.toNat Str.empty) = false → ∀ o' kvs', PCol q n (kdfLook c k 0) pre.length r mk c3 (pre3 ++ [j]).length (o', kvs', kdfPut c5 (k + 128 + 2 ^ j.toNat) (kdfLook c5 (k + 128 + 2 ^ j.toNat) 0 + kdfLook c k 0 * q ^ f5.toNat)) (f5 + 1) := by
          intro h o' kvs'
          rw [hlenj, hjn]
          have hb := hany.symm.trans h
          have hOJ := hOT.2.2 ⟨pre3.length, by omega⟩ hj2 hb
          exact pcol_on (e := (o5, kvs5, c5)) hb hP5 hk1 hr (by omega) hOJ.1 hones hOJ.2
        (k_with "state" => first | exact SA (by assumption) | exact SB (by assumption) _ _)
        k_steps
        · exact kst_end ((o5, kvs5, c5), f5, tf5) (by assumption) (by assumption) (by k_allIn) (by intro p hp; k_ownIn) rfl ⟨hd5, hf5⟩ (List.forall_mem_cons.mpr ⟨rfl, List.forall_mem_nil _⟩) (by kst_same) (SA (by assumption))
        · refine Blk.mk ?_
          k_dflt (refine' kdf_setItem (c := c5) ?F ?N ?U hd5 hf5 hc5 ?_)
          (case F => k_asm)
          (case N => k_asm)
          (case U => k_updF)
          intro h6 o6 kvs6 F6 N6 hd6 hf6
          k_steps
          exact kst_end ((o6, kvs6, _), f5 + 1, _) (by assumption) (by assumption) (by k_allIn) (by intro p hp; k_ownIn) rfl ⟨hd6, hf6⟩ (List.forall_mem_cons.mpr ⟨rfl, List.forall_mem_nil _⟩) (by kst_same) (SB (by assumption) _ _))
      (case ca8 =>
        rintro ⟨⟨o7, kvs7, c7⟩, f7, tf7⟩ u7 h7 tk7 ⟨hd7, hf7⟩ hP7 F8 N8
        rw [rangeKs_length] at hP7
        dsimp only [kstB, List.cons_append, List.nil_append] at hd7 hf7 hP7 F8 N8
        have hfree : freeTo mk n.toNat = n.toNat - r := by rw [hOT.2.1, hones]
        have hf7e : f7 = ((n.toNat - r : Nat) : Int) := by rw [← hfree]; exact hP7.2.2.2.2
        have hqp7 := qpow_small hq (f := f7.toNat) (by omega)
        have hc7 : c7.length ≤ 16777216 := by have h1 := hP3.2.2.2; have h2 := hP7.2.2.2.1; dsimp only at h1 h2; omega
        k_steps
        refine Blk.mk ?_
        k_dflt (refine' kdf_setItem (c := c7) ?F ?N ?U hd7 hf7 hc7 ?_)
        (case F => k_asm)
        (case N => k_asm)
        (case U => k_updF)
        intro h10 o10 kvs10 F10 N10 hd10 hf10
        k_steps
        exact GrowEnd.intro [(d2, o10), (lw, listOf vw.toArray cw), (d, o), (l, listOf vs.toArray cc), (I, io)] (by assumption) (by assumption) (by k_memK) (by k_allIn) (by k_all) ⟨(o10, kvs10, _), rfl, ⟨hd10, hf10⟩, List.forall_mem_nil _, (by kst_same), pstate_step hP3 hP7 rfl (by omega) hr (key_mono hkey hlast) hrow hfree⟩))
    (case sa7 =>
      rintro ⟨o8, kvs8, c8⟩ u8 h8 tk8 ⟨hd8, hf8⟩ hP8 F9' N9'
      dsimp only [kstB, List.cons_append, List.nil_append] at hd8 hf8 hP8 F9' N9'
      k_steps
      exact GrowEnd.intro [(d2, o8), (l, listOf vs.toArray cc)] (by assumption) (by assumption) (by k_memK) (by k_allIn) (by k_all) ⟨(d2, o8, kvs8, c8), rfl, ⟨⟨lo2, hd8, hf8⟩, neN' l2.2.2.1⟩, List.forall_mem_cons.mpr ⟨rfl, List.forall_mem_nil _⟩, (by kst_same), prow_step (c := (d, o, kvs, c)) (e := (o8, kvs8, c8)) ⟨hp1, hp2, hp3, hp4⟩ hP8⟩))
  (case ra7 =>
    rintro ⟨d, o, kvs, c⟩ u h tk ⟨⟨lo, hd0, hf0⟩, hdl⟩ ⟨hp1, hp2, hp3, hp4⟩ F3 N3
    dsimp only [kstB, List.cons_append, List.nil_append] at lo hd0 hf0 hdl hp1 hp2 hp3 hp4 F3 N3
    k_steps
    refine Blk.mk ?_
    (rename Fr _ _ _ _ => lF')
    (with_unfolding_all refine' For_invVF lF' ?k1 ?k2 ?_)
    (case k1 => exact rfl)
    (case k2 => exact rfl)
    k_steps
    refine Blk.mk ?_
    rename_i lc hA xF xN lc1 hB N5
    k_dflt (refine' grow_dict (σ := List Value × List Int × Nat) (o := o) (cs := c) (fun e => [(lc, listOf e.1.toArray e.2.2), (d, o), (l, listOf vs.toArray cc)]) (fun e => []) (fun e => IntsAre e.1 e.2.1) [] (fun keys e => e.2.1 = cntK c keys) (_, [0, 0, 0, 0, 0], 0) ?ta1 lo ?ta2 hd0 hf0 lF' N5 ?ta3 ?ta4 ?ta5 ?ta6 ?ta7)
    (case ta1 => exact rfl)
    (case ta2 => exact fun c => List.Mem.tail _ (List.Mem.head _))
    (case ta3 => exact IntsAre.cons _ _ (IntsAre.cons _ _ (IntsAre.cons _ _ (IntsAre.cons _ _ (IntsAre.cons _ _ IntsAre.nil)))))
    (case ta4 => exact List.forall_mem_nil _)
    (case ta5 => exact rfl)
    (case ta6 =>
      rintro ⟨vc, nc, c9⟩ pre2 post2 k t2 u2 h3 tk3 I2 io2 hpre2 hoff2 hI3 hP3 F5 N5
      dsimp only [kstB, List.cons_append, List.nil_append] at hI3 hP3 F5 N5 hoff2
      simp only [List.forall_mem_cons] at hoff2
      obtain ⟨ao1, ao2, ao3, -⟩ := hoff2
      obtain ⟨r, hr, hkey⟩ := hp2 k (by rw [hpre2]; exact List.mem_append_right _ (List.Mem.head _))
      have hkhas : kdfHas c k = true := has_of_mem (by rw [hpre2]; exact List.mem_append_right _ (List.Mem.head _))
      obtain ⟨mk, hk1, hm7, hmt, hones, hrow, hmod, hk0⟩ := key_parts hkey (last_small hb)
      have hfd : k.fdiv 128 = (r : Int) := by rw [Int.fdiv_eq_ediv_of_nonneg _ (by decide)]; exact hrow
      have hidx : 0 ≤ k.fdiv 128 ∧ k.fdiv 128 < 5 := by omega
      have hncl : nc.length = 5 := by rw [hP3]; rfl
      k_steps
      refine Blk.mk ?_
      k_dflt (refine' ksa_set (ns := nc) ?kF ?kN ?kU hI3 hidx.1 (by rw [hncl]; exact hidx.2) (by omega) ?_)
      (case kF => k_asm)
      (case kN => k_asm)
      (case kU => k_upd)
      intro h4 F4 N4 hi4 hl4 hs4
      k_steps
      exact GrowEnd.intro [(lc, listOf (vc.set (k.fdiv 128).toNat _).toArray c9), (d, o), (l, listOf vs.toArray cc)] (by assumption) (by assumption) (by k_memK) (by k_allIn) (by k_all) ⟨(_, _, c9), rfl, hi4, List.forall_mem_nil _, (by kst_same), cntK_turn hP3 (by omega) hfd⟩)
    (case ta7 =>
      rintro ⟨vc, nc, c9⟩ u9 h9 tk9 hI9 hP9 F9 N9
      dsimp only [kstB, List.cons_append, List.nil_append] at hI9 hP9 F9 N9
      k_steps
      exact hret _ _ _ _ ⟨lc, vc, c9, rfl, rfl, hcnt_end hI9 hP9 hp1 hp3, Nat.ne_of_gt lc1.2⟩ (by assumption) (newsSub (by assumption) (by k_allIn)) (After.mix (by assumption) (by assumption) N9 (List.forall_mem_cons.mpr ⟨.inr ⟨.head _, List.forall_mem_cons.mpr ⟨Nat.ne_of_lt lc1.2, List.forall_mem_nil _⟩⟩, List.forall_mem_cons.mpr ⟨.inl ⟨_, .head _, rfl⟩, List.forall_mem_nil _⟩⟩))))
end
local macro_rules | `(tactic| walk_at "idle29") => `(tactic| skip)
local macro_rules | `(tactic| walk_at "idle30") => `(tactic| skip)
local macro_rules | `(tactic| walk_at "idle31") => `(tactic| skip)
section
theorem wipePL : True := by k_with_none; w_top off; trivial
set_option maxHeartbeats 8000000

def rooksL (q : Int) (b : List Int) : List Int := (List.range 5).map (rookF q b)
def prodN (q x : Int) (b : List Int) : Int := 1 * meantN q (vAt x b 0).toNat * meantN q (vAt x b 1).toNat * meantN q (vAt x b 2).toNat * meantN q (vAt x b 3).toNat
def sortedB : List Int → Bool
  | [] => true
  | [_] => true
  | a :: b :: r => decide (a ≤ b) && sortedB (b :: r)
def goodB (m : Int) (b : List Int) : Bool := b.length == 4 && sortedB b && b.all fun n => decide (0 ≤ n ∧ n ≤ m)
def cls1 : List (List Int × List Int) := [([-3, -2, -1, 0], [1, 0, 0, 0, 0]), ([-2, -2, -1, 0], [1, 1, 0, 0, 0]), ([-2, -1, -1, 0], [1, 2, 0, 0, 0]), ([-2, -1, 0, 0], [1, 3, 0, 0, 0]), ([-2, -1, 0, 1], [1, 4, 0, 0, 0]), ([-1, -1, -1, 0], [1, 3, 1, 0, 0]), ([-1, -1, 0, 0], [1, 4, 2, 0, 0]), ([-1, -1, 0, 1], [1, 5, 3, 0, 0]), ([-1, 0, 0, 0], [1, 5, 4, 0, 0]), ([-1, 0, 0, 1], [1, 6, 6, 0, 0]), ([-1, 0, 1, 1], [1, 7, 9, 0, 0]), ([-1, 0, 1, 2], [1, 8, 12, 0, 0]), ([0, 0, 0, 0], [1, 6, 7, 1, 0]), ([0, 0, 0, 1], [1, 7, 10, 2, 0]), ([0, 0, 1, 1], [1, 8, 14, 4, 0]), ([0, 0, 1, 2], [1, 9, 18, 6, 0]), ([0, 1, 1, 1], [1, 9, 19, 8, 0]), ([0, 1, 1, 2], [1, 10, 24, 12, 0]), ([0, 1, 2, 2], [1, 11, 30, 18, 0]), ([0, 1, 2, 3], [1, 12, 36, 24, 0]), ([1, 1, 1, 1], [1, 10, 25, 15, 1]), ([1, 1, 1, 2], [1, 11, 31, 22, 2]), ([1, 1, 2, 2], [1, 12, 38, 32, 4]), ([1, 1, 2, 3], [1, 13, 45, 42, 6]), ([1, 2, 2, 2], [1, 13, 46, 46, 8]), ([1, 2, 2, 3], [1, 14, 54, 60, 12]), ([1, 2, 3, 3], [1, 15, 63, 78, 18]), ([1, 2, 3, 4], [1, 16, 72, 96, 24])]
def cls2 : List (List Int × List Int) := [([-3, -2, -1, 0], [1, 0, 0, 0, 0]), ([-2, -2, -1, 0], [2, 1, 0, 0, 0]), ([-2, -1, -1, 0], [4, 3, 0, 0, 0]), ([-2, -1, 0, 0], [8, 7, 0, 0, 0]), ([-2, -1, 0, 1], [16, 15, 0, 0, 0]), ([-1, -1, -1, 0], [8, 8, 1, 0, 0]), ([-1, -1, 0, 0], [16, 18, 3, 0, 0]), ([-1, -1, 0, 1], [32, 38, 7, 0, 0]), ([-1, 0, 0, 0], [32, 40, 9, 0, 0]), ([-1, 0, 0, 1], [64, 84, 21, 0, 0]), ([-1, 0, 1, 1], [128, 176, 49, 0, 0]), ([-1, 0, 1, 2], [256, 360, 105, 0, 0]), ([0, 0, 0, 0], [64, 88, 26, 1, 0]), ([0, 0, 0, 1], [128, 184, 60, 3, 0]), ([0, 0, 1, 1], [256, 384, 138, 9, 0]), ([0, 0, 1, 2], [512, 784, 294, 21, 0]), ([0, 1, 1, 1], [512, 800, 316, 27, 0]), ([0, 1, 1, 2], [1024, 1632, 672, 63, 0]), ([0, 1, 2, 2], [2048, 3328, 1428, 147, 0]), ([0, 1, 2, 3], [4096, 6720, 2940, 315, 0]), ([1, 1, 1, 1], [1024, 1664, 720, 80, 1]), ([1, 1, 1, 2], [2048, 3392, 1528, 186, 3]), ([1, 1, 2, 2], [4096, 6912, 3240, 432, 9]), ([1, 1, 2, 3], [8192, 13952, 6664, 924, 21]), ([1, 2, 2, 2], [8192, 14080, 6864, 1002, 27]), ([1, 2, 2, 3], [16384, 28416, 14112, 2142, 63]), ([1, 2, 3, 3], [32768, 57344, 29008, 4578, 147]), ([1, 2, 3, 4], [65536, 115200, 58800, 9450, 315])]
def cls3 : List (List Int × List Int) := [([-3, -2, -1, 0], [1, 0, 0, 0, 0]), ([-2, -2, -1, 0], [3, 1, 0, 0, 0]), ([-2, -1, -1, 0], [9, 4, 0, 0, 0]), ([-2, -1, 0, 0], [27, 13, 0, 0, 0]), ([-2, -1, 0, 1], [81, 40, 0, 0, 0]), ([-1, -1, -1, 0], [27, 15, 1, 0, 0]), ([-1, -1, 0, 0], [81, 48, 4, 0, 0]), ([-1, -1, 0, 1], [243, 147, 13, 0, 0]), ([-1, 0, 0, 0], [243, 153, 16, 0, 0]), ([-1, 0, 0, 1], [729, 468, 52, 0, 0]), ([-1, 0, 1, 1], [2187, 1431, 169, 0, 0]), ([-1, 0, 1, 2], [6561, 4320, 520, 0, 0]), ([0, 0, 0, 0], [729, 486, 63, 1, 0]), ([0, 0, 0, 1], [2187, 1485, 204, 4, 0]), ([0, 0, 1, 1], [6561, 4536, 660, 16, 0]), ([0, 0, 1, 2], [19683, 13689, 2028, 52, 0]), ([0, 1, 1, 1], [19683, 13851, 2133, 64, 0]), ([0, 1, 1, 2], [59049, 41796, 6552, 208, 0]), ([0, 1, 2, 2], [177147, 126117, 20124, 676, 0]), ([0, 1, 2, 3], [531441, 379080, 60840, 2080, 0]), ([1, 1, 1, 1], [59049, 42282, 6885, 255, 1]), ([1, 1, 1, 2], [177147, 127575, 21141, 828, 4]), ([1, 1, 2, 2], [531441, 384912, 64908, 2688, 16]), ([1, 1, 2, 3], [1594323, 1156923, 196209, 8268, 52]), ([1, 2, 2, 2], [1594323, 1161297, 199260, 8724, 64]), ([1, 2, 2, 3], [4782969, 3490452, 602316, 26832, 208]), ([1, 2, 3, 3], [14348907, 10491039, 1820637, 82524, 676]), ([1, 2, 3, 4], [43046721, 31492800, 5475600, 249600, 2080])]
def clsN (q : Int) : List (List Int × List Int) := if q = 1 then cls1 else if q = 2 then cls2 else cls3
def chkP (q x : Int) (b : List Int) : Bool := prodN q x b == spreadN (rooksL q b) q x 5
def chkB (q : Int) (b : List Int) : Bool :=
  goodB 4 b && goodB 7 (strictN b) && goodB 4 (conjN b) &&
  (rooksL q (strictN b) == rooksL q b && rooksL q (conjN b) == rooksL q b && lineN 0 (strictN b) == lineN 0 b && lineN 0 (conjN b) == lineN 0 b) &&
  (clsN q).contains (lineN 0 b, rooksL q b)
def chkX (q : Int) (b : List Int) : Bool := chkP q 2 b && chkP q 3 b && chkP q 4 b && chkP q 5 b && chkP q 2 (strictN b) && chkP q 3 (strictN b) && chkP q 4 (strictN b) && chkP q 5 (strictN b)
theorem tab_chkB_1 : ∀ a b c d : Fin 5, a.val ≤ b.val → b.val ≤ c.val → c.val ≤ d.val → chkB 1 [(a.val : Int), (b.val : Int), (c.val : Int), (d.val : Int)] = true := by decide +kernel
theorem tab_chkX_1 : ∀ a b c d : Fin 5, a.val ≤ b.val → b.val ≤ c.val → c.val ≤ d.val → chkX 1 [(a.val : Int), (b.val : Int), (c.val : Int), (d.val : Int)] = true := by decide +kernel
theorem pair_1 : ∀ p ∈ cls1, ∀ r ∈ cls1, (p.2 == r.2) = (p.1 == r.1) := by decide +kernel
theorem tab_chkB_2 : ∀ a b c d : Fin 5, a.val ≤ b.val → b.val ≤ c.val → c.val ≤ d.val → chkB 2 [(a.val : Int), (b.val : Int), (c.val : Int), (d.val : Int)] = true := by decide +kernel
theorem tab_chkX_2 : ∀ a b c d : Fin 5, a.val ≤ b.val → b.val ≤ c.val → c.val ≤ d.val → chkX 2 [(a.val : Int), (b.val : Int), (c.val : Int), (d.val : Int)] = true := by decide +kernel
theorem pair_2 : ∀ p ∈ cls2, ∀ r ∈ cls2, (p.2 == r.2) = (p.1 == r.1) := by decide +kernel
theorem tab_chkB_3 : ∀ a b c d : Fin 5, a.val ≤ b.val → b.val ≤ c.val → c.val ≤ d.val → chkB 3 [(a.val : Int), (b.val : Int), (c.val : Int), (d.val : Int)] = true := by decide +kernel
theorem tab_chkX_3 : ∀ a b c d : Fin 5, a.val ≤ b.val → b.val ≤ c.val → c.val ≤ d.val → chkX 3 [(a.val : Int), (b.val : Int), (c.val : Int), (d.val : Int)] = true := by decide +kernel
theorem pair_3 : ∀ p ∈ cls3, ∀ r ∈ cls3, (p.2 == r.2) = (p.1 == r.1) := by decide +kernel

theorem sortedB_pw : ∀ {b : List Int}, sortedB b = true → b.Pairwise (· ≤ ·)
  | [], _ => List.Pairwise.nil
  | [_], _ => List.pairwise_singleton ..
  | a :: b :: r, h => by
    have h : (decide (a ≤ b) && sortedB (b :: r)) = true := h
    rw [Bool.and_eq_true, decide_eq_true_eq] at h
    have ih := sortedB_pw h.2
    refine List.pairwise_cons.mpr ⟨fun z hz => ?_, ih⟩
    rcases List.mem_cons.mp hz with rfl | hz
    · exact h.1
    · exact Int.le_trans h.1 ((List.pairwise_cons.mp ih).1 z hz)
theorem goodB_brd {m : Int} {b : List Int} (h : goodB m b = true) : Brd m b := by
  unfold goodB at h
  rw [Bool.and_eq_true, Bool.and_eq_true, beq_iff_eq, List.all_eq_true] at h
  exact ⟨h.1.1, sortedB_pw h.1.2, fun n hn => by have := h.2 n hn; rwa [decide_eq_true_eq] at this⟩
theorem brd_form {b : List Int} (h : Brd 4 b) : ∃ x y z t : Fin 5, x.val ≤ y.val ∧ y.val ≤ z.val ∧ z.val ≤ t.val ∧ b = [(x.val : Int), (y.val : Int), (z.val : Int), (t.val : Int)] := by
  obtain ⟨h1, h2, h3⟩ := h
  match b, h1, h2, h3 with
  | [x, y, z, t], _, h2, h3 =>
    have hx := h3 x (by simp)
    have hy := h3 y (by simp)
    have hz := h3 z (by simp)
    have ht := h3 t (by simp)
    have q1 := List.pairwise_cons.mp h2
    have q2 := List.pairwise_cons.mp q1.2
    have q3 := List.pairwise_cons.mp q2.2
    have a1 := q1.1 y (by simp)
    have a2 := q2.1 z (by simp)
    have a3 := q3.1 t (by simp)
    refine ⟨⟨x.toNat, by omega⟩, ⟨y.toNat, by omega⟩, ⟨z.toNat, by omega⟩, ⟨t.toNat, by omega⟩, by show x.toNat ≤ y.toNat; omega, by show y.toNat ≤ z.toNat; omega, by show z.toNat ≤ t.toNat; omega, ?_⟩
    show [x, y, z, t] = [((x.toNat : Nat) : Int), ((y.toNat : Nat) : Int), ((z.toNat : Nat) : Int), ((t.toNat : Nat) : Int)]
    rw [Int.toNat_of_nonneg hx.1, Int.toNat_of_nonneg hy.1, Int.toNat_of_nonneg hz.1, Int.toNat_of_nonneg ht.1]
theorem q3 {q : Int} (hq : 1 ≤ q ∧ q ≤ 3) : q = 1 ∨ q = 2 ∨ q = 3 := by omega
theorem brd_chk {q : Int} (hq : 1 ≤ q ∧ q ≤ 3) {b : List Int} (h : Brd 4 b) : chkB q b = true ∧ chkX q b = true := by
  obtain ⟨x, y, z, t, h1, h2, h3, rfl⟩ := brd_form h
  rcases q3 hq with rfl | rfl | rfl
  · exact ⟨tab_chkB_1 x y z t h1 h2 h3, tab_chkX_1 x y z t h1 h2 h3⟩
  · exact ⟨tab_chkB_2 x y z t h1 h2 h3, tab_chkX_2 x y z t h1 h2 h3⟩
  · exact ⟨tab_chkB_3 x y z t h1 h2 h3, tab_chkX_3 x y z t h1 h2 h3⟩
structure Facts (q : Int) (b : List Int) : Prop where
  strict : Brd 7 (strictN b)
  conj : Brd 4 (conjN b)
  rs : rooksL q (strictN b) = rooksL q b
  rc : rooksL q (conjN b) = rooksL q b
  ls : lineN 0 (strictN b) = lineN 0 b
  lc : lineN 0 (conjN b) = lineN 0 b
  cl : (lineN 0 b, rooksL q b) ∈ clsN q
theorem facts {q : Int} (hq : 1 ≤ q ∧ q ≤ 3) {b : List Int} (h : Brd 4 b) : Facts q b := by
  have h := (brd_chk hq h).1
  unfold chkB at h
  simp only [Bool.and_eq_true, beq_iff_eq, List.contains_iff_mem] at h
  obtain ⟨⟨⟨⟨_, h2⟩, h3⟩, ⟨⟨h4, h5⟩, h6⟩, h7⟩, h8⟩ := h
  exact ⟨goodB_brd h2, goodB_brd h3, h4, h5, h6, h7, h8⟩
theorem prods {q x : Int} (hq : 1 ≤ q ∧ q ≤ 3) (hx : 2 ≤ x ∧ x ≤ 5) {b : List Int} (h : Brd 4 b) : prodN q x b = spreadN (rooksL q b) q x 5 ∧ prodN q x (strictN b) = spreadN (rooksL q (strictN b)) q x 5 := by
  have h := (brd_chk hq h).2
  unfold chkX at h
  simp only [Bool.and_eq_true] at h
  obtain ⟨⟨⟨⟨⟨⟨⟨h1, h2⟩, h3⟩, h4⟩, h5⟩, h6⟩, h7⟩, h8⟩ := h
  have : x = 2 ∨ x = 3 ∨ x = 4 ∨ x = 5 := by omega
  rcases this with rfl | rfl | rfl | rfl
  · exact ⟨eq_of_beq h1, eq_of_beq h5⟩
  · exact ⟨eq_of_beq h2, eq_of_beq h6⟩
  · exact ⟨eq_of_beq h3, eq_of_beq h7⟩
  · exact ⟨eq_of_beq h4, eq_of_beq h8⟩
theorem insS_shift (v x : Int) : ∀ l : List Int, insS (v + x) (l.map (· + x)) = (insS v l).map (· + x)
  | [] => rfl
  | y :: r => by
    show (if v + x < y + x then (v + x) :: (y + x) :: r.map (· + x) else (y + x) :: insS (v + x) (r.map (· + x))) = (if v < y then v :: y :: r else y :: insS v r).map (· + x)
    by_cases h : v < y
    · rw [if_pos h, if_pos (by omega)]; rfl
    · rw [if_neg h, if_neg (by omega), insS_shift v x r]; rfl
theorem line_shift (x : Int) (b : List Int) : lineN x b = (lineN 0 b).map (· + x) := by
  have e : ∀ i, vAt x b i = vAt 0 b i + x := fun i => by unfold vAt; omega
  unfold lineN
  rw [e 0, e 1, e 2, e 3, ← insS_shift, ← insS_shift, ← insS_shift, ← insS_shift]
  rfl
theorem map_inj {x : Int} : ∀ {a b : List Int}, a.map (· + x) = b.map (· + x) → a = b
  | [], [], _ => rfl
  | [], _ :: _, h => by simp at h
  | _ :: _, [], h => by simp at h
  | a :: l, b :: r, h => by
    rw [List.map_cons, List.map_cons] at h
    have h1 : a + x = b + x := (List.cons.inj h).1
    rw [map_inj (List.cons.inj h).2, show a = b by omega]
theorem pairN {q : Int} (hq : 1 ≤ q ∧ q ≤ 3) : ∀ p ∈ clsN q, ∀ r ∈ clsN q, (p.2 == r.2) = (p.1 == r.1) := by
  rcases q3 hq with rfl | rfl | rfl
  · exact pair_1
  · exact pair_2
  · exact pair_3
theorem plain_pair {q x : Int} (hq : 1 ≤ q ∧ q ≤ 3) {b c : List Int} (hb : (lineN 0 b, rooksL q b) ∈ clsN q) (hc : (lineN 0 c, rooksL q c) ∈ clsN q) : rooksL q b = rooksL q c ↔ lineN x b = lineN x c := by
  have h := pairN hq _ hb _ hc
  dsimp only at h
  have h2 : rooksL q b = rooksL q c ↔ lineN 0 b = lineN 0 c := by rw [← beq_iff_eq, h, beq_iff_eq]
  rw [h2, line_shift x b, line_shift x c]
  exact ⟨fun e => by rw [e], map_inj⟩
/-- what the law asks of two boards -/
structure Two (q x kind : Int) (b c : List Int) : Prop where
  b4 : Brd 7 b
  c7 : Brd 7 c
  pb : prodN q x b = spreadN (rooksL q b) q x 5
  pc : prodN q x c = spreadN (rooksL q c) q x 5
  eq : kind ≠ 0 → rooksL q b = rooksL q c
  iff : rooksL q b = rooksL q c ↔ lineN x b = lineN x c
theorem two {q x : Int} (hq : 1 ≤ q ∧ q ≤ 3) (hx : 2 ≤ x ∧ x ≤ 5) (n m kind : Int) : Two q x kind (boardN n) (partN (boardN n) m kind) := by
  have hb := board_brd n
  have fb := facts hq hb
  have pb := prods hq hx hb
  unfold partN
  split
  · rename_i hk
    have hc := board_brd m
    exact ⟨hb.up, hc.up, pb.1, (prods hq hx hc).1, fun h => absurd hk h, plain_pair hq fb.cl (facts hq hc).cl⟩
  · split
    · exact ⟨hb.up, fb.conj.up, pb.1, (prods hq hx fb.conj).1, fun _ => fb.rc.symm, plain_pair hq fb.cl (by rw [fb.rc, fb.lc]; exact fb.cl)⟩
    · exact ⟨hb.up, fb.strict, pb.1, pb.2, fun _ => fb.rs.symm, plain_pair hq fb.cl (by rw [fb.rs, fb.ls]; exact fb.cl)⟩
end
local macro_rules | `(tactic| walk_at "idle32") => `(tactic| skip)
section
theorem wipeRE : True := by k_with_none; w_top off; trivial
def codeA : Array Nat := #[14, 4, 0, 1, 1, 6, 1, 16, 46, 1]
def codeB : Array Nat := #[14, 9, 4, 1, 2, 16, 10, 16, 13, 0, 7, 7, 16, 13, 16, 10, 15, 18, 5, 16, 10, 15, 13, 11, 16, 13, 5, 5, 0, 16, 10, 1, 15, 2, 0, 1]
theorem runFor_fix (m : Sre.M) (h : m.outcome.isSome = true) : ∀ n, Sre.M.runFor n m = m
  | 0 => rfl
  | n + 1 => by unfold Sre.M.runFor; rw [if_pos h]
theorem runFor_succ (m : Sre.M) (n : Nat) : Sre.M.runFor (n + 1) m = Sre.M.runFor n m.step := by
  show (if m.outcome.isSome then m else Sre.M.runFor n m.step) = _
  by_cases h : m.outcome.isSome = true
  · rw [if_pos h]
    have : m.step = m := by unfold Sre.M.step; rw [if_pos h]
    rw [this, runFor_fix m h]
  · rw [if_neg h]
theorem runFor_add : ∀ (a b : Nat) (m : Sre.M), Sre.M.runFor (a + b) m = Sre.M.runFor b (Sre.M.runFor a m)
  | 0, b, m => by rw [Nat.zero_add]; rfl
  | a + 1, b, m => by rw [Nat.add_right_comm, runFor_succ, runFor_succ, runFor_add a b]
def mA (text : Array Nat) (s : Nat) (o : Bool) (seen : Sre.Seen) : Sre.M :=
  { code := codeA, text, lim := text.size, start := s, lastStart := text.size, pc := 5, pos := s, handed := s, outermost := o, marks := #[], frames := [{ wait := .nextStart, pc := 5, pos := s, outermost := o }], weight := 1, seen }
def bolB (text : Array Nat) (s : Nat) : Bool := s == 0 || text.getD (s - 1) 0 == 10
/-- one attempt -/
theorem stepA1 (text : Array Nat) (s : Nat) (o : Bool) (seen : Sre.Seen) : Sre.M.step (mA text s o seen) = if bolB text s then { mA text s o ((seen.add 6).add 44) with pc := 7 } else { mA text s o ((seen.add 6).add 44) with pc := 5, answer := some false } := by
  with_unfolding_all rfl
theorem stepA2n (text : Array Nat) (s : Nat) (o : Bool) (seen : Sre.Seen) (pc : Nat) : Sre.M.step { mA text s o seen with pc := pc, answer := some false } = if s < text.size then mA text (s + 1) false seen else { mA text s o seen with frames := [], weight := 0, answer := some false } := by
  with_unfolding_all rfl
theorem accA (x : Array Nat) (s : Nat) (seen : Sre.Seen) : Sre.accepts codeA 7 (x.getD s 0) seen = .ok (x.getD s 0 == 46, seen) := by with_unfolding_all rfl
theorem stepA2y (text : Array Nat) (s : Nat) (o : Bool) (seen : Sre.Seen) : Sre.M.step { mA text s o seen with pc := 7 } = if s ≥ text.size then { mA text s o (seen.add 16) with pc := 7, answer := some false } else match Sre.accepts codeA 7 (text.getD s 0) (seen.add 16) with
  | .error why => { mA text s o (seen.add 16) with pc := 7, outcome := some (.stuck why) }
  | .ok (false, seen) => { mA text s o seen with pc := 7, answer := some false }
  | .ok (true, seen) => { mA text s o seen with pc := 9, pos := s + 1 } := by
  with_unfolding_all rfl
theorem stepA3 (text : Array Nat) (s : Nat) (o : Bool) (seen : Sre.Seen) : Sre.M.step { mA text s o seen with pc := 9, pos := s + 1 } = if (o && ((false && (s + 1) != text.size) || (false && (s + 1) == s))) = true then { mA text s o (seen.add 1) with pc := 9, pos := s + 1, answer := some false } else { mA text s o (seen.add 1) with pc := 9, pos := s + 1, handed := s + 1, answer := some true } := by
  with_unfolding_all rfl
theorem stepA4 (text : Array Nat) (s : Nat) (o : Bool) (seen : Sre.Seen) : Sre.M.step { mA text s o seen with pc := 9, pos := s + 1, handed := s + 1, answer := some true } = { mA text s o seen with handed := s + 1, frames := [], weight := 0, answer := some true } := by
  with_unfolding_all rfl
theorem stepA5 (text : Array Nat) (s : Nat) (o : Bool) (seen : Sre.Seen) : Sre.M.step { mA text s o seen with handed := s + 1, frames := [], weight := 0, answer := some true } = { mA text s o seen with handed := s + 1, frames := [], weight := 0, answer := some true, outcome := some .matched } := by
  with_unfolding_all rfl
theorem stepA5n (text : Array Nat) (s : Nat) (o : Bool) (seen : Sre.Seen) : Sre.M.step { mA text s o seen with frames := [], weight := 0, answer := some false } = { mA text s o seen with frames := [], weight := 0, answer := some false, outcome := some .failed } := by
  with_unfolding_all rfl
theorem startA (text : Array Nat) (s : Nat) (h : s + 1 ≤ text.size) : Sre.forSearch codeA text 0 s text.size false = mA text s true (({} : Sre.Seen).add 14) := by
  have e : ¬ (decide (s > text.size) || decide (text.size - s < 1)) = true := by simp; omega
  show (if (decide (s > text.size) || decide (text.size - s < 1)) = true then _ else _) = _
  rw [if_neg e]
  with_unfolding_all rfl
def hitA (x : Array Nat) (s : Nat) : Bool := bolB x s && (decide (s < x.size) && x.getD s 0 == 46)
theorem onA (x : Array Nat) (s : Nat) (o : Bool) (seen : Sre.Seen) (h : hitA x s = true) : ∃ sn, Sre.M.runFor 5 (mA x s o seen) = { mA x s o sn with handed := s + 1, frames := [], weight := 0, answer := some true, outcome := some .matched } := by
  unfold hitA at h
  simp only [Bool.and_eq_true, decide_eq_true_eq] at h
  refine ⟨(((seen.add 6).add 44).add 16).add 1, ?_⟩
  rw [runFor_succ, stepA1, if_pos h.1, runFor_succ, stepA2y, if_neg (by omega), accA, h.2.2]
  dsimp only
  rw [runFor_succ, stepA3, if_neg (by cases o <;> simp), runFor_succ, stepA4, runFor_succ, stepA5]
  rfl
theorem offA (x : Array Nat) (s : Nat) (o : Bool) (seen : Sre.Seen) (h : hitA x s = false) (hs : s < x.size) : ∃ n sn, n ≤ 3 ∧ Sre.M.runFor n (mA x s o seen) = mA x (s + 1) false sn := by
  unfold hitA at h
  by_cases hb : bolB x s = true
  · have h2 : (x.getD s 0 == 46) = false := by simpa [hb, hs] using h
    refine ⟨3, ((seen.add 6).add 44).add 16, by omega, ?_⟩
    rw [runFor_succ, stepA1, if_pos hb, runFor_succ, stepA2y, if_neg (by omega), accA, h2]
    dsimp only
    rw [runFor_succ, stepA2n _ _ _ _ 7, if_pos hs]
    rfl
  · refine ⟨2, (seen.add 6).add 44, by omega, ?_⟩
    rw [runFor_succ, stepA1, if_neg hb, runFor_succ, stepA2n _ _ _ _ 5, if_pos hs]
    rfl
theorem endA (x : Array Nat) (o : Bool) (seen : Sre.Seen) : ∃ n m, n ≤ 4 ∧ Sre.M.runFor n (mA x x.size o seen) = m ∧ m.outcome = some .failed := by
  by_cases hb : bolB x x.size = true
  · refine ⟨4, { mA x x.size o (((seen.add 6).add 44).add 16) with frames := [], weight := 0, answer := some false, outcome := some .failed }, by omega, ?_, ?_⟩
    rw [runFor_succ, stepA1, if_pos hb, runFor_succ, stepA2y, if_pos (Nat.le_refl _), runFor_succ, stepA2n _ _ _ _ 7, if_neg (by omega), runFor_succ, stepA5n]
    rfl
    rfl
  · refine ⟨3, { mA x x.size o ((seen.add 6).add 44) with frames := [], weight := 0, answer := some false, outcome := some .failed }, by omega, ?_, ?_⟩
    rw [runFor_succ, stepA1, if_neg hb, runFor_succ, stepA2n _ _ _ _ 5, if_neg (by omega), runFor_succ, stepA5n]
    rfl
    rfl
/-- what a search answers -/
def Ans (m : Sre.M) : Option (Nat × Nat) → Prop
  | some (a, b) => m.outcome = some .matched ∧ m.start = a ∧ m.handed = b
  | none => m.outcome = some .failed
theorem goA (x : Array Nat) : ∀ (k s : Nat) (o : Bool) (seen : Sre.Seen), (∀ j, j < k → hitA x (s + j) = false) → s + k ≤ x.size → ∃ n sn, n ≤ 3 * k ∧ Sre.M.runFor n (mA x s o seen) = mA x (s + k) (o && decide (k = 0)) sn
  | 0, s, o, seen, _, _ => ⟨0, seen, by omega, by simp; rfl⟩
  | k + 1, s, o, seen, h, hs => by
    obtain ⟨n, sn, hn, e⟩ := offA x s o seen (by simpa using h 0 (by omega)) (by omega)
    obtain ⟨n2, sn2, hn2, e2⟩ := goA x k (s + 1) false sn (fun j hj => by have := h (j + 1) (by omega); rw [show s + 1 + j = s + (j + 1) by omega]; exact this) (by omega)
    refine ⟨n + n2, sn2, by omega, ?_⟩
    rw [runFor_add, e, e2, show s + 1 + k = s + (k + 1) by omega]
    simp
theorem findA (x : Array Nat) (s k : Nat) (hs : s + k < x.size) (h : ∀ j, j < k → hitA x (s + j) = false) (hk : hitA x (s + k) = true) : ∃ n m, n ≤ 3 * k + 5 ∧ Sre.M.runFor n (Sre.forSearch codeA x 0 s x.size false) = m ∧ Ans m (some (s + k, s + k + 1)) := by
  rw [startA x s (by omega)]
  obtain ⟨n, sn, hn, e⟩ := goA x k s true _ h (by omega)
  obtain ⟨sn2, e2⟩ := onA x (s + k) (true && decide (k = 0)) sn hk
  exact ⟨n + 5, _, by omega, (runFor_add n 5 _).trans (by rw [e, e2]), rfl, rfl, rfl⟩
theorem missA (x : Array Nat) (s k : Nat) (hk : 0 < k) (hs : s + k = x.size) (h : ∀ j, j < k → hitA x (s + j) = false) : ∃ n m, n ≤ 3 * k + 5 ∧ Sre.M.runFor n (Sre.forSearch codeA x 0 s x.size false) = m ∧ Ans m none := by
  rw [startA x s (by omega)]
  obtain ⟨n, sn, hn, e⟩ := goA x k s true _ h (by omega)
  rw [hs] at e
  obtain ⟨n2, m, hn2, e2, e3⟩ := endA x (true && decide (k = 0)) sn
  exact ⟨n + n2, m, by omega, by rw [runFor_add, e, e2], e3⟩
theorem overA (x : Array Nat) : ∃ n m, n ≤ 5 ∧ Sre.M.runFor n (Sre.forSearch codeA x 0 x.size x.size false) = m ∧ Ans m none := by
  refine ⟨1, { Sre.forSearch codeA x 0 x.size x.size false with outcome := some .failed }, by omega, ?_, ?_⟩
  · have e : (decide (x.size > x.size) || decide (x.size - x.size < 1)) = true := by simp
    have e2 : Sre.forSearch codeA x 0 x.size x.size false = (if (decide (x.size > x.size) || decide (x.size - x.size < 1)) = true then { mA x x.size true (({} : Sre.Seen).add 14) with lastStart := 0, frames := [], weight := 0, answer := some false } else Sre.forSearch codeA x 0 x.size x.size false) := by
      rw [if_pos e]
      show (if (decide (x.size > x.size) || decide (x.size - x.size < 1)) = true then _ else _) = _
      rw [if_pos e]
      with_unfolding_all rfl
    rw [if_pos e] at e2
    rw [e2]
    with_unfolding_all rfl
  · rfl
/-- regex B -/
def stB (x : Array Nat) (st pc pos hd : Nat) (o : Bool) (fr : List Sre.Frame) (wt : Nat) (an : Option Bool) (seen : Sre.Seen) : Sre.M :=
  { code := codeB, text := x, lim := x.size, start := st, lastStart := x.size, pc, pos, handed := hd, outermost := o, marks := #[], frames := fr, weight := wt, answer := an, seen }
def FB (s : Nat) (o : Bool) : Sre.Frame := { wait := .nextStart, pc := 10, pos := s, outermost := o }
def NB (k s : Nat) (o : Bool) : Sre.Frame := { wait := .nextBranch, pc := k, pos := s, outermost := o }
def LN (s : Nat) (o : Bool) : Sre.Frame := { wait := .lookNot, pc := 26, pos := s, outermost := o }
theorem acc12 (c : Nat) (seen : Sre.Seen) : Sre.accepts codeB 12 c seen = .ok (c == 13, seen) := by with_unfolding_all rfl
theorem lit12 (x : Array Nat) (st pos hd : Nat) (o : Bool) (fr : List Sre.Frame) (wt : Nat) (seen : Sre.Seen) : Sre.M.step (stB x st 12 pos hd o fr wt none seen) = if pos ≥ x.size then stB x st 12 pos hd o fr wt (some false) (seen.add 16) else match Sre.accepts codeB 12 (x.getD pos 0) (seen.add 16) with
  | .error why => { stB x st 12 pos hd o fr wt none (seen.add 16) with outcome := some (.stuck why) }
  | .ok (false, seen) => stB x st 12 pos hd o fr wt (some false) seen
  | .ok (true, seen) => stB x st 14 (pos + 1) hd o fr wt none seen := by
  with_unfolding_all rfl
theorem litY12 (x : Array Nat) (st pos hd : Nat) (o : Bool) (fr : List Sre.Frame) (wt : Nat) (seen : Sre.Seen) (h : pos < x.size) (hc : x.getD pos 0 = 13) : Sre.M.step (stB x st 12 pos hd o fr wt none seen) = stB x st 14 (pos + 1) hd o fr wt none (seen.add 16) := by
  rw [lit12, if_neg (by omega), acc12, hc]; rfl
theorem litN12 (x : Array Nat) (st pos hd : Nat) (o : Bool) (fr : List Sre.Frame) (wt : Nat) (seen : Sre.Seen) (h : x.size ≤ pos ∨ x.getD pos 0 ≠ 13) : Sre.M.step (stB x st 12 pos hd o fr wt none seen) = stB x st 12 pos hd o fr wt (some false) (seen.add 16) := by
  rw [lit12]
  by_cases e : pos ≥ x.size
  · rw [if_pos e]
  · have : (x.getD pos 0 == 13) = false := by rcases h with h | h; exact absurd h e; simpa using h
    rw [if_neg e, acc12, this]
theorem acc14 (c : Nat) (seen : Sre.Seen) : Sre.accepts codeB 14 c seen = .ok (c == 10, seen) := by with_unfolding_all rfl
theorem lit14 (x : Array Nat) (st pos hd : Nat) (o : Bool) (fr : List Sre.Frame) (wt : Nat) (seen : Sre.Seen) : Sre.M.step (stB x st 14 pos hd o fr wt none seen) = if pos ≥ x.size then stB x st 14 pos hd o fr wt (some false) (seen.add 16) else match Sre.accepts codeB 14 (x.getD pos 0) (seen.add 16) with
  | .error why => { stB x st 14 pos hd o fr wt none (seen.add 16) with outcome := some (.stuck why) }
  | .ok (false, seen) => stB x st 14 pos hd o fr wt (some false) seen
  | .ok (true, seen) => stB x st 16 (pos + 1) hd o fr wt none seen := by
  with_unfolding_all rfl
theorem litY14 (x : Array Nat) (st pos hd : Nat) (o : Bool) (fr : List Sre.Frame) (wt : Nat) (seen : Sre.Seen) (h : pos < x.size) (hc : x.getD pos 0 = 10) : Sre.M.step (stB x st 14 pos hd o fr wt none seen) = stB x st 16 (pos + 1) hd o fr wt none (seen.add 16) := by
  rw [lit14, if_neg (by omega), acc14, hc]; rfl
theorem litN14 (x : Array Nat) (st pos hd : Nat) (o : Bool) (fr : List Sre.Frame) (wt : Nat) (seen : Sre.Seen) (h : x.size ≤ pos ∨ x.getD pos 0 ≠ 10) : Sre.M.step (stB x st 14 pos hd o fr wt none seen) = stB x st 14 pos hd o fr wt (some false) (seen.add 16) := by
  rw [lit14]
  by_cases e : pos ≥ x.size
  · rw [if_pos e]
  · have : (x.getD pos 0 == 10) = false := by rcases h with h | h; exact absurd h e; simpa using h
    rw [if_neg e, acc14, this]
theorem acc19 (c : Nat) (seen : Sre.Seen) : Sre.accepts codeB 19 c seen = .ok (c == 10, seen) := by with_unfolding_all rfl
theorem lit19 (x : Array Nat) (st pos hd : Nat) (o : Bool) (fr : List Sre.Frame) (wt : Nat) (seen : Sre.Seen) : Sre.M.step (stB x st 19 pos hd o fr wt none seen) = if pos ≥ x.size then stB x st 19 pos hd o fr wt (some false) (seen.add 16) else match Sre.accepts codeB 19 (x.getD pos 0) (seen.add 16) with
  | .error why => { stB x st 19 pos hd o fr wt none (seen.add 16) with outcome := some (.stuck why) }
  | .ok (false, seen) => stB x st 19 pos hd o fr wt (some false) seen
  | .ok (true, seen) => stB x st 21 (pos + 1) hd o fr wt none seen := by
  with_unfolding_all rfl
theorem litY19 (x : Array Nat) (st pos hd : Nat) (o : Bool) (fr : List Sre.Frame) (wt : Nat) (seen : Sre.Seen) (h : pos < x.size) (hc : x.getD pos 0 = 10) : Sre.M.step (stB x st 19 pos hd o fr wt none seen) = stB x st 21 (pos + 1) hd o fr wt none (seen.add 16) := by
  rw [lit19, if_neg (by omega), acc19, hc]; rfl
theorem litN19 (x : Array Nat) (st pos hd : Nat) (o : Bool) (fr : List Sre.Frame) (wt : Nat) (seen : Sre.Seen) (h : x.size ≤ pos ∨ x.getD pos 0 ≠ 10) : Sre.M.step (stB x st 19 pos hd o fr wt none seen) = stB x st 19 pos hd o fr wt (some false) (seen.add 16) := by
  rw [lit19]
  by_cases e : pos ≥ x.size
  · rw [if_pos e]
  · have : (x.getD pos 0 == 10) = false := by rcases h with h | h; exact absurd h e; simpa using h
    rw [if_neg e, acc19, this]
theorem acc24 (c : Nat) (seen : Sre.Seen) : Sre.accepts codeB 24 c seen = .ok (c == 13, seen) := by with_unfolding_all rfl
theorem lit24 (x : Array Nat) (st pos hd : Nat) (o : Bool) (fr : List Sre.Frame) (wt : Nat) (seen : Sre.Seen) : Sre.M.step (stB x st 24 pos hd o fr wt none seen) = if pos ≥ x.size then stB x st 24 pos hd o fr wt (some false) (seen.add 16) else match Sre.accepts codeB 24 (x.getD pos 0) (seen.add 16) with
  | .error why => { stB x st 24 pos hd o fr wt none (seen.add 16) with outcome := some (.stuck why) }
  | .ok (false, seen) => stB x st 24 pos hd o fr wt (some false) seen
  | .ok (true, seen) => stB x st 26 (pos + 1) hd o fr wt none seen := by
  with_unfolding_all rfl
theorem litY24 (x : Array Nat) (st pos hd : Nat) (o : Bool) (fr : List Sre.Frame) (wt : Nat) (seen : Sre.Seen) (h : pos < x.size) (hc : x.getD pos 0 = 13) : Sre.M.step (stB x st 24 pos hd o fr wt none seen) = stB x st 26 (pos + 1) hd o fr wt none (seen.add 16) := by
  rw [lit24, if_neg (by omega), acc24, hc]; rfl
theorem litN24 (x : Array Nat) (st pos hd : Nat) (o : Bool) (fr : List Sre.Frame) (wt : Nat) (seen : Sre.Seen) (h : x.size ≤ pos ∨ x.getD pos 0 ≠ 13) : Sre.M.step (stB x st 24 pos hd o fr wt none seen) = stB x st 24 pos hd o fr wt (some false) (seen.add 16) := by
  rw [lit24]
  by_cases e : pos ≥ x.size
  · rw [if_pos e]
  · have : (x.getD pos 0 == 13) = false := by rcases h with h | h; exact absurd h e; simpa using h
    rw [if_neg e, acc24, this]
theorem acc29 (c : Nat) (seen : Sre.Seen) : Sre.accepts codeB 29 c seen = .ok (c == 10, seen) := by with_unfolding_all rfl
theorem lit29 (x : Array Nat) (st pos hd : Nat) (o : Bool) (fr : List Sre.Frame) (wt : Nat) (seen : Sre.Seen) : Sre.M.step (stB x st 29 pos hd o fr wt none seen) = if pos ≥ x.size then stB x st 29 pos hd o fr wt (some false) (seen.add 16) else match Sre.accepts codeB 29 (x.getD pos 0) (seen.add 16) with
  | .error why => { stB x st 29 pos hd o fr wt none (seen.add 16) with outcome := some (.stuck why) }
  | .ok (false, seen) => stB x st 29 pos hd o fr wt (some false) seen
  | .ok (true, seen) => stB x st 31 (pos + 1) hd o fr wt none seen := by
  with_unfolding_all rfl
theorem litY29 (x : Array Nat) (st pos hd : Nat) (o : Bool) (fr : List Sre.Frame) (wt : Nat) (seen : Sre.Seen) (h : pos < x.size) (hc : x.getD pos 0 = 10) : Sre.M.step (stB x st 29 pos hd o fr wt none seen) = stB x st 31 (pos + 1) hd o fr wt none (seen.add 16) := by
  rw [lit29, if_neg (by omega), acc29, hc]; rfl
theorem litN29 (x : Array Nat) (st pos hd : Nat) (o : Bool) (fr : List Sre.Frame) (wt : Nat) (seen : Sre.Seen) (h : x.size ≤ pos ∨ x.getD pos 0 ≠ 10) : Sre.M.step (stB x st 29 pos hd o fr wt none seen) = stB x st 29 pos hd o fr wt (some false) (seen.add 16) := by
  rw [lit29]
  by_cases e : pos ≥ x.size
  · rw [if_pos e]
  · have : (x.getD pos 0 == 10) = false := by rcases h with h | h; exact absurd h e; simpa using h
    rw [if_neg e, acc29, this]
theorem jump16 (x : Array Nat) (st pos hd : Nat) (o : Bool) (fr : List Sre.Frame) (wt : Nat) (seen : Sre.Seen) : Sre.M.step (stB x st 16 pos hd o fr wt none seen) = stB x st 35 pos hd o fr wt none (seen.add 15) := by with_unfolding_all rfl
theorem jump21 (x : Array Nat) (st pos hd : Nat) (o : Bool) (fr : List Sre.Frame) (wt : Nat) (seen : Sre.Seen) : Sre.M.step (stB x st 21 pos hd o fr wt none seen) = stB x st 35 pos hd o fr wt none (seen.add 15) := by with_unfolding_all rfl
theorem jump32 (x : Array Nat) (st pos hd : Nat) (o : Bool) (fr : List Sre.Frame) (wt : Nat) (seen : Sre.Seen) : Sre.M.step (stB x st 32 pos hd o fr wt none seen) = stB x st 35 pos hd o fr wt none (seen.add 15) := by with_unfolding_all rfl
theorem br10 (x : Array Nat) (s : Nat) (o : Bool) (seen : Sre.Seen) : Sre.M.step (stB x s 10 s s o [FB s o] 1 none seen) = stB x s 12 s s o [NB 11 s o, FB s o] 2 none (seen.add 7) := by with_unfolding_all rfl
theorem fail11 (x : Array Nat) (s pc pos hd : Nat) (o : Bool) (seen : Sre.Seen) : Sre.M.step (stB x s pc pos hd o [NB 11 s o, FB s o] 2 (some false) seen) = stB x s 19 s s o [NB 18 s o, FB s o] 2 none seen := by with_unfolding_all rfl
theorem fail18 (x : Array Nat) (s pc pos hd : Nat) (o : Bool) (seen : Sre.Seen) : Sre.M.step (stB x s pc pos hd o [NB 18 s o, FB s o] 2 (some false) seen) = stB x s 24 s s o [NB 23 s o, FB s o] 2 none seen := by with_unfolding_all rfl
theorem succ35 (x : Array Nat) (st pos hd : Nat) (o : Bool) (fr : List Sre.Frame) (wt : Nat) (seen : Sre.Seen) : Sre.M.step (stB x st 35 pos hd o fr wt none seen) = if (o && ((false && pos != x.size) || (false && pos == st))) = true then stB x st 35 pos hd o fr wt (some false) (seen.add 1) else stB x st 35 pos pos o fr wt (some true) (seen.add 1) := by with_unfolding_all rfl
theorem succ35' (x : Array Nat) (st pos hd : Nat) (o : Bool) (fr : List Sre.Frame) (wt : Nat) (seen : Sre.Seen) : Sre.M.step (stB x st 35 pos hd o fr wt none seen) = stB x st 35 pos pos o fr wt (some true) (seen.add 1) := by rw [succ35, if_neg (by cases o <;> simp)]
theorem resNB (k : Nat) (x : Array Nat) (s pc pos hd : Nat) (o : Bool) (seen : Sre.Seen) : Sre.M.step (stB x s pc pos hd o [NB k s o, FB s o] 2 (some true) seen) = stB x s k s hd o [FB s o] 1 (some true) seen := by with_unfolding_all rfl
theorem resFB (x : Array Nat) (s pc pos hd : Nat) (o : Bool) (seen : Sre.Seen) : Sre.M.step (stB x s pc pos hd o [FB s o] 1 (some true) seen) = stB x s 10 s hd o [] 0 (some true) seen := by with_unfolding_all rfl
theorem finB (x : Array Nat) (s pc pos hd : Nat) (o : Bool) (seen : Sre.Seen) : Sre.M.step (stB x s pc pos hd o [] 0 (some true) seen) = { stB x s pc pos hd o [] 0 (some true) seen with outcome := some .matched } := by with_unfolding_all rfl
theorem not26 (x : Array Nat) (s pos hd : Nat) (o : Bool) (fr : List Sre.Frame) (seen : Sre.Seen) : Sre.M.step (stB x s 26 pos hd o fr 2 none seen) = stB x s 29 pos pos false (LN pos o :: fr) 3 none (seen.add 5) := by with_unfolding_all rfl
theorem notN (x : Array Nat) (s pc p pos hd : Nat) (o : Bool) (fr : List Sre.Frame) (seen : Sre.Seen) : Sre.M.step (stB x s pc p hd false (LN pos o :: fr) 3 (some false) seen) = stB x s 32 pos hd o fr 2 none seen := by with_unfolding_all rfl
/-- where the line end at s ends -/
def eolB (x : Array Nat) (s : Nat) : Nat := if x.getD s 0 = 13 ∧ s + 1 < x.size ∧ x.getD (s + 1) 0 = 10 then s + 2 else s + 1
def hitB (x : Array Nat) (s : Nat) : Prop := s < x.size ∧ (x.getD s 0 = 10 ∨ x.getD s 0 = 13)
theorem onB (x : Array Nat) (s : Nat) (o : Bool) (seen : Sre.Seen) (h : hitB x s) : ∃ n m, n ≤ 20 ∧ Sre.M.runFor n (stB x s 10 s s o [FB s o] 1 none seen) = m ∧ Ans m (some (s, eolB x s)) := by
  obtain ⟨hs, hc⟩ := h
  by_cases h1 : x.getD s 0 = 13
  · by_cases h2 : s + 1 < x.size ∧ x.getD (s + 1) 0 = 10
    · have e : eolB x s = s + 2 := if_pos ⟨h1, h2⟩
      rw [e]
      refine ⟨8, _, by omega, rfl, ?_⟩
      rw [runFor_succ, br10, runFor_succ, litY12 _ _ _ _ _ _ _ _ hs h1, runFor_succ, litY14 _ _ _ _ _ _ _ _ h2.1 h2.2, runFor_succ, jump16, runFor_succ, succ35', runFor_succ, resNB, runFor_succ, resFB, runFor_succ, finB]
      exact ⟨rfl, rfl, rfl⟩
    · have e : eolB x s = s + 1 := if_neg fun z => h2 z.2
      have h3 : x.size ≤ s + 1 ∨ x.getD (s + 1) 0 ≠ 10 := by
        rcases Nat.lt_or_ge (s + 1) x.size with z | z
        · exact .inr fun q => h2 ⟨z, q⟩
        · exact .inl z
      rw [e]
      refine ⟨15, _, by omega, rfl, ?_⟩
      rw [runFor_succ, br10, runFor_succ, litY12 _ _ _ _ _ _ _ _ hs h1, runFor_succ, litN14 _ _ _ _ _ _ _ _ h3, runFor_succ, fail11, runFor_succ, litN19 _ _ _ _ _ _ _ _ (.inr (by rw [h1]; decide)), runFor_succ, fail18, runFor_succ, litY24 _ _ _ _ _ _ _ _ hs h1, runFor_succ, not26, runFor_succ, litN29 _ _ _ _ _ _ _ _ h3, runFor_succ, notN, runFor_succ, jump32, runFor_succ, succ35', runFor_succ, resNB, runFor_succ, resFB, runFor_succ, finB]
      exact ⟨rfl, rfl, rfl⟩
  · have h2 : x.getD s 0 = 10 := hc.resolve_right h1
    have e : eolB x s = s + 1 := if_neg fun z => h1 z.1
    rw [e]
    refine ⟨9, _, by omega, rfl, ?_⟩
    rw [runFor_succ, br10, runFor_succ, litN12 _ _ _ _ _ _ _ _ (.inr h1), runFor_succ, fail11, runFor_succ, litY19 _ _ _ _ _ _ _ _ hs h2, runFor_succ, jump21, runFor_succ, succ35', runFor_succ, resNB, runFor_succ, resFB, runFor_succ, finB]
    exact ⟨rfl, rfl, rfl⟩
theorem setB (c : Nat) (seen : Sre.Seen) : Sre.inSet codeB c 36 5 true seen = if (c == 10) = true then .ok (true, seen.add 16) else if (c == 13) = true then .ok (true, (seen.add 16).add 16) else .ok (false, ((seen.add 16).add 16).add 0) := by with_unfolding_all rfl
def mB0 (x : Array Nat) (s : Nat) : Sre.M := { code := codeB, text := x, lim := x.size, start := s, lastStart := x.size, pc := 10, pos := s, handed := s, marks := #[], seen := ({} : Sre.Seen).add 14 }
theorem admB (x : Array Nat) (s0 : Nat) : ∀ (fuel s k : Nat) (seen : Sre.Seen), s + k < x.size → k < fuel → (∀ j, j < k → ¬ hitB x (s + j)) → hitB x (s + k) → ∃ sn, Sre.M.admitted (mB0 x s0) fuel s seen = .ok (some (s + k), sn)
  | 0, s, k, seen, _, hk, _, _ => by omega
  | fuel + 1, s, k, seen, hs, hk, hm, hh => by
    have e : Sre.M.admitted (mB0 x s0) (fuel + 1) s seen = if s ≥ x.size then .ok (none, seen) else match Sre.inSet codeB (x.getD s 0) 36 5 true seen with
      | .ok (true, seen) => .ok (some s, seen)
      | .ok (false, seen) => Sre.M.admitted (mB0 x s0) fuel (s + 1) seen
      | .error why => .error why := by with_unfolding_all rfl
    rw [e, if_neg (by omega), setB]
    cases k with
    | zero =>
      rcases hh.2 with h | h
      · rw [Nat.add_zero] at h
        rw [h]; exact ⟨_, rfl⟩
      · rw [Nat.add_zero] at h
        rw [h]; exact ⟨_, rfl⟩
    | succ k =>
      have h0 := hm 0 (by omega)
      rw [Nat.add_zero] at h0
      have h1 : ¬ (x.getD s 0 == 10) = true := fun z => h0 ⟨by omega, .inl (by simpa using z)⟩
      have h2 : ¬ (x.getD s 0 == 13) = true := fun z => h0 ⟨by omega, .inr (by simpa using z)⟩
      rw [if_neg h1, if_neg h2]
      dsimp only
      obtain ⟨sn, e2⟩ := admB x s0 fuel (s + 1) k (((seen.add 16).add 16).add 0) (by omega) (by omega) (fun j hj => by rw [show s + 1 + j = s + (j + 1) by omega]; exact hm (j + 1) (by omega)) (by rw [show s + 1 + k = s + (k + 1) by omega]; exact hh)
      exact ⟨sn, by rw [e2, show s + 1 + k = s + (k + 1) by omega]⟩
theorem admB0 (x : Array Nat) (s0 : Nat) : ∀ (fuel s : Nat) (seen : Sre.Seen), (∀ j, s ≤ j → ¬ hitB x j) → ∃ sn, Sre.M.admitted (mB0 x s0) fuel s seen = .ok (none, sn)
  | 0, s, seen, _ => ⟨_, rfl⟩
  | fuel + 1, s, seen, hm => by
    have e : Sre.M.admitted (mB0 x s0) (fuel + 1) s seen = if s ≥ x.size then .ok (none, seen) else match Sre.inSet codeB (x.getD s 0) 36 5 true seen with
      | .ok (true, seen) => .ok (some s, seen)
      | .ok (false, seen) => Sre.M.admitted (mB0 x s0) fuel (s + 1) seen
      | .error why => .error why := by with_unfolding_all rfl
    rw [e]
    by_cases hs : s ≥ x.size
    · rw [if_pos hs]; exact ⟨_, rfl⟩
    · rw [if_neg hs, setB]
      have h1 : ¬ (x.getD s 0 == 10) = true := fun z => hm s (Nat.le_refl _) ⟨by omega, .inl (by simpa using z)⟩
      have h2 : ¬ (x.getD s 0 == 13) = true := fun z => hm s (Nat.le_refl _) ⟨by omega, .inr (by simpa using z)⟩
      rw [if_neg h1, if_neg h2]
      exact admB0 x s0 fuel (s + 1) _ fun j hj => hm j (by omega)
theorem startB (x : Array Nat) (s : Nat) (h : s + 1 ≤ x.size) : Sre.forSearch codeB x 0 s x.size false = (mB0 x s).attemptFrom s true := by
  have e : ¬ (decide (s > x.size) || decide (x.size - s < 1)) = true := by simp; omega
  show (if (decide (s > x.size) || decide (x.size - s < 1)) = true then _ else _) = _
  rw [if_neg e]
  with_unfolding_all rfl
theorem fromB (x : Array Nat) (s : Nat) : (mB0 x s).attemptFrom s true = match Sre.M.admitted (mB0 x s) (x.size + 1 - s) s (({} : Sre.Seen).add 14) with
  | .ok (some s, seen) => stB x s 10 s s true [FB s true] 1 none seen
  | .ok (none, seen) => { mB0 x s with seen := seen, answer := some false }
  | .error why => { mB0 x s with outcome := some (.stuck why) } := by with_unfolding_all rfl
theorem findB (x : Array Nat) (s k : Nat) (hs : s + k < x.size) (hm : ∀ j, j < k → ¬ hitB x (s + j)) (hh : hitB x (s + k)) : ∃ n m, n ≤ 20 ∧ Sre.M.runFor n (Sre.forSearch codeB x 0 s x.size false) = m ∧ Ans m (some (s + k, eolB x (s + k))) := by
  obtain ⟨sn, e⟩ := admB x s (x.size + 1 - s) s k (({} : Sre.Seen).add 14) hs (by omega) hm hh
  rw [startB x s (by omega), fromB, e]
  exact onB x (s + k) true sn hh
theorem missB (x : Array Nat) (s : Nat) (h : s + 1 ≤ x.size) (hm : ∀ j, s ≤ j → ¬ hitB x j) : ∃ n m, n ≤ 20 ∧ Sre.M.runFor n (Sre.forSearch codeB x 0 s x.size false) = m ∧ Ans m none := by
  obtain ⟨sn, e⟩ := admB0 x s (x.size + 1 - s) s (({} : Sre.Seen).add 14) hm
  rw [startB x s h, fromB, e]
  exact ⟨1, _, by omega, rfl, rfl⟩
theorem overB (x : Array Nat) : ∃ n m, n ≤ 5 ∧ Sre.M.runFor n (Sre.forSearch codeB x 0 x.size x.size false) = m ∧ Ans m none := by
  refine ⟨1, _, by omega, rfl, ?_⟩
  have e : (decide (x.size > x.size) || decide (x.size - x.size < 1)) = true := by simp
  have e2 : Sre.forSearch codeB x 0 x.size x.size false = (if (decide (x.size > x.size) || decide (x.size - x.size < 1)) = true then { mB0 x x.size with lastStart := 0, answer := some false } else Sre.forSearch codeB x 0 x.size x.size false) := by
    rw [if_pos e]
    show (if (decide (x.size > x.size) || decide (x.size - x.size < 1)) = true then _ else _) = _
    rw [if_pos e]
    with_unfolding_all rfl
  rw [if_pos e] at e2
  rw [e2]
  rfl
end
local macro_rules | `(tactic| walk_at "idle33") => `(tactic| skip)
section
theorem wipeRS : True := by k_with_none; w_top off; trivial
section
variable {M : Model} {A : Around} {E : Value → Shared → Prop} {s : Shared}
open PySem.Builtin.Re
theorem drive_wp {Q : Sre.M → Shared → Prop} : ∀ (j t : Nat) (m : Sre.M), j ≤ t → 0 < j → (Sre.M.runFor (4 * j) m).outcome.isSome = true → Q (Sre.M.runFor (4 * j) m) s → wpAny M A (reDrive t m) Q E s
  | 0, _, _, _, h, _, _ => by omega
  | j + 1, 0, _, h, _, _, _ => by omega
  | j + 1, t + 1, m, hj, _, ho, hq => by
    show wpAny M A (if (Sre.M.runFor 4 m).outcome.isSome then pure (Sre.M.runFor 4 m) else do rule "sre.turn"; reDrive t (Sre.M.runFor 4 m)) Q E s
    have e : Sre.M.runFor (4 * (j + 1)) m = Sre.M.runFor (4 * j) (Sre.M.runFor 4 m) := by rw [show 4 * (j + 1) = 4 + 4 * j by omega, runFor_add]
    rw [e] at ho hq
    by_cases h : (Sre.M.runFor 4 m).outcome.isSome = true
    · rw [if_pos h]
      rw [runFor_fix _ h] at hq
      exact wpAny_pure hq
    · rw [if_neg h]
      have hj0 : 0 < j := by
        rcases Nat.eq_zero_or_pos j with z | z
        · subst z; exact absurd ho h
        · exact z
      exact wpAny_bind (wpAny_rule (drive_wp j t _ (by omega) hj0 ho hq))
theorem names_wp {Q : PUnit → Shared → Prop} (c : Nat → Bool) (nm : Nat → String) : ∀ (l : List Nat), Q PUnit.unit s → wpAny M A (forIn l PUnit.unit fun i _ => if c i = true then do rule (nm i); pure (ForInStep.yield PUnit.unit) else pure (ForInStep.yield PUnit.unit)) Q E s
  | [], hq => wpAny_pure hq
  | i :: l, hq => by
    rw [List.forIn_cons]
    refine wpAny_bind ?_
    have ih := names_wp c nm l hq
    by_cases h : c i = true
    · rw [if_pos h]
      exact wpAny_bind (wpAny_rule (wpAny_pure ih))
    · rw [if_neg h]
      exact wpAny_pure ih
def AnsM (m : Sre.M) (r : Option (Nat × Nat)) (o : Option Sre.M) : Prop := match r with
  | some (a, b) => o = some m ∧ m.start = a ∧ m.handed = b
  | none => o = none
def Srch (code x : Array Nat) (pos : Nat) (r : Option (Nat × Nat)) : Prop := ∃ n m, n ≤ 1000000 ∧ Sre.M.runFor n (Sre.forSearch code x 0 pos x.size false) = m ∧ Ans m r
theorem run_wp {Q : Option Sre.M → Shared → Prop} {m0 m : Sre.M} {n : Nat} {r : Option (Nat × Nat)} (hn : n ≤ 1000000) (e : Sre.M.runFor n m0 = m) (ha : Ans m r) (hq : ∀ o, AnsM m r o → Q o s) : wpAny M A (reRunToEnd m0) Q E s := by
  have ho : m.outcome.isSome = true := by
    cases r with
    | none => rw [show m.outcome = some .failed from ha]; rfl
    | some p => rw [show m.outcome = some .matched from ha.1]; rfl
  have e4 : Sre.M.runFor (4 * (n + 1)) m0 = m := by
    rw [show 4 * (n + 1) = n + (3 * n + 4) by omega, runFor_add, e, runFor_fix m ho]
  unfold reRunToEnd
  refine wpAny_bind (drive_wp (n + 1) (2 ^ 64) m0 (by omega) (by omega) (by rw [e4]; exact ho) ?_)
  rw [e4]
  refine wpAny_bind (names_wp (fun i => m.seen.has i) (fun i => Sre.names.getD i "") _ ?_)
  cases r with
  | none =>
    rw [show m.outcome = some .failed from ha]
    exact wpAny_pure (hq _ rfl)
  | some p =>
    rw [show m.outcome = some .matched from ha.1]
    exact wpAny_pure (hq _ ⟨rfl, ha.2.1, ha.2.2⟩)
variable {h₀ : Heap} {L D : Addr} {mm : Str → Option Value} {news : List (Addr × Obj)}
theorem push_K {its : Array Value} {n : Nat} {x : Value} {Q : Unit → Shared → Prop} (F : Fr h₀ L s.heap mm) (N : News h₀ L s.heap ((D, listOf its n) :: news)) (hD : ∀ p ∈ news, p.1 < D) (hsz : its.size ≤ 4096)
    (h : ∀ h', Fr h₀ L h' mm → News h₀ L h' ((D, listOf (its.push x) (n + 1)) :: news) → Q () { s with heap := h' }) : wpAny M A (updateSeq D (·.push x)) Q E s := by
  have z := N (D, listOf its n) (.head _)
  refine wpAny_updateSeq z.1 rfl ?_ (by rw [sizeLine_eq]; omega) (by rw [Array.size_push, sizeLine_eq]; omega)
  refine h _ (F.change (Heap.SameBut.update ..) z.2.1 z.2.2) (news_set (pre := []) N (fun _ h => (nomatch h)) (fun p hp => Nat.ne_of_lt (hD p hp)) (Heap.SameBut.update ..) ?_)
  rw [Heap.get?_update_self _ z.1 (by rw [mapSeq_push]; rfl), mapSeq_push]
inductive Run (code : Array Nat) (x : Str) (y : Str) : Nat → List Str → Prop
  | stop {pos : Nat} : Srch code x.cps pos none → Run code x y pos (if pos < x.cps.size then [⟨x.cps.extract pos x.cps.size⟩] else [])
  | hit {pos a b : Nat} {ps : List Str} : Srch code x.cps pos (some (a, b)) → a < b → Run code x y b ps → Run code x y pos ((if pos < a then [⟨x.cps.extract pos a⟩] else []) ++ y :: ps)
theorem entry_loop : entryFor table "re.Pattern.sub.loop" = some Builtin.«re.Pattern.sub.loop» := entryFor_of_tree (by kernel_rfl)
theorem entry_sub : entryFor table "re.Pattern.sub" = some Builtin.«re.Pattern.sub» := entryFor_of_tree (by kernel_rfl)
theorem plain_loop : plainId "re.Pattern.sub.loop" = true := by decide +kernel
theorem plain_sub : plainId "re.Pattern.sub" = true := by decide +kernel
end
section
variable {prog : Program} {w : World} {A : Around} {R : Result → Shared → Prop} {h₀ : Heap} {L D : Addr} {mm : Str → Option Value} {news : List (Addr × Obj)} {K : Frag} {f : Addr} {code : Array Nat} {x y : Str} {tx ty : Tok}
open PySem.Builtin.Re
def target (f : Addr) (code : Array Nat) (x : Str) (tx : Tok) : ReTarget := { pattern := .ref f, string := .str x tx, code := code, text := x.cps, kind := 0, groups := 0, pos := 0, lim := x.cps.size }
theorem slice_wp {M : Model} {A : Around} {E : Value → Shared → Prop} {s : Shared} {Q : Value → Shared → Prop} {text : Array Nat} {b e : Nat} (hx : text.size ≤ 4096) (h : Q (.str ⟨text.extract b e⟩ s.toks) { s with toks := s.toks + 1 }) : wpAny M A (reSlice text 0 b e) Q E s := by
  show wpAny M A (mkStr ⟨text.extract b e⟩) Q E s
  refine wpAny_mkStr h ?_
  have : (⟨text.extract b e⟩ : Str).length = (text.extract b e).size := rfl
  rw [this, Array.size_extract, sizeLine_eq]
  omega
theorem hlit (S : Setting) : peek [] S (reLiteralCannotBeTurned (.str y ty)) = some () := by kernel_rfl
theorem loop_wp (X : K.In h₀) (hT : ∀ S, peek K S (reWholeTarget (.ref f) (.str x tx)) = some (target f code x tx)) (hx : x.cps.size ≤ 4096) :
    ∀ {pos : Nat} {ps : List Str}, Run code x y pos ps → ∀ (s : Shared) (n : Nat) (its : Array Value) (cnt : Int) (zs : List Str), Fr h₀ L s.heap mm → News h₀ L s.heap ((D, listOf its n) :: news) → (∀ p ∈ news, p.1 < D) → StrsAre its.toList zs →
    ((zs ++ ps).map (·.length)).sum + (zs ++ ps).length ≤ 4096 → zs ++ ps ≠ [] →
    (∀ h' tk' t e n' its', e.length = 0 → Fr h₀ L h' mm → News h₀ L h' ((D, listOf its' n') :: news) → R (.ok (.ret (.str (Txt.join e (zs ++ ps)) t))) { s with heap := h', toks := tk' }) →
    codeAny (model prog w) A (.builtin "re.Pattern.sub.loop" ⟨[.ref f, .str x tx, .str y ty, rawInt 0, rawInt 0, rawInt cnt, rawInt pos, rawInt pos, .bool false, .ref D, .bool false], []⟩) R s := by
  intro pos ps run
  induction run with
  | @stop pos hs =>
    intro s n its cnt zs F N hD hi hw hne hq
    refine codeAny_builtin entry_loop ?_
    rw [Around.under_plainId plain_loop _]
    unfold Builtin.«re.Pattern.sub.loop»
    dsimp only [rawInt]
    refine wpAny_bind ((Looks.of_peek (X.keeps fun b o e => F.keep b o e) (hT _)).here ?_)
    rw [if_pos (by decide)]
    refine wpAny_bind ((Looks.of_peek (K := []) (fun _ _ h => nomatch h) (hlit _)).here ?_)
    rw [if_neg (by simp)]
    obtain ⟨nn, m, hn, e, ha⟩ := hs
    refine wpAny_bind (run_wp hn e ha ?_)
    rintro o rfl
    dsimp only
    by_cases hp : pos < x.cps.size
    · rw [if_pos hp] at hw hne hq
      rw [if_pos (show (pos : Int).toNat < (target f code x tx).lim from hp)]
      refine wpAny_bind (slice_wp hx ?_)
      have hlen : zs.length ≤ 4096 := by rw [List.length_append] at hw; omega
      refine wpAny_bind (push_K F N hD (by have := hi.length; rw [Array.length_toList] at this; rw [this]; exact hlen) ?_)
      intro h2 F2 N2
      have hi2 := strsAre_push (n := ⟨x.cps.extract pos x.cps.size⟩) (t := s.toks) hi
      have hne2 : ¬ (its.push (Value.str ⟨x.cps.extract pos x.cps.size⟩ s.toks)).isEmpty = true := by simp
      refine wpAny_bind (slice_wp hx ?_)
      refine wpAny_bind (wpAny_seqItems (N2 _ (.head _)).1 rfl ?_)
      rw [if_neg (by rw [Option.getD_some]; exact hne2)]
      rw [if_pos (show (((target f code x tx).kind == 0) = true) from rfl)]
      refine wpAny_bind (join_listW (IsL.isList (N2 _ (.head _)).1) hi2 (by show (Array.extract _ 0 0).size ≤ 16; rw [Array.size_extract]; omega) (by omega) ?_)
      intro t' k'
      rw [if_neg (by simp)]
      exact wpAny_pure (hq _ _ _ _ _ _ (by show (Array.extract _ 0 0).size = 0; rw [Array.size_extract]; omega) F2 N2)
    · rw [if_neg hp] at hw hne hq
      rw [if_neg (show ¬ (pos : Int).toNat < (target f code x tx).lim from hp)]
      rw [List.append_nil] at hw hne hq
      have F2 := F
      have N2 := N
      have hi2 := hi
      have hne2 : ¬ its.isEmpty = true := by
        intro z
        have := hi.length
        rw [Array.length_toList] at this
        have z2 : its.size = 0 := by simpa using z
        exact hne (List.length_eq_zero_iff.mp (by omega))
      refine wpAny_bind (slice_wp hx ?_)
      refine wpAny_bind (wpAny_seqItems (N2 _ (.head _)).1 rfl ?_)
      rw [if_neg (by rw [Option.getD_some]; exact hne2)]
      rw [if_pos (show (((target f code x tx).kind == 0) = true) from rfl)]
      refine wpAny_bind (join_listW (IsL.isList (N2 _ (.head _)).1) hi2 (by show (Array.extract _ 0 0).size ≤ 16; rw [Array.size_extract]; omega) (by omega) ?_)
      intro t' k'
      rw [if_neg (by simp)]
      exact wpAny_pure (hq _ _ _ _ _ _ (by show (Array.extract _ 0 0).size = 0; rw [Array.size_extract]; omega) F2 N2)
  | @hit pos a b ps hs hab run ih =>
    intro s n its cnt zs F N hD hi hw hne hq
    refine codeAny_builtin entry_loop ?_
    rw [Around.under_plainId plain_loop _]
    unfold Builtin.«re.Pattern.sub.loop»
    dsimp only [rawInt]
    refine wpAny_bind ((Looks.of_peek (X.keeps fun b o e => F.keep b o e) (hT _)).here ?_)
    rw [if_pos (by decide)]
    refine wpAny_bind ((Looks.of_peek (K := []) (fun _ _ h => nomatch h) (hlit _)).here ?_)
    rw [if_neg (by simp)]
    obtain ⟨nn, m, hn, e, ha⟩ := hs
    refine wpAny_bind (run_wp hn e ha ?_)
    rintro o ⟨rfl, hm1, hm2⟩
    dsimp only
    by_cases hp : pos < a
    · rw [if_pos hp] at hw hne hq
      rw [if_pos (show (pos : Int).toNat < m.start by rw [hm1]; exact hp)]
      refine wpAny_bind (slice_wp hx ?_)
      have hlen0 : zs.length + 2 ≤ 4096 := by simp only [List.length_append, List.length_cons, List.length_nil] at hw; omega
      refine wpAny_bind (push_K F N hD (by have := hi.length; rw [Array.length_toList] at this; rw [this]; omega) ?_)
      intro h2 F2 N2
      have hi2 := strsAre_push (n := ⟨x.cps.extract pos a⟩) (t := s.toks) hi
      have hlen : (zs ++ [⟨x.cps.extract pos a⟩] : List Str).length ≤ 4096 := by rw [List.length_append, List.length_singleton]; omega
      rw [hm1] at N2
      change News h₀ L h2 ((D, listOf (its.push (Value.str ⟨x.cps.extract pos a⟩ s.toks)) (n + 1)) :: news) at N2
      rw [show zs ++ ([⟨x.cps.extract pos a⟩] ++ y :: ps) = ((zs ++ [⟨x.cps.extract pos a⟩]) ++ [y]) ++ ps by simp] at hw hne hq
      rw [if_pos (by decide)]
      refine wpAny_bind (wpAny_pure ?_)
      rw [if_pos (by rfl)]
      refine wpAny_bind (push_K F2 N2 hD (by have := hi2.length; rw [Array.length_toList] at this; rw [this]; exact hlen) ?_)
      intro h3 F3 N3
      refine wpAny_pure ⟨plainId_quiet plain_loop _, ?_⟩
      rw [hm1, hm2, show (b == a) = false by simpa using (Nat.ne_of_gt hab)]
      exact ih _ _ _ _ _ F3 N3 hD (strsAre_push hi2) hw hne hq
    · rw [if_neg hp] at hw hne hq
      rw [if_neg (show ¬ (pos : Int).toNat < m.start by rw [hm1]; exact hp)]
      have hlen : zs.length ≤ 4096 := by rw [List.length_append] at hw; omega
      have F2 := F
      have N2 := N
      have hi2 := hi
      rw [List.nil_append, show zs ++ y :: ps = (zs ++ [y]) ++ ps by simp] at hw hne hq
      rw [if_pos (by decide)]
      refine wpAny_bind (wpAny_pure ?_)
      rw [if_pos (by rfl)]
      refine wpAny_bind (push_K F2 N2 hD (by have := hi2.length; rw [Array.length_toList] at this; rw [this]; exact hlen) ?_)
      intro h3 F3 N3
      refine wpAny_pure ⟨plainId_quiet plain_loop _, ?_⟩
      rw [hm1, hm2, show (b == a) = false by simpa using (Nat.ne_of_gt hab)]
      exact ih _ _ _ _ _ F3 N3 hD (strsAre_push hi2) hw hne hq
end
end
local macro_rules | `(tactic| walk_at "idle34") => `(tactic| skip)
section
theorem wipeRT : True := by k_with_none; w_top off; trivial
open PySem.Builtin.Re
theorem tgt71 (w : World) (x : Str) (tx : Tok) (S : Setting) : peek (hd.heap_39 w.params) S (reWholeTarget (.ref 71) (.str x tx)) = some (target 71 codeA x tx) := by kernel_rfl
theorem tgt76 (w : World) (x : Str) (tx : Tok) (S : Setting) : peek (hd.heap_39 w.params) S (reWholeTarget (.ref 76) (.str x tx)) = some (target 76 codeB x tx) := by kernel_rfl
theorem chk71 (w : World) (x y : Str) (tx ty : Tok) (S : Setting) : peek (hd.heap_39 w.params) S (checkBuiltinCall "re.Pattern.sub" ⟨[.ref 71, .str y ty, .str x tx], []⟩) = some () := by kernel_rfl
theorem chk76 (w : World) (x y : Str) (tx ty : Tok) (S : Setting) : peek (hd.heap_39 w.params) S (checkBuiltinCall "re.Pattern.sub" ⟨[.ref 76, .str y ty, .str x tx], []⟩) = some () := by kernel_rfl
theorem sub71 (w : World) (x : Str) (tx ty : Tok) (S : Setting) : peek1 (hd.heap_39 w.params) S (Builtin.«re.Pattern.sub» ⟨[.ref 71, .str (Str.ofString "..") ty, .str x tx], []⟩) = some (listOf #[] 0, fun D => some (.again (.builtin "re.Pattern.sub.loop" ⟨[.ref 71, .str x tx, .str (Str.ofString "..") ty, rawInt 0, rawInt 0, rawInt 0, rawInt 0, rawInt 0, .bool false, .ref D, .bool false], []⟩))) := by kernel_rfl
theorem sub76 (w : World) (x : Str) (tx ty : Tok) (S : Setting) : peek1 (hd.heap_39 w.params) S (Builtin.«re.Pattern.sub» ⟨[.ref 76, .str (Str.ofString "\r\n") ty, .str x tx], []⟩) = some (listOf #[] 0, fun D => some (.again (.builtin "re.Pattern.sub.loop" ⟨[.ref 76, .str x tx, .str (Str.ofString "\r\n") ty, rawInt 0, rawInt 0, rawInt 0, rawInt 0, rawInt 0, .bool false, .ref D, .bool false], []⟩))) := by kernel_rfl
def catS (ps : List Str) : Str := Txt.join ⟨#[]⟩ ps
theorem empty_of_len {e : Str} (h : e.length = 0) : e = ⟨#[]⟩ := by
  obtain ⟨c⟩ := e
  have : c.size = 0 := h
  rw [Array.eq_empty_of_size_eq_zero this]
theorem sub_wp {prog : Program} {w : World} {A : Around} {E : Value → Shared → Prop} {Q : Value → Shared → Prop} {s : Shared} {h₀ : Heap} {L : Addr} {mm : Str → Option Value} {news : List (Addr × Obj)} {K : Frag} {f : Addr} {code : Array Nat} {x y : Str} {tx ty : Tok} {ps : List Str}
    (F : Fr h₀ L s.heap mm) (N : News h₀ L s.heap news) (X : K.In h₀) (hT : ∀ S, peek K S (reWholeTarget (.ref f) (.str x tx)) = some (target f code x tx))
    (hc : ∀ S, peek K S (checkBuiltinCall "re.Pattern.sub" ⟨[.ref f, .str y ty, .str x tx], []⟩) = some ())
    (hs : ∀ S, peek1 K S (Builtin.«re.Pattern.sub» ⟨[.ref f, .str y ty, .str x tx], []⟩) = some (listOf #[] 0, fun D => some (.again (.builtin "re.Pattern.sub.loop" ⟨[.ref f, .str x tx, .str y ty, rawInt 0, rawInt 0, rawInt 0, rawInt 0, rawInt 0, .bool false, .ref D, .bool false], []⟩))))
    (run : Run code x y 0 ps) (hx : x.cps.size ≤ 4096) (hw : (ps.map (·.length)).sum + ps.length ≤ 4096) (hne : ps ≠ [])
    (hq : ∀ h' tk' t, Fr h₀ L h' mm → News h₀ L h' news → Q (.str (catS ps) t) { s with heap := h', toks := tk' }) :
    wpAny (model prog w) A (call (.builtin "re.Pattern.sub") [.ref f, .str y ty, .str x tx]) Q E s := by
  have X' : K.In s.heap := X.keeps fun b o e => F.keep b o e
  refine wpAny_call (codeAny_call_builtin plain_sub entry_sub ((Looks.of_peek X' (hc _)).here ?_))
  refine wp_of_peek1 F N X' rfl ?_ _ _ (hs _) (fun D => rfl)
  intro D h1 F1 N1 hD
  refine ⟨plainId_quiet plain_loop _, ?_⟩
  refine loop_wp X hT hx run _ 0 #[] 0 [] F1 N1 hD StrsAre.nil (by rw [List.nil_append]; exact hw) (by rw [List.nil_append]; exact hne) ?_
  intro h' tk' t e n' its' he F' N'
  rw [empty_of_len he, List.nil_append]
  exact hq _ _ _ F' (fun p hp => N' p (.tail _ hp))
theorem meth71 (w : World) (pl : Sem Bool) (S : Setting) : peek (hd.heap_39 w.params) S (getMethod (.ref 71) (Str.ofString "sub") pl) = some (.builtin "re.Pattern.sub", [.ref 71]) := by kernel_rfl
theorem meth76 (w : World) (pl : Sem Bool) (S : Setting) : peek (hd.heap_39 w.params) S (getMethod (.ref 76) (Str.ofString "sub") pl) = some (.builtin "re.Pattern.sub", [.ref 76]) := by kernel_rfl
local macro_rules | `(tactic| walk_at "getMethod ref") => `(tactic| (k_here; k_dflt (first | refine (Looks.of_peek (by k_in) (meth71 _ _ _)).here ?_ | refine (Looks.of_peek (by k_in) (meth76 _ _ _)).here ?_)))
local macro_rules | `(tactic| walk_at "call builtin:re.Pattern.sub") => `(tactic| (refine Blk.out ?_))
set_option maxHeartbeats 8000000 in

theorem quote_spec (w : World) (x : Str) (tx : Tok) (ps2 ps1 : List Str) (r2 : Run codeB x (Str.ofString "\r\n") 0 ps2) (r1 : Run codeA (catS ps2) (Str.ofString "..") 0 ps1)
    (hx : x.cps.size ≤ 4096) (hx2 : (catS ps2).cps.size ≤ 4096) (hw2 : (ps2.map (·.length)).sum + ps2.length ≤ 4096) (hw1 : (ps1.map (·.length)).sum + ps1.length ≤ 4096) (hn2 : ps2 ≠ []) (hn1 : ps1 ≠ []) :
    Spec w 83 2 [.str x tx] [] (fun v led' => led' = [] ∧ ∃ t, v = .str (catS ps1) t) := by
  unfold Spec
  k_fill
  intro mean mg mb dp un gd cn cs a ccd cl outer A₀ base h₀ L m s Q E B F X N T hk hd hu hret
  refine wpAny_call ?_
  k_dflt cell_enter

  k_steps
  refine Blk.mk ?_
  k_dflt (refine' sub_wp (x := x) ?F ?N ?X (tgt76 w _ _) (chk76 w _ _ _ _) (sub76 w _ _ _) r2 hx hw2 hn2 ?_)
  (case F => k_asm)
  (case N => exact News.nil)
  (case X => k_in)
  intro h2 tk2 t2 F2 N2
  k_steps
  refine Blk.mk ?_
  k_dflt (refine' sub_wp (x := catS ps2) ?F ?N ?X (tgt71 w _ _) (chk71 w _ _ _ _) (sub71 w _ _ _) r1 hx2 hw1 hn1 ?_)
  (case F => k_asm)
  (case N => exact News.nil)
  (case X => k_in)
  intro h3 tk3 t3 F3 N3
  k_steps
  exact hret _ _ _ _ ⟨rfl, _, rfl⟩ (by assumption) News.nil (After.old (by assumption) (by assumption) (by simp))
end
local macro_rules | `(tactic| walk_at "idle35") => `(tactic| skip)
local macro_rules | `(tactic| walk_at "idle36") => `(tactic| skip)
local macro_rules | `(tactic| walk_at "idle37") => `(tactic| skip)
section
theorem wipeRP : True := by k_with_none; w_top off; trivial
theorem catS_cps : ∀ ps : List Str, (catS ps).cps = (ps.flatMap (·.cps.toList)).toArray
  | [] => rfl
  | x :: r => by
    have e : catS (x :: r) = x ++ catS r := by
      have h1 : ∀ l, catS l = Str.join ⟨#[]⟩ l := fun l => beq_iff_eq.mp (join_closes rfl)
      rw [h1, h1]
      exact PyProof.Rows.join_nil_cons x r
    have e2 : (x ++ catS r).cps = x.cps ++ (catS r).cps := rfl
    rw [e, e2, catS_cps r, List.flatMap_cons]
    apply Array.toList_inj.mp
    simp
def mailL : List (Nat × List Nat) → List Nat
  | [] => []
  | (d, e) :: r => List.replicate d 46 ++ (e ++ mailL r)
def EolOk (e : List Nat) : Prop := e = [10] ∨ e = [13, 10] ∨ e = [13]
def strL (l : List Nat) : Str := ⟨l.toArray⟩
theorem getD_at (pre mid : List Nat) (j : Nat) : (pre ++ mid).toArray.getD (pre.length + j) 0 = mid.getD j 0 := by
  rw [Array.getD_eq_getD_getElem?, List.getElem?_toArray, List.getElem?_append_right (Nat.le_add_right _ _), Nat.add_sub_cancel_left, List.getD_eq_getElem?_getD]
theorem ext_at (pre mid post : List Nat) : (⟨(pre ++ (mid ++ post)).toArray.extract pre.length (pre.length + mid.length)⟩ : Str) = strL mid := by
  unfold strL
  congr 1
  rw [List.extract_toArray]
  congr 1
  rw [List.extract_eq_take_drop]
  simp
theorem size_at (l : List Nat) : l.toArray.size = l.length := List.size_toArray
def crlfL : List Nat := [13, 10]
def psB : List (Nat × List Nat) → List Str
  | [] => []
  | (d, _) :: r => [strL (List.replicate d 46)] ++ strL crlfL :: psB r
theorem runB : ∀ (rows : List (Nat × List Nat)) (pre : List Nat), (∀ r ∈ rows, 0 < r.1 ∧ EolOk r.2) → (pre ++ mailL rows).length ≤ 4096 → Run codeB (strL (pre ++ mailL rows)) (strL crlfL) pre.length (psB rows)
  | [], pre, _, _ => by
    have h := Run.stop (code := codeB) (x := strL (pre ++ mailL [])) (y := strL crlfL) (pos := pre.length) (by
      have hsz : (strL (pre ++ mailL [])).cps.size = pre.length := by simp [strL, mailL]
      obtain ⟨n, m, hn, e, ha⟩ := overB (strL (pre ++ mailL [])).cps
      rw [hsz] at e
      exact ⟨n, m, by omega, by rw [hsz]; exact e, ha⟩)
    rw [if_neg (by simp [strL, mailL])] at h
    exact h
  | (d, e) :: r, pre, hr, hl => by
    obtain ⟨hd, he⟩ := hr (d, e) (List.Mem.head _)
    dsimp only at hd he
    have hx : pre ++ mailL ((d, e) :: r) = pre ++ (List.replicate d 46 ++ (e ++ mailL r)) := rfl
    have hlen : (pre ++ mailL ((d, e) :: r)).length = pre.length + (d + (e.length + (mailL r).length)) := by rw [hx]; simp
    have hsz : (strL (pre ++ mailL ((d, e) :: r))).cps.size = pre.length + (d + (e.length + (mailL r).length)) := by rw [← hlen]; exact size_at _
    have hg : ∀ j, (strL (pre ++ mailL ((d, e) :: r))).cps.getD (pre.length + j) 0 = (List.replicate d 46 ++ (e ++ mailL r)).getD j 0 := fun j => by rw [hx]; exact getD_at _ _ j
    have hdot : ∀ j, j < d → (List.replicate d 46 ++ (e ++ mailL r)).getD j 0 = 46 := fun j hj => by
      rw [List.getD_eq_getElem?_getD, List.getElem?_append_left (by simpa using hj), List.getElem?_replicate, if_pos hj]; rfl
    have hend : ∀ j, (List.replicate d 46 ++ (e ++ mailL r)).getD (d + j) 0 = (e ++ mailL r).getD j 0 := fun j => by
      rw [List.getD_eq_getElem?_getD, List.getElem?_append_right (by simp), List.length_replicate, Nat.add_sub_cancel_left, ← List.getD_eq_getElem?_getD]
    have he0 : 0 < e.length := by rcases he with rfl | rfl | rfl <;> decide
    have hhit : hitB (strL (pre ++ mailL ((d, e) :: r))).cps (pre.length + d) := by
      refine ⟨by omega, ?_⟩
      rw [show pre.length + d = pre.length + (d + 0) by omega, hg, hend]
      rcases he with rfl | rfl | rfl
      · exact .inl rfl
      · exact .inr rfl
      · exact .inr rfl
    have heol : eolB (strL (pre ++ mailL ((d, e) :: r))).cps (pre.length + d) = pre.length + d + e.length := by
      unfold eolB
      rw [show pre.length + d + 1 = pre.length + (d + 1) by omega, show pre.length + d = pre.length + (d + 0) by omega, hg, hg, hend, hend]
      rcases he with rfl | rfl | rfl
      · rw [if_neg (by intro h; have h1 : (10 : Nat) = 13 := h.1; exact absurd h1 (by decide))]; rfl
      · rw [if_pos ⟨rfl, by rw [hsz]; show pre.length + (d + 1) < pre.length + (d + (2 + (mailL r).length)); omega, rfl⟩]; rfl
      · rw [if_neg]
        · rfl
        · rintro ⟨-, -, h⟩
          cases r with
          | nil =>
            have h1 : (0 : Nat) = 10 := h
            exact absurd h1 (by decide)
          | cons q r =>
            obtain ⟨d2, e2⟩ := q
            have hd2 := (hr (d2, e2) (List.Mem.tail _ (List.Mem.head _))).1
            obtain ⟨d3, rfl⟩ : ∃ d3, d2 = d3 + 1 := ⟨d2 - 1, by dsimp only at hd2; omega⟩
            have h1 : (46 : Nat) = 10 := h
            exact absurd h1 (by decide)
    obtain ⟨n, m, hn, em, ha⟩ := findB (strL (pre ++ mailL ((d, e) :: r))).cps pre.length d (by omega) (fun j hj h => by
      have h2 := h.2
      rw [hg, hdot j hj] at h2
      exact absurd h2 (by decide)) hhit
    rw [heol] at ha
    have ih := runB r (pre ++ List.replicate d 46 ++ e) (fun q hq => hr q (List.Mem.tail _ hq)) (by rw [List.append_assoc, List.append_assoc, ← hx]; exact hl)
    have l1 : pre ++ List.replicate d 46 ++ e ++ mailL r = pre ++ mailL ((d, e) :: r) := by rw [hx]; simp
    have l2 : (pre ++ List.replicate d 46 ++ e).length = pre.length + d + e.length := by simp only [List.length_append, List.length_replicate]
    rw [l1, l2] at ih
    have z := Run.hit (pos := pre.length) (a := pre.length + d) ⟨n, m, by omega, em, ha⟩ (by omega) ih
    rw [if_pos (by omega)] at z
    have e4 : (⟨(strL (pre ++ mailL ((d, e) :: r))).cps.extract pre.length (pre.length + d)⟩ : Str) = strL (List.replicate d 46) := by
      have := ext_at pre (List.replicate d 46) (e ++ mailL r)
      rw [List.length_replicate] at this
      exact this
    rw [e4] at z
    exact z
def crRows (rows : List (Nat × List Nat)) : List (Nat × List Nat) := rows.map fun r => (r.1, crlfL)
theorem catB : ∀ rows : List (Nat × List Nat), (psB rows).flatMap (·.cps.toList) = mailL (crRows rows)
  | [] => rfl
  | (d, e) :: r => by
    show ([strL (List.replicate d 46)] ++ strL crlfL :: psB r).flatMap _ = List.replicate d 46 ++ (crlfL ++ mailL (crRows r))
    rw [← catB r]
    simp [strL]
def psT : Nat → List (Nat × List Nat) → List Str
  | d, [] => [strL (List.replicate d 46 ++ crlfL)]
  | d, (d2, _) :: r => [strL (List.replicate d 46 ++ crlfL)] ++ strL [46, 46] :: psT (d2 - 1) r
def psA : List (Nat × List Nat) → List Str
  | [] => []
  | (d, _) :: r => [] ++ strL [46, 46] :: psT (d - 1) r
theorem missA_at (pre : List Nat) (d : Nat) (post : List Nat) (j : Nat) (hj : j < d + 2) : hitA (pre ++ [46] ++ (List.replicate d 46 ++ (crlfL ++ post))).toArray ((List.length (pre ++ [46])) + j) = false := by
  have hg : ∀ j, (pre ++ [46] ++ (List.replicate d 46 ++ (crlfL ++ post))).toArray.getD ((List.length (pre ++ [46])) + j) 0 = (List.replicate d 46 ++ (crlfL ++ post)).getD j 0 := fun j => getD_at _ _ j
  have hdot : ∀ j, j < d → (List.replicate d 46 ++ (crlfL ++ post)).getD j 0 = 46 := fun j hj => by
    rw [List.getD_eq_getElem?_getD, List.getElem?_append_left (by simpa using hj), List.getElem?_replicate, if_pos hj]; rfl
  have hend : ∀ j, (List.replicate d 46 ++ (crlfL ++ post)).getD (d + j) 0 = (crlfL ++ post).getD j 0 := fun j => by
    rw [List.getD_eq_getElem?_getD, List.getElem?_append_right (by simp), List.length_replicate, Nat.add_sub_cancel_left, ← List.getD_eq_getElem?_getD]
  have hlast : (pre ++ [46] ++ (List.replicate d 46 ++ (crlfL ++ post))).toArray.getD ((List.length (pre ++ [46])) + 0 - 1) 0 = 46 := by
    have := getD_at pre ([46] ++ (List.replicate d 46 ++ (crlfL ++ post))) 0
    rw [List.length_append, List.length_singleton, Nat.add_zero, Nat.add_sub_cancel, List.append_assoc]
    rw [Nat.add_zero] at this
    exact this
  unfold hitA
  rcases Nat.lt_or_ge d j with h | h
  · have : j = d + 1 := by omega
    subst this
    rw [hg, hend]
    show (_ && (_ && ((10 : Nat) == 46))) = false
    simp
  · rcases Nat.lt_or_ge j d with h2 | h2
    · have hb : bolB (pre ++ [46] ++ (List.replicate d 46 ++ (crlfL ++ post))).toArray ((List.length (pre ++ [46])) + j) = false := by
        unfold bolB
        have h0 : ((List.length (pre ++ [46])) + j == 0) = false := by simp
        rw [h0]
        cases j with
        | zero => rw [hlast]; rfl
        | succ j =>
          rw [show (List.length (pre ++ [46])) + (j + 1) - 1 = (List.length (pre ++ [46])) + j by omega, hg, hdot j (by omega)]
          rfl
      rw [hb]
      rfl
    · have : j = d := by omega
      subst this
      have e0 : List.getD (List.replicate j 46 ++ (crlfL ++ post)) j 0 = List.getD (List.replicate j 46 ++ (crlfL ++ post)) (j + 0) 0 := rfl
      rw [hg, e0, hend]
      show (_ && (_ && ((13 : Nat) == 46))) = false
      simp
theorem runT : ∀ (r : List (Nat × List Nat)) (d : Nat) (pre : List Nat), (∀ q ∈ r, 0 < q.1 ∧ q.2 = crlfL) → (pre ++ [46] ++ (List.replicate d 46 ++ (crlfL ++ mailL r))).length ≤ 4096 → Run codeA (strL (pre ++ [46] ++ (List.replicate d 46 ++ (crlfL ++ mailL r)))) (strL [46, 46]) (List.length (pre ++ [46])) (psT d r)
  | [], d, pre, _, hl => by
    have hsz : (strL (pre ++ [46] ++ (List.replicate d 46 ++ (crlfL ++ mailL [])))).cps.size = (List.length (pre ++ [46])) + (d + 2) := by
      show (pre ++ [46] ++ (List.replicate d 46 ++ (crlfL ++ mailL []))).toArray.size = _
      rw [size_at, List.length_append, List.length_append (as := List.replicate d 46), List.length_replicate]; rfl
    rw [← size_at] at hl
    have hl2 : (List.length (pre ++ [46])) + (d + 2) ≤ 4096 := hsz ▸ hl
    obtain ⟨n, m, hn, em, ha⟩ := missA (strL (pre ++ [46] ++ (List.replicate d 46 ++ (crlfL ++ mailL [])))).cps (List.length (pre ++ [46])) (d + 2) (by omega) hsz.symm (fun j hj => missA_at pre d (mailL []) j hj)
    have z := Run.stop (y := strL [46, 46]) ⟨n, m, by omega, em, ha⟩
    rw [if_pos (by rw [hsz]; omega), hsz] at z
    have e4 := ext_at (pre ++ [46]) (List.replicate d 46 ++ crlfL) []
    rw [List.append_nil, List.length_append (as := List.replicate d 46), List.length_replicate] at e4
    have e5 : (⟨(strL (pre ++ [46] ++ (List.replicate d 46 ++ (crlfL ++ mailL [])))).cps.extract (List.length (pre ++ [46])) ((List.length (pre ++ [46])) + (d + 2))⟩ : Str) = strL (List.replicate d 46 ++ crlfL) := e4
    rw [e5] at z
    exact z
  | (d2, e2) :: r, d, pre, hr, hl => by
    obtain ⟨hd2, he2⟩ := hr (d2, e2) (List.Mem.head _)
    dsimp only at hd2 he2
    subst he2
    obtain ⟨d3, rfl⟩ : ∃ d3, d2 = d3 + 1 := ⟨d2 - 1, by omega⟩
    have hx : pre ++ [46] ++ (List.replicate d 46 ++ (crlfL ++ mailL ((d3 + 1, crlfL) :: r))) = (pre ++ [46] ++ (List.replicate d 46 ++ crlfL)) ++ [46] ++ (List.replicate d3 46 ++ (crlfL ++ mailL r)) := by
      show pre ++ [46] ++ (List.replicate d 46 ++ (crlfL ++ (List.replicate (d3 + 1) 46 ++ (crlfL ++ mailL r)))) = _
      rw [List.replicate_succ]
      simp
    have hP : (pre ++ [46] ++ (List.replicate d 46 ++ crlfL)).length = (List.length (pre ++ [46])) + (d + 2) := by
      rw [List.length_append, List.length_append (as := List.replicate d 46), List.length_replicate]; rfl
    have hhit : hitA (strL (pre ++ [46] ++ (List.replicate d 46 ++ (crlfL ++ mailL ((d3 + 1, crlfL) :: r))))).cps ((List.length (pre ++ [46])) + (d + 2)) = true := by
      rw [← hP, hx]
      unfold hitA bolB
      have g1 := getD_at (pre ++ [46] ++ (List.replicate d 46 ++ crlfL)) ([46] ++ (List.replicate d3 46 ++ (crlfL ++ mailL r))) 0
      have g2 := getD_at (pre ++ [46] ++ (List.replicate d 46 ++ [13])) ([10] ++ ([46] ++ (List.replicate d3 46 ++ (crlfL ++ mailL r)))) 0
      have e2 : pre ++ [46] ++ (List.replicate d 46 ++ [13]) ++ ([10] ++ ([46] ++ (List.replicate d3 46 ++ (crlfL ++ mailL r)))) = pre ++ [46] ++ (List.replicate d 46 ++ crlfL) ++ [46] ++ (List.replicate d3 46 ++ (crlfL ++ mailL r)) := by simp [crlfL]
      have e3 : (pre ++ [46] ++ (List.replicate d 46 ++ [13])).length + 0 = (pre ++ [46] ++ (List.replicate d 46 ++ crlfL)).length - 1 := by simp [crlfL]
      rw [e2, e3] at g2
      rw [Nat.add_zero, ← List.append_assoc] at g1
      show ((_ == 0 || (Array.getD _ _ _) == 10) && (decide (_ < (_ : Array Nat).size) && (Array.getD _ _ _) == 46)) = true
      unfold strL
      rw [g1, g2, size_at]
      have : (pre ++ [46] ++ (List.replicate d 46 ++ crlfL)).length < (pre ++ [46] ++ (List.replicate d 46 ++ crlfL) ++ [46] ++ (List.replicate d3 46 ++ (crlfL ++ mailL r))).length := by
        rw [List.length_append (as := pre ++ [46] ++ (List.replicate d 46 ++ crlfL) ++ [46]), List.length_append (as := pre ++ [46] ++ (List.replicate d 46 ++ crlfL)), List.length_singleton]
        omega
      rw [decide_eq_true this]
      show ((_ || true) && (true && true)) = true
      simp
    have hlt : (List.length (pre ++ [46])) + (d + 2) < (strL (pre ++ [46] ++ (List.replicate d 46 ++ (crlfL ++ mailL ((d3 + 1, crlfL) :: r))))).cps.size := by
      unfold hitA at hhit
      simp only [Bool.and_eq_true, decide_eq_true_eq] at hhit
      exact hhit.2.1
    obtain ⟨n, m, hn, em, ha⟩ := findA (strL (pre ++ [46] ++ (List.replicate d 46 ++ (crlfL ++ mailL ((d3 + 1, crlfL) :: r))))).cps (List.length (pre ++ [46])) (d + 2) hlt (fun j hj => missA_at pre d _ j hj) hhit
    have ih := runT r d3 (pre ++ [46] ++ (List.replicate d 46 ++ crlfL)) (fun q hq => hr q (List.Mem.tail _ hq)) (by rw [← hx]; exact hl)
    rw [← hx] at ih
    have hP1 : (pre ++ [46] ++ (List.replicate d 46 ++ crlfL) ++ [46]).length = (List.length (pre ++ [46])) + (d + 2) + 1 := by rw [List.length_append, hP]; rfl
    rw [hP1] at ih
    rw [← size_at] at hl
    have hlt2 : (List.length (pre ++ [46])) + (d + 2) < 4096 := Nat.lt_of_lt_of_le hlt hl
    have z := Run.hit (pos := (List.length (pre ++ [46]))) (a := (List.length (pre ++ [46])) + (d + 2)) ⟨n, m, by omega, em, ha⟩ (by omega) ih
    rw [if_pos (by omega)] at z
    have e4 := ext_at (pre ++ [46]) (List.replicate d 46 ++ crlfL) (mailL ((d3 + 1, crlfL) :: r))
    rw [List.length_append (as := List.replicate d 46), List.length_replicate, List.append_assoc (List.replicate d 46)] at e4
    have e5 : (⟨(strL (pre ++ [46] ++ (List.replicate d 46 ++ (crlfL ++ mailL ((d3 + 1, crlfL) :: r))))).cps.extract (List.length (pre ++ [46])) ((List.length (pre ++ [46])) + (d + 2))⟩ : Str) = strL (List.replicate d 46 ++ crlfL) := e4
    rw [e5] at z
    exact z
end
local macro_rules | `(tactic| walk_at "idle38") => `(tactic| skip)
section
theorem wipeRQ : True := by k_with_none; w_top off; trivial
theorem runA (d : Nat) (r : List (Nat × List Nat)) (hr : ∀ q ∈ (d, crlfL) :: r, 0 < q.1 ∧ q.2 = crlfL) (hl : (mailL ((d, crlfL) :: r)).length ≤ 4096) : Run codeA (strL (mailL ((d, crlfL) :: r))) (strL [46, 46]) 0 (psA ((d, crlfL) :: r)) := by
  obtain ⟨d3, rfl⟩ : ∃ d3, d = d3 + 1 := ⟨d - 1, by have := (hr _ (List.Mem.head _)).1; dsimp only at this; omega⟩
  have hx : mailL ((d3 + 1, crlfL) :: r) = [] ++ [46] ++ (List.replicate d3 46 ++ (crlfL ++ mailL r)) := by
    show List.replicate (d3 + 1) 46 ++ (crlfL ++ mailL r) = _
    rw [List.replicate_succ]; rfl
  have hsz : 0 < (strL (mailL ((d3 + 1, crlfL) :: r))).cps.size := by rw [hx]; show 0 < ([] ++ [46] ++ (List.replicate d3 46 ++ (crlfL ++ mailL r))).toArray.size; rw [size_at]; exact Nat.succ_pos _
  have hhit : hitA (strL (mailL ((d3 + 1, crlfL) :: r))).cps (0 + 0) = true := by
    unfold hitA
    rw [decide_eq_true (show 0 + 0 < _ from hsz)]
    rw [hx]
    have g := getD_at [] ([46] ++ (List.replicate d3 46 ++ (crlfL ++ mailL r))) 0
    have e : (strL ([] ++ [46] ++ (List.replicate d3 46 ++ (crlfL ++ mailL r)))).cps.getD (0 + 0) 0 = 46 := g
    rw [e]
    rfl
  obtain ⟨n, m, hn, em, ha⟩ := findA _ 0 0 (by simpa using hsz) (fun j hj => by omega) hhit
  have ih := runT r d3 [] (fun q hq => hr q (List.Mem.tail _ hq)) (by rw [← hx]; exact hl)
  rw [← hx] at ih
  have z := Run.hit (pos := 0) (a := 0) (b := 1) ⟨n, m, by omega, em, ha⟩ (by omega) ih
  rw [if_neg (by omega)] at z
  exact z
def upRows (rows : List (Nat × List Nat)) : List (Nat × List Nat) := rows.map fun r => (r.1 + 1, crlfL)
theorem catT : ∀ (r : List (Nat × List Nat)) (d : Nat), (∀ q ∈ r, 0 < q.1) → (psT d r).flatMap (·.cps.toList) = List.replicate d 46 ++ (crlfL ++ mailL (upRows r))
  | [], d, _ => by simp [psT, strL, mailL, upRows]
  | (d2, e2) :: r, d, h => by
    obtain ⟨d3, rfl⟩ : ∃ d3, d2 = d3 + 1 := ⟨d2 - 1, by have := h (d2, e2) (List.Mem.head _); dsimp only at this; omega⟩
    show ([strL (List.replicate d 46 ++ crlfL)] ++ strL [46, 46] :: psT d3 r).flatMap _ = List.replicate d 46 ++ (crlfL ++ (List.replicate (d3 + 1 + 1) 46 ++ (crlfL ++ mailL (upRows r))))
    rw [List.flatMap_append, List.flatMap_cons, List.flatMap_cons, catT r d3 fun q hq => h q (List.Mem.tail _ hq)]
    simp [strL, List.replicate_succ]
theorem catA : ∀ (rows : List (Nat × List Nat)), (∀ q ∈ rows, 0 < q.1) → (psA rows).flatMap (·.cps.toList) = mailL (upRows rows)
  | [], _ => rfl
  | (d, e) :: r, h => by
    obtain ⟨d3, rfl⟩ : ∃ d3, d = d3 + 1 := ⟨d - 1, by have := h (d, e) (List.Mem.head _); dsimp only at this; omega⟩
    show (strL [46, 46] :: psT d3 r).flatMap _ = List.replicate (d3 + 1 + 1) 46 ++ (crlfL ++ mailL (upRows r))
    rw [List.flatMap_cons, catT r d3 fun q hq => h q (List.Mem.tail _ hq)]
    simp [strL, List.replicate_succ]
theorem mailL_len : ∀ (rows : List (Nat × List Nat)) (b : Nat), (∀ r ∈ rows, r.1 ≤ b ∧ r.2.length ≤ 2) → (mailL rows).length ≤ rows.length * (b + 2)
  | [], b, _ => by simp [mailL]
  | (d, e) :: r, b, h => by
    have h0 := h (d, e) (List.Mem.head _)
    have ih := mailL_len r b fun q hq => h q (List.Mem.tail _ hq)
    show (List.replicate d 46 ++ (e ++ mailL r)).length ≤ (r.length + 1) * (b + 2)
    rw [List.length_append, List.length_append, List.length_replicate, Nat.add_mul]
    dsimp only at h0
    omega
theorem wB : ∀ (rows : List (Nat × List Nat)) (b : Nat), (∀ r ∈ rows, r.1 ≤ b) → ((psB rows).map (·.length)).sum + (psB rows).length ≤ rows.length * (b + 4)
  | [], b, _ => by simp [psB]
  | (d, e) :: r, b, h => by
    have h0 := h (d, e) (List.Mem.head _)
    have ih := wB r b fun q hq => h q (List.Mem.tail _ hq)
    show ((strL (List.replicate d 46) :: strL crlfL :: psB r).map (·.length)).sum + (strL (List.replicate d 46) :: strL crlfL :: psB r).length ≤ (r.length + 1) * (b + 4)
    have e1 : (strL (List.replicate d 46)).length = d := by show (List.replicate d 46).toArray.size = d; simp
    have e2 : (strL crlfL).length = 2 := rfl
    rw [List.map_cons, List.map_cons, List.sum_cons, List.sum_cons, List.length_cons, List.length_cons, e1, e2, Nat.add_mul]
    dsimp only at h0
    omega
theorem wT : ∀ (r : List (Nat × List Nat)) (d b : Nat), d ≤ b → (∀ q ∈ r, q.1 ≤ b) → ((psT d r).map (·.length)).sum + (psT d r).length ≤ (r.length + 1) * (b + 7)
  | [], d, b, hd, _ => by
    have e1 : (strL (List.replicate d 46 ++ crlfL)).length = d + 2 := by show (List.replicate d 46 ++ crlfL).toArray.size = d + 2; simp [crlfL]
    show ((strL (List.replicate d 46 ++ crlfL)).length + 0) + 1 ≤ _
    rw [e1]
    simp only [List.length_nil]
    omega
  | (d2, e2) :: r, d, b, hd, h => by
    have h0 := h (d2, e2) (List.Mem.head _)
    dsimp only at h0
    have ih := wT r (d2 - 1) b (by omega) fun q hq => h q (List.Mem.tail _ hq)
    show ((strL (List.replicate d 46 ++ crlfL) :: strL [46, 46] :: psT (d2 - 1) r).map (·.length)).sum + (strL (List.replicate d 46 ++ crlfL) :: strL [46, 46] :: psT (d2 - 1) r).length ≤ (r.length + 1 + 1) * (b + 7)
    have e1 : (strL (List.replicate d 46 ++ crlfL)).length = d + 2 := by show (List.replicate d 46 ++ crlfL).toArray.size = d + 2; simp [crlfL]
    have e2 : (strL [46, 46]).length = 2 := rfl
    rw [List.map_cons, List.map_cons, List.sum_cons, List.sum_cons, List.length_cons, List.length_cons, e1, e2, Nat.add_mul (r.length + 1)]
    omega
theorem crlf_eq : Str.ofString "\r\n" = strL crlfL := by decide +kernel
theorem dots_eq : Str.ofString ".." = strL [46, 46] := by decide +kernel
theorem cat_strL (ps : List Str) (l : List Nat) (h : ps.flatMap (·.cps.toList) = l) : catS ps = strL l := by
  have := catS_cps ps
  rw [h] at this
  show (⟨(catS ps).cps⟩ : Str) = _
  rw [this]; rfl
theorem quote_rows (w : World) (d : Nat) (e : List Nat) (r : List (Nat × List Nat)) (tx : Tok) (h : ∀ q ∈ (d, e) :: r, 0 < q.1 ∧ q.1 ≤ 40 ∧ EolOk q.2) (hr : r.length = 7) :
    Spec w 83 2 [.str (strL (mailL ((d, e) :: r))) tx] [] (fun v led' => led' = [] ∧ ∃ t, v = .str (strL (mailL (upRows ((d, e) :: r)))) t) := by
  have hE : ∀ x : List Nat, EolOk x → x.length ≤ 2 := fun x hx => by rcases hx with rfl | rfl | rfl <;> decide
  have l1 := mailL_len ((d, e) :: r) 40 fun q hq => ⟨(h q hq).2.1, hE _ (h q hq).2.2⟩
  have hc : ∀ q ∈ crRows ((d, e) :: r), 0 < q.1 ∧ q.1 ≤ 40 ∧ q.2 = crlfL := fun q hq => by
    obtain ⟨p, hp, rfl⟩ := List.mem_map.mp hq
    exact ⟨(h p hp).1, (h p hp).2.1, rfl⟩
  have l2 := mailL_len (crRows ((d, e) :: r)) 40 fun q hq => ⟨(hc q hq).2.1, by rw [(hc q hq).2.2]; decide⟩
  rw [List.length_cons, hr] at l1
  have l3 : (crRows ((d, e) :: r)).length = 8 := by unfold crRows; rw [List.length_map, List.length_cons, hr]
  rw [l3] at l2
  have r2 : Run codeB (strL (mailL ((d, e) :: r))) (Str.ofString "\r\n") 0 (psB ((d, e) :: r)) := by
    rw [crlf_eq]
    exact runB ((d, e) :: r) [] (fun q hq => ⟨(h q hq).1, (h q hq).2.2⟩) (by rw [List.nil_append]; omega)
  have c2 : catS (psB ((d, e) :: r)) = strL (mailL (crRows ((d, e) :: r))) := cat_strL _ _ (catB _)
  have r1 : Run codeA (catS (psB ((d, e) :: r))) (Str.ofString "..") 0 (psA (crRows ((d, e) :: r))) := by
    rw [c2, dots_eq]
    exact runA d (crRows r) (fun q hq => ⟨(hc q hq).1, (hc q hq).2.2⟩) (by exact Nat.le_trans l2 (by decide))
  have c1 : catS (psA (crRows ((d, e) :: r))) = strL (mailL (upRows ((d, e) :: r))) := by
    refine cat_strL _ _ ((catA _ fun q hq => (hc q hq).1).trans ?_)
    unfold upRows crRows
    rw [List.map_map]; rfl
  have w2 := wB ((d, e) :: r) 40 fun q hq => (h q hq).2.1
  have w1 := wT (crRows r) (d - 1) 40 (by have := (h (d, e) (List.Mem.head _)).2.1; dsimp only at this; omega) fun q hq => (hc q (List.Mem.tail _ hq)).2.1
  have l4 : (crRows r).length = 7 := by unfold crRows; rw [List.length_map, hr]
  rw [l4] at w1
  rw [List.length_cons, hr] at w2
  have w1' : ((psA (crRows ((d, e) :: r))).map (·.length)).sum + (psA (crRows ((d, e) :: r))).length ≤ 4096 := by
    show ((strL [46, 46] :: psT (d - 1) (crRows r)).map (·.length)).sum + (strL [46, 46] :: psT (d - 1) (crRows r)).length ≤ 4096
    have e2 : (strL [46, 46]).length = 2 := rfl
    rw [List.map_cons, List.sum_cons, List.length_cons, e2]
    omega
  have hx : (strL (mailL ((d, e) :: r))).cps.size ≤ 4096 := by show (mailL ((d, e) :: r)).toArray.size ≤ 4096; rw [size_at]; omega
  have hx2 : (catS (psB ((d, e) :: r))).cps.size ≤ 4096 := by rw [c2]; show (mailL (crRows ((d, e) :: r))).toArray.size ≤ 4096; rw [size_at]; omega
  have z := quote_spec w _ tx _ _ r2 r1 hx hx2 (by omega) w1' (by intro z; cases z) (by intro z; cases z)
  rw [c1] at z
  exact z
end
local macro_rules | `(tactic| walk_at "idle39") => `(tactic| skip)
section
theorem wipeM1 : True := by k_with_none; w_top off; trivial
def eolN (k : Int) : List Nat := if k = 0 then [10] else if k = 1 then [13, 10] else [13]
def mailRows (ns : List Int) (style : Int) : List (Nat × List Nat) := (ns.zipIdx).map fun p => ((p.1 + 1).toNat, eolN (((p.2 : Int) + style).fmod 3))
theorem get_in {ns : List Int} {a b : Int} (h : ∀ n ∈ ns, a ≤ n ∧ n ≤ b) {j : Nat} (hj : j < ns.length) : a ≤ ns.getD j 0 ∧ ns.getD j 0 ≤ b := by
  rw [List.getD_eq_getElem?_getD, List.getElem?_eq_getElem hj]
  exact h _ (List.getElem_mem hj)
theorem mail_small {ns : List Int} {style : Int} (hlen : ns.length = 8) (hb : ∀ n ∈ ns, 0 ≤ n ∧ n ≤ 10) (k : Nat) : (strL (mailL ((mailRows ns style).take k))).length ≤ 1000 := by
  show (mailL ((mailRows ns style).take k)).toArray.size ≤ 1000
  rw [size_at]
  have h := mailL_len ((mailRows ns style).take k) 11 (fun r hr => by
    obtain ⟨p, hp, rfl⟩ := List.mem_map.mp (List.mem_of_mem_take hr)
    have h1 := hb p.1 (by obtain ⟨a, b⟩ := p; exact List.fst_mem_of_mem_zipIdx hp)
    refine ⟨by show (p.1 + 1).toNat ≤ 11; omega, ?_⟩
    show (eolN _).length ≤ 2
    unfold eolN
    split
    · decide
    · split <;> decide)
  have h2 : ((mailRows ns style).take k).length ≤ 8 := by rw [List.length_take]; unfold mailRows; rw [List.length_map, List.length_zipIdx]; omega
  have h3 : ((mailRows ns style).take k).length * (11 + 2) ≤ 8 * (11 + 2) := Nat.mul_le_mul_right _ h2
  omega
theorem mail_append : ∀ (a b : List (Nat × List Nat)), mailL (a ++ b) = mailL a ++ mailL b
  | [], b => rfl
  | (d, e) :: a, b => by
    show List.replicate d 46 ++ (e ++ mailL (a ++ b)) = (List.replicate d 46 ++ (e ++ mailL a)) ++ mailL b
    rw [mail_append a b]; simp
theorem strL_append (a b : List Nat) : strL a ++ strL b = strL (a ++ b) := by
  show (⟨a.toArray ++ b.toArray⟩ : Str) = ⟨(a ++ b).toArray⟩
  rw [List.append_toArray]
theorem strL_of {t : Str} {l : List Nat} (h : t.cps.toList = l) : t = strL l := by
  obtain ⟨c⟩ := t
  subst h
  simp [strL]
theorem mail_step {ns : List Int} {style j : Int} {pj : List Int} {x7 y : Str} (hlen : ns.length = 8) (hb : ∀ n ∈ ns, 0 ≤ n ∧ n ≤ 10) (hj : j = 0 + (pj.length : Int)) (hjn : pj.length < 8) (hP : x7 = strL (mailL ((mailRows ns style).take pj.length))) (hy : y = strL (eolN ((j + style).fmod 3))) :
    x7 ++ (Txt.mul (Str.ofString ".") (ns.getD j.toNat 0 + 1) ++ y) = strL (mailL ((mailRows ns style).take (pj ++ [j]).length)) := by
  have hd : Str.ofString "." = ⟨#[46]⟩ := by decide +kernel
  have hjt : j.toNat = pj.length := by omega
  have e1 : Txt.mul (Str.ofString ".") (ns.getD j.toNat 0 + 1) = strL (List.replicate (ns.getD pj.length 0 + 1).toNat 46) := by
    rw [hd, hjt]
    exact strL_of (PyProof.Rows.mul_one_list 46 (ns.getD pj.length 0 + 1))
  have e2 : (mailRows ns style)[pj.length]? = some ((ns.getD pj.length 0 + 1).toNat, eolN ((j + style).fmod 3)) := by
    unfold mailRows
    have e3 : ns[pj.length]? = some (ns.getD pj.length 0) := by rw [List.getD_eq_getElem?_getD, List.getElem?_eq_getElem (by omega)]; rfl
    rw [List.getElem?_map, List.getElem?_zipIdx, e3, hj]
    rfl
  rw [e1, hP, hy, strL_append, strL_append, List.length_append, List.length_singleton, List.take_add_one, mail_append, e2]
  show _ = strL (_ ++ (List.replicate _ 46 ++ (_ ++ [])))
  rw [List.append_nil]
set_option maxHeartbeats 8000000 in

theorem mail_spec (w : World) (l : Addr) (vs : List Value) (ns : List Int) (c : Nat) (style : Int) (ts : Tok) (hi : IntsAre vs ns) (hlen : ns.length = 8) (hb : ∀ n ∈ ns, 0 ≤ n ∧ n ≤ 10) (hs : 0 ≤ style ∧ style ≤ 2) :
    Spec w 133 2 [.ref l, .int style ts] [(l, listOf vs.toArray c)] (fun v led' => led' = [(l, listOf vs.toArray c)] ∧ ∃ t, v = .str (strL (mailL (mailRows ns style))) t) := by
  unfold Spec
  k_fill
  intro mean mg mb dp un gd cn cs a ccd cl outer A₀ base h₀ L m s Q E B F X N T hk hd hu hret
  refine wpAny_call ?_
  k_dflt cell_enter

  k_steps
  refine Blk.mk ?_
  rename IsRange _ _ _ _ _ _ _ _ => rgX
  rename Fr _ _ _ _ => lF'
  rename News _ _ _ _ => lN'
  k_dflt (refine' kst_range (σ := Str × Tok) (n := 8) (fun e => [(l, listOf vs.toArray c)]) (fun e => [(Str.ofString "text", .str e.1 e.2)]) (fun e => True) [] (fun pj e => e.1 = strL (mailL ((mailRows ns style).take pj.length))) (Str.ofString "", _) ?ca1 rgX ?ca2 ?ca3 lF' lN' ?ca4 (List.forall_mem_cons.mpr ⟨rfl, List.forall_mem_nil _⟩) ?ca6 ?ca7 ?ca8)
  (case ca1 => exact rfl)
  (case ca2 => exact small_one (by omega) (by omega) (by omega) (by omega))
  (case ca3 => first | exact (by rw [hlen]; rfl) | trace_state)
  (case ca4 => exact trivial)
  (case ca6 => exact (by show Str.ofString "" = strL []; decide +kernel))
  (case ca7 =>
    rintro ⟨x7, t7⟩ pj j tj u5 h5 tk5 own5 hj hjn hown hf5 hP5 F5 N5
    dsimp only [kstB, List.cons_append, List.nil_append] at hP5 F5 N5
    have hv := get_in hb (show j.toNat < ns.length by omega)
    have hL : x7.length ≤ 1000 := by rw [hP5]; exact mail_small hlen hb _
    k_steps
    have hk3 : (j + style).fmod 3 = 0 ∨ (j + style).fmod 3 = 1 ∨ (j + style).fmod 3 = 2 := by rw [Int.fmod_eq_emod_of_nonneg _ (by decide)]; omega
    rcases hk3 with hk3 | hk3 | hk3
    all_goals rw [hk3]
    all_goals k_steps
    all_goals exact kst_end ((_, _)) (by assumption) (by assumption) (by k_allIn) (by intro p hp; k_ownIn) rfl trivial (List.forall_mem_cons.mpr ⟨rfl, List.forall_mem_nil _⟩) (by kst_same) (mail_step hlen hb hj hjn hP5 (by rw [hk3]; decide +kernel)))
  (case ca8 =>
    rintro ⟨x8, t8⟩ u8 h8 tk8 hf8 hP8 F8 N8
    dsimp only [kstB, List.cons_append, List.nil_append] at hP8 F8 N8
    rw [rangeKs_length, List.take_of_length_le (by unfold mailRows; rw [List.length_map, List.length_zipIdx, hlen]; omega)] at hP8
    subst hP8
    k_steps
    exact hret _ _ _ _ ⟨rfl, _, rfl⟩ (by assumption) (by assumption) (After.old (by assumption) (by assumption) (by simp)))
end
local macro_rules | `(tactic| walk_at "idle40") => `(tactic| skip)
section
theorem wipeR1 : True := by k_with_none; w_top off; trivial
set_option maxHeartbeats 8000000 in

theorem isterm_spec (w : World) (x : Int) (tx : Tok) : Spec w 93 1 [.int x tx] [] (fun v led' => led' = [] ∧ v = .bool (decide (x < 256))) := by
  unfold Spec
  k_fill
  intro mean mg mb dp un gd cn cs a ccd cl outer A₀ base h₀ L m s Q E B F X N T hk hd hu hret
  refine wpAny_call ?_
  k_dflt cell_enter
  k_steps
  exact hret _ _ _ _ ⟨rfl, rfl⟩ (by assumption) News.nil (After.old (by assumption) (by assumption) (by simp))
set_option maxHeartbeats 8000000 in

theorem isnon_spec (w : World) (x : Int) (tx : Tok) : Spec w 100 1 [.int x tx] [] (fun v led' => led' = [] ∧ v = .bool (decide (256 ≤ x))) := by
  unfold Spec
  k_fill
  intro mean mg mb dp un gd cn cs a ccd cl outer A₀ base h₀ L m s Q E B F X N T hk hd hu hret
  refine wpAny_call ?_
  k_dflt cell_enter
  k_steps
  exact hret _ _ _ _ ⟨rfl, rfl⟩ (by assumption) News.nil (After.old (by assumption) (by assumption) (by simp))
set_option maxHeartbeats 8000000 in

theorem iseof_spec (w : World) (x : Int) (tx : Tok) : Spec w 107 1 [.int x tx] [] (fun v led' => led' = [] ∧ v = .bool (decide (x = 0))) := by
  unfold Spec
  k_fill
  intro mean mg mb dp un gd cn cs a ccd cl outer A₀ base h₀ L m s Q E B F X N T hk hd hu hret
  refine wpAny_call ?_
  k_dflt cell_enter
  k_steps
  exact hret _ _ _ _ ⟨rfl, rfl⟩ (by assumption) News.nil (After.old (by assumption) (by assumption) (by simp))
end
local macro_rules | `(tactic| walk_at "idle41") => `(tactic| skip)
section
theorem wipeRL : True := by k_with_none; w_top off; trivial
theorem slice_at (A B : List Nat) (t : Nat) : Txt.slice (strL (A ++ B)) (some (A.length : Int)) (some ((A.length : Int) + t)) = strL (B.take t) := by
  have hl : (strL (A ++ B)).cps.toList.length = A.length + B.length := by simp [strL]
  by_cases h : t ≤ B.length
  · have := beq_iff_eq.mp (slice_closes (x := strL (A ++ B)) (i := (A.length : Int)) (j := (A.length : Int) + t) ⟨by omega, by omega, by rw [hl]; omega⟩)
    rw [this, show ((A.length : Int) + t - A.length).toNat = t by omega, Int.toNat_natCast]
    show (⟨(((A ++ B).toArray.toList.drop A.length).take t).toArray⟩ : Str) = ⟨(B.take t).toArray⟩
    rw [List.drop_left]
  · have e : Builtin.Str.strSliceIndices (some (A.length : Int)) (some ((A.length : Int) + t)) 1 (strL (A ++ B)).length = Builtin.Str.strSliceIndices (some (A.length : Int)) (some ((A.length : Int) + B.length)) 1 (strL (A ++ B)).length := by
      have hl2 : (strL (A ++ B)).length = A.length + B.length := by rw [← hl]; exact (Array.length_toList).symm
      rw [hl2]
      unfold Builtin.Str.strSliceIndices
      have e1 : ¬ ((A.length : Int) + (t : Int) < 0) := by omega
      have e2 : ¬ ((A.length : Int) + (B.length : Int) < 0) := by omega
      have e3 : min ((A.length : Int) + (t : Int)) ((A.length + B.length : Nat) : Int) = min ((A.length : Int) + (B.length : Int)) ((A.length + B.length : Nat) : Int) := by omega
      dsimp only
      rw [if_neg e1, if_neg e2, e3]
      simp only [if_pos (show (1 : Int) > 0 by decide)]
    unfold Txt.slice
    rw [e]
    have := beq_iff_eq.mp (slice_closes (x := strL (A ++ B)) (i := (A.length : Int)) (j := (A.length : Int) + B.length) ⟨by omega, by omega, by rw [hl]; omega⟩)
    unfold Txt.slice at this
    rw [this, show ((A.length : Int) + B.length - A.length).toNat = B.length by omega, Int.toNat_natCast]
    show (⟨(((A ++ B).toArray.toList.drop A.length).take B.length).toArray⟩ : Str) = ⟨(B.take t).toArray⟩
    rw [List.drop_left, List.take_of_length_le (Nat.le_refl _), List.take_of_length_le (by omega)]
def wt (t : Int) : Int := if t = 52 then 3 else 1
def txt (ds : List Nat) : List Nat := mailL (ds.map fun d => (d, crlfL))
def base (ds : List Nat) : List Int := ds.map fun (d : Nat) => 256 + (d : Int)
def At (ds : List Nat) (pile : List Int) (place : Int) : Prop := ∃ (pre post : List Nat) (c : Nat) (ts : List Int), ds = pre ++ post ∧ place = ((txt pre).length : Int) + c ∧ pile = base pre ++ ts ∧ (ts.map wt).sum = c ∧ (∀ t ∈ ts, t = 52 ∨ t = 23) ∧ c ≤ post.headD 0
theorem txt_append (a b : List Nat) : txt (a ++ b) = txt a ++ txt b := by unfold txt; rw [List.map_append, mail_append]
theorem txt_cons (d : Nat) (r : List Nat) : txt (d :: r) = List.replicate d 46 ++ (crlfL ++ txt r) := rfl
def hasT (ds : List Nat) (place t : Int) : Bool := (lookup (.str (Txt.slice (strL (txt ds)) (some place) (some (place + t)))) D84).isSome
theorem at_slice {pre r : List Nat} {d c t : Nat} (hc : c ≤ d) : Txt.slice (strL (txt (pre ++ d :: r))) (some (((txt pre).length : Int) + c)) (some (((txt pre).length : Int) + c + t)) = strL ((List.replicate (d - c) 46 ++ (crlfL ++ txt r)).take t) := by
  have h := slice_at (txt pre ++ List.replicate c 46) (List.replicate (d - c) 46 ++ (crlfL ++ txt r)) t
  rw [List.length_append, List.length_replicate] at h
  have : List.replicate d 46 = List.replicate c 46 ++ List.replicate (d - c) 46 := by rw [List.replicate_append_replicate]; congr 1; omega
  rw [txt_append, txt_cons, this, List.append_assoc, ← List.append_assoc (txt pre)]
  exact h
theorem take_law {ds : List Nat} {pile : List Int} {place take : Int} (hd : ∀ d ∈ ds, 0 < d) (h : At ds pile place) (hp : place < ((txt ds).length : Int)) (h03 : 0 ≤ take ∧ take ≤ 3) (hN : ∀ t : Int, take < t → t ≤ 3 → hasT ds place t = false) (hE : take = 0 ∨ hasT ds place take = true) :
    ∃ (pre : List Nat) (d : Nat) (r : List Nat) (c : Nat) (ts : List Int), ds = pre ++ d :: r ∧ place = ((txt pre).length : Int) + c ∧ pile = base pre ++ ts ∧ (ts.map wt).sum = c ∧ (∀ t ∈ ts, t = 52 ∨ t = 23) ∧
      ((take = 3 ∧ c + 3 ≤ d ∧ Txt.slice (strL (txt ds)) (some place) (some (place + take)) = Str.ofString "...") ∨ (take = 1 ∧ c + 1 ≤ d ∧ Txt.slice (strL (txt ds)) (some place) (some (place + take)) = Str.ofString ".") ∨ (take = 0 ∧ c = d)) := by
  obtain ⟨pre, post, c, ts, rfl, rfl, rfl, hw, ht, hc⟩ := h
  cases post with
  | nil =>
    have : c = 0 := by simpa using hc
    subst this
    rw [List.append_nil] at hp
    omega
  | cons d r =>
    have hc : c ≤ d := hc
    have hs : ∀ t : Nat, Txt.slice (strL (txt (pre ++ d :: r))) (some (((txt pre).length : Int) + c)) (some (((txt pre).length : Int) + c + t)) = strL ((List.replicate (d - c) 46 ++ (crlfL ++ txt r)).take t) := fun t => at_slice hc
    refine ⟨pre, d, r, c, ts, rfl, rfl, rfl, hw, ht, ?_⟩
    have hT : ∀ t : Nat, hasT (pre ++ d :: r) (((txt pre).length : Int) + c) t = (lookup (.str (strL ((List.replicate (d - c) 46 ++ (crlfL ++ txt r)).take t))) D84).isSome := fun t => by unfold hasT; rw [hs t]
    have hcase : take = 0 ∨ take = 1 ∨ take = 2 ∨ take = 3 := by omega
    have hr0 : (txt r).take 1 = [] ∨ (txt r).take 1 = [46] := by
      cases r with
      | nil => exact .inl rfl
      | cons d2 r =>
        have h2 := hd d2 (by simp)
        obtain ⟨d3, rfl⟩ : ∃ d3, d2 = d3 + 1 := ⟨d2 - 1, by omega⟩
        exact .inr rfl
    have k3 : hasT (pre ++ d :: r) (((txt pre).length : Int) + c) 3 = _ := hT 3
    have k2 : hasT (pre ++ d :: r) (((txt pre).length : Int) + c) 2 = _ := hT 2
    have k1 : hasT (pre ++ d :: r) (((txt pre).length : Int) + c) 1 = _ := hT 1
    have s3 := hs 3
    have s1 := hs 1
    rcases Nat.lt_or_ge (d - c) 3 with hlt | hge
    · have : d - c = 0 ∨ d - c = 1 ∨ d - c = 2 := by omega
      rcases this with e | e | e
      · rw [e] at k3 k2 k1
        have z3 : (List.replicate 0 46 ++ (crlfL ++ txt r)).take 3 = crlfL ++ (txt r).take 1 := rfl
        rw [z3] at k3
        have f3 : hasT (pre ++ d :: r) (((txt pre).length : Int) + c) 3 = false := by rw [k3]; rcases hr0 with q | q <;> rw [q] <;> decide +kernel
        have f2 : hasT (pre ++ d :: r) (((txt pre).length : Int) + c) 2 = false := by rw [k2]; show (lookup (.str (strL crlfL)) D84).isSome = false; decide +kernel
        have f1 : hasT (pre ++ d :: r) (((txt pre).length : Int) + c) 1 = false := by rw [k1]; show (lookup (.str (strL [13])) D84).isSome = false; decide +kernel
        rcases hcase with q | q | q | q
        · exact .inr (.inr ⟨q, by omega⟩)
        · subst q; rw [f1] at hE; exact absurd hE (by simp)
        · subst q; rw [f2] at hE; exact absurd hE (by simp)
        · subst q; rw [f3] at hE; exact absurd hE (by simp)
      · rw [e] at k3 k2 k1 s1
        have f3 : hasT (pre ++ d :: r) (((txt pre).length : Int) + c) 3 = false := by rw [k3]; show (lookup (.str (strL [46, 13, 10])) D84).isSome = false; decide +kernel
        have f2 : hasT (pre ++ d :: r) (((txt pre).length : Int) + c) 2 = false := by rw [k2]; show (lookup (.str (strL [46, 13])) D84).isSome = false; decide +kernel
        have f1 : hasT (pre ++ d :: r) (((txt pre).length : Int) + c) 1 = true := by rw [k1]; show (lookup (.str (strL [46])) D84).isSome = true; decide +kernel
        rcases hcase with q | q | q | q
        · have := hN 1 (by omega) (by omega); rw [f1] at this; exact absurd this (by decide)
        · subst q; exact .inr (.inl ⟨rfl, by omega, s1.trans (by show strL [46] = _; decide +kernel)⟩)
        · subst q; rw [f2] at hE; exact absurd hE (by simp)
        · subst q; rw [f3] at hE; exact absurd hE (by simp)
      · rw [e] at k3 k2 k1 s1
        have f3 : hasT (pre ++ d :: r) (((txt pre).length : Int) + c) 3 = false := by rw [k3]; show (lookup (.str (strL [46, 46, 13])) D84).isSome = false; decide +kernel
        have f2 : hasT (pre ++ d :: r) (((txt pre).length : Int) + c) 2 = false := by rw [k2]; show (lookup (.str (strL [46, 46])) D84).isSome = false; decide +kernel
        have f1 : hasT (pre ++ d :: r) (((txt pre).length : Int) + c) 1 = true := by rw [k1]; show (lookup (.str (strL [46])) D84).isSome = true; decide +kernel
        rcases hcase with q | q | q | q
        · have := hN 1 (by omega) (by omega); rw [f1] at this; exact absurd this (by decide)
        · subst q; exact .inr (.inl ⟨rfl, by omega, s1.trans (by show strL [46] = _; decide +kernel)⟩)
        · subst q; rw [f2] at hE; exact absurd hE (by simp)
        · subst q; rw [f3] at hE; exact absurd hE (by simp)
    · obtain ⟨m, e⟩ : ∃ m, d - c = m + 1 + 1 + 1 := ⟨d - c - 3, by omega⟩
      rw [e] at k3 s3
      have z3 : (List.replicate (m + 1 + 1 + 1) 46 ++ (crlfL ++ txt r)).take 3 = [46, 46, 46] := rfl
      rw [z3] at k3 s3
      have f3 : hasT (pre ++ d :: r) (((txt pre).length : Int) + c) 3 = true := by rw [k3]; decide +kernel
      rcases hcase with q | q | q | q
      · have := hN 3 (by omega) (by omega); rw [f3] at this; exact absurd this (by decide)
      · have := hN 3 (by omega) (by omega); rw [f3] at this; exact absurd this (by decide)
      · have := hN 3 (by omega) (by omega); rw [f3] at this; exact absurd this (by decide)
      · subst q; exact .inl ⟨rfl, by omega, s3.trans (by decide +kernel)⟩
end
local macro_rules | `(tactic| walk_at "idle42") => `(tactic| skip)
section
theorem wipeR2 : True := by k_with_none; w_top off; trivial
theorem txt_le (ds : List Nat) : ds.length ≤ (txt ds).length := by
  induction ds with
  | nil => exact Nat.zero_le _
  | cons d r ih =>
    rw [txt_cons, List.length_append, List.length_append, List.length_cons]
    have : crlfL.length = 2 := rfl
    omega
theorem ts_len : ∀ ts : List Int, (ts.length : Int) ≤ (ts.map wt).sum
  | [] => Int.le_refl _
  | t :: ts => by
    have := ts_len ts
    have h : 1 ≤ wt t := by unfold wt; split <;> decide
    rw [List.map_cons, List.sum_cons, List.length_cons]
    omega
theorem at_bound {ds : List Nat} {pile : List Int} {place : Int} (h : At ds pile place) : 0 ≤ place ∧ (pile.length : Int) ≤ place ∧ place ≤ ((txt ds).length : Int) := by
  obtain ⟨pre, post, c, ts, rfl, rfl, rfl, hw, ht, hc⟩ := h
  have h1 := txt_le pre
  have h2 := ts_len ts
  have h3 : (base pre).length = pre.length := by unfold base; rw [List.length_map]
  have h4 : c ≤ (txt post).length := by
    cases post with
    | nil => have : c = 0 := by simpa using hc
             omega
    | cons d r =>
      have hc : c ≤ d := hc
      rw [txt_cons, List.length_append, List.length_replicate]
      omega
  rw [txt_append, List.length_append, List.length_append, h3]
  omega
theorem txt_small {ds : List Nat} (hlen : ds.length = 8) (hds : ∀ d ∈ ds, 0 < d ∧ d ≤ 40) : (txt ds).length ≤ 336 := by
  have := mailL_len (ds.map fun d => (d, crlfL)) 40 (fun r hr => by
    obtain ⟨d, hd, rfl⟩ := List.mem_map.mp hr
    exact ⟨(hds d hd).2, by show crlfL.length ≤ 2; decide⟩)
  rw [List.length_map, hlen] at this
  exact this
theorem at_three {pre r : List Nat} {d c : Nat} {ts : List Int} {n place : Int} (hn : n = 52 ∨ n = 23) (hp : place = ((txt pre).length : Int) + c) (hw : (ts.map wt).sum = c) (ht : ∀ t ∈ ts, t = 52 ∨ t = 23) (hc : (c : Int) + wt n ≤ d) : At (pre ++ d :: r) (base pre ++ ts ++ [n]) (place + wt n) := by
  have h : 1 ≤ wt n := by unfold wt; split <;> decide
  refine ⟨pre, d :: r, c + (wt n).toNat, ts ++ [n], rfl, by omega, by rw [List.append_assoc], ?_, ?_, ?_⟩
  · rw [List.map_append, List.sum_append, hw]
    show (c : Int) + (wt n + 0) = _
    omega
  · intro t h
    rcases List.mem_append.mp h with h | h
    · exact ht t h
    · rw [List.mem_singleton.mp h]; exact hn
  · show c + (wt n).toNat ≤ d
    omega
theorem at_row {pre r : List Nat} {d : Nat} {place n : Int} (hp : place = ((txt pre).length : Int) + d) (hn : n = 256 + (d : Int)) : At (pre ++ d :: r) (base pre ++ [n]) (place + 2) := by
  refine ⟨pre ++ [d], r, 0, [], by simp, ?_, ?_, rfl, by simp, Nat.zero_le _⟩
  · rw [txt_append, List.length_append]
    have : (txt [d]).length = d + 2 := by rw [txt_cons, List.length_append, List.length_replicate]; rfl
    omega
  · unfold base
    rw [List.map_append, List.append_nil, hn]; rfl
theorem last_at {l : List Int} : l.getD (-1 + (l.length : Int)).toNat 0 = l.getLastD 0 := by
  rw [List.getLastD_eq_getLast?, List.getLast?_eq_getElem?, List.getD_eq_getElem?_getD, show (-1 + (l.length : Int)).toNat = l.length - 1 by omega]
theorem base_last : ∀ {pre : List Nat}, pre ≠ [] → 256 ≤ (Mine.base pre).getLastD 0
  | [], h => absurd rfl h
  | [d], _ => by show (256 : Int) ≤ 256 + (d : Int); omega
  | d :: e :: r, _ => by
    have := base_last (pre := e :: r) (by simp)
    show (256 : Int) ≤ (Mine.base (d :: e :: r)).getLastD 0
    rw [List.getLastD_eq_getLast?] at this ⊢
    exact this
theorem pop_law {pre : List Nat} {ts3 ns3 : List Int} {cnt c9 : Int} (he3 : ns3 = Mine.base pre ++ ts3) (hw3 : cnt + (ts3.map wt).sum = c9) (hts3 : ∀ t ∈ ts3, t = 52 ∨ t = 23) (hne : 0 < ns3.length) (hlt : ns3.getD (-1 + (ns3.length : Int)).toNat 0 < 256) :
    ∃ ts', ns3.dropLast = Mine.base pre ++ ts' ∧ cnt + wt (ns3.getLastD 0) + (ts'.map wt).sum = c9 ∧ ∀ t ∈ ts', t = 52 ∨ t = 23 := by
  rw [last_at] at hlt
  rcases List.eq_nil_or_concat ts3 with rfl | ⟨ts', t, rfl⟩
  · exfalso
    rw [List.append_nil] at he3
    subst he3
    have : pre ≠ [] := by rintro rfl; exact absurd hne (by decide)
    have := base_last this
    omega
  · simp only [List.concat_eq_append] at *
    rw [← List.append_assoc] at he3
    subst he3
    refine ⟨ts', by simp, ?_, fun t h => hts3 t (List.mem_append_left _ h)⟩
    rw [List.getLastD_concat]
    rw [List.map_append, List.sum_append] at hw3
    have e : ([t].map wt).sum = wt t + 0 := rfl
    rw [e] at hw3
    omega
theorem stay_law {pre : List Nat} {ts3 ns3 : List Int} {cnt c9 : Int} (he3 : ns3 = Mine.base pre ++ ts3) (hw3 : cnt + (ts3.map wt).sum = c9) (hts3 : ∀ t ∈ ts3, t = 52 ∨ t = 23) (h : ns3.length = 0 ∨ ¬ ns3.getD (-1 + (ns3.length : Int)).toNat 0 < 256) : ns3 = Mine.base pre ∧ cnt = c9 := by
  rcases List.eq_nil_or_concat ts3 with rfl | ⟨ts', t, rfl⟩
  · exact ⟨by rw [he3, List.append_nil], by simpa using hw3⟩
  · exfalso
    simp only [List.concat_eq_append] at *
    rw [← List.append_assoc] at he3
    have ht := hts3 t (by simp)
    subst he3
    rcases h with h | h
    · rw [List.length_append] at h; exact absurd h (by simp)
    · rw [last_at, List.getLastD_concat] at h; omega
theorem at_end {ds : List Nat} {pile : List Int} {place : Int} (h : At ds pile place) (hp : ¬ place < ((txt ds).length : Int)) : pile = Mine.base ds := by
  obtain ⟨pre, post, c, ts, rfl, rfl, rfl, hw, ht, hc⟩ := h
  cases post with
  | cons d r =>
    exfalso
    have hc : c ≤ d := hc
    have e : crlfL.length = 2 := rfl
    rw [txt_append, txt_cons, List.length_append, List.length_append, List.length_append, List.length_replicate, e] at hp
    omega
  | nil =>
    have : c = 0 := by simpa using hc
    subst this
    have h2 := ts_len ts
    have : ts = [] := List.length_eq_zero_iff.mp (by omega)
    rw [this, List.append_nil, List.append_nil]
def rowsI (ds : List Nat) : List Int := ds.map fun (d : Nat) => (d : Int)
theorem pile_in {ds : List Nat} {k : Nat} (hk : k < ds.length) : (Mine.base ds ++ [0]).getD k 0 = 256 + (rowsI ds).getD k 0 := by
  unfold Mine.base rowsI
  rw [List.getD_eq_getElem?_getD, List.getElem?_append_left (by rw [List.length_map]; exact hk), List.getD_eq_getElem?_getD, List.getElem?_map, List.getElem?_map, List.getElem?_eq_getElem hk]
  rfl
theorem pile_end {ds : List Nat} : (Mine.base ds ++ [0]).getD ds.length 0 = 0 := by
  have : (Mine.base ds).length = ds.length := by unfold Mine.base; rw [List.length_map]
  rw [List.getD_eq_getElem?_getD, List.getElem?_append_right (by omega), this, Nat.sub_self]
  rfl
theorem rows_nonneg {ds : List Nat} (k : Nat) : 0 ≤ (rowsI ds).getD k 0 := by
  unfold rowsI
  rw [List.getD_eq_getElem?_getD, List.getElem?_map]
  cases ds[k]? <;> simp
theorem rows_step {ds : List Nat} {ns : List Int} (hk : ns.length < ds.length) (h : ns = (rowsI ds).take ns.length) : ns ++ [(rowsI ds).getD ns.length 0] = (rowsI ds).take (ns ++ [(rowsI ds).getD ns.length 0]).length := by
  rw [List.length_append, List.length_singleton, List.take_add_one, ← h]
  have : ns.length < (rowsI ds).length := by unfold rowsI; rw [List.length_map]; exact hk
  rw [List.getElem?_eq_getElem this, List.getD_eq_getElem?_getD, List.getElem?_eq_getElem this]
  rfl
theorem row_go {ds : List Nat} {ns : List Int} (hlen : ds.length = 8) (hl : ns.length ≤ 8) (hne : ¬ (Mine.base ds ++ [0]).getD ((ns.length : Int)).toNat 0 = 0) : ns.length < 8 ∧ (Mine.base ds ++ [0]).getD ((ns.length : Int)).toNat 0 = 256 + (rowsI ds).getD ns.length 0 := by
  rw [Int.toNat_natCast] at hne ⊢
  rcases Nat.lt_or_eq_of_le hl with h | h
  · exact ⟨h, pile_in (by omega)⟩
  · exfalso
    rw [h, ← hlen] at hne
    exact hne pile_end
theorem row_stop {ds : List Nat} {ns : List Int} {vs : List Value} (hlen : ds.length = 8) (hl : ns.length ≤ 8) (hP : ns = (rowsI ds).take ns.length) (he : (Mine.base ds ++ [0]).getD ((ns.length : Int)).toNat 0 = 0) (hi : IntsAre vs ns) : IntsAre vs (ds.map fun (d : Nat) => (d : Int)) := by
  have h8 : ns.length = 8 := by
    rcases Nat.lt_or_eq_of_le hl with h | h
    · exfalso
      rw [Int.toNat_natCast, pile_in (by omega)] at he
      have := rows_nonneg (ds := ds) ns.length
      omega
    · exact h
  have e : ns = rowsI ds := by
    rw [hP, h8]
    exact List.take_of_length_le (by unfold rowsI; rw [List.length_map, hlen]; exact Nat.le_refl _)
  rw [e] at hi
  exact hi
local macro_rules | `(tactic| walk_at "compareOp NotIn") => `(tactic| (k_here; (with_reducible show wpAny _ _ (compareOp CmpOp.NotIn (Value.str _ _) (Value.ref 84)) _ _ _); k_dflt (refine notin_strTab (tab84 (by k_in)) ?_)))
local macro_rules | `(tactic| walk_at "compareOp NotIn str ref") => `(tactic| (k_here; (with_reducible show wpAny _ _ (compareOp CmpOp.NotIn (Value.str _ _) (Value.ref 84)) _ _ _); k_dflt (refine notin_strTab (tab84 (by k_in)) ?_)))
local macro_rules | `(tactic| walk_at "subscriptTail") => `(tactic| (k_here; (with_reducible show wpAny _ _ (subscriptTail _ _ (Value.ref _) (Value.str _ _)) _ _ _); refine Blk.out ?_))
local macro_rules | `(tactic| walk_at "KswEnd") => `(tactic| (refine Blk.out ?_))
local macro_rules | `(tactic| walk_at "exec If") => `(tactic| (refine Blk.out ?_))
local macro_rules | `(tactic| walk_at "exec If Name cons cons") => `(tactic| (refine Blk.out ?_))
set_option maxHeartbeats 2000000 in

theorem read_spec (w : World) (ds : List Nat) (tx : Tok) (hlen : ds.length = 8) (hds : ∀ d ∈ ds, 0 < d ∧ d ≤ 40) :
    Spec w 140 2 [.str (strL (txt ds)) tx] [] (fun v led' => ∃ l vs c, v = .ref l ∧ led' = [(l, listOf vs.toArray c)] ∧ IntsAre vs (ds.map fun (d : Nat) => (d : Int))) := by
  have hX : ((strL (txt ds)).length : Int) = ((txt ds).length : Int) := by show (((txt ds).toArray.size : Nat) : Int) = _; rw [size_at]
  have hXs : (strL (txt ds)).length ≤ 1000 := by show (txt ds).toArray.size ≤ 1000; rw [size_at]; have := txt_small hlen hds; omega
  have hXt := txt_small hlen hds
  unfold Spec
  k_fill
  intro mean mg mb dp un gd cn cs a ccd cl outer A₀ base h₀ L m s Q E B F X N T hk hd hu hret
  refine wpAny_call ?_
  k_dflt cell_enter

  k_steps
  refine Blk.mk ?_
  rename_i lp hA xF xN lp1 hB N5
  rename Fr _ _ _ _ => lF'
  k_dflt (refine' ksw_while (σ := List Value × List Int × Nat × Int × Tok) (fun e => [(lp, listOf e.1.toArray e.2.2.1)]) (fun e => [(Str.ofString "pile", .ref lp), (Str.ofString "place", .int e.2.2.2.1 e.2.2.2.2)]) (fun e => IntsAre e.1 e.2.1) [Str.ofString "take", Str.ofString "count"] (fun e => At ds e.2.1 e.2.2.2.1) (fun e => ((txt ds).length - e.2.2.2.1).toNat) ([], [], 0, 0, _) lF' N5 ?fa (List.forall_mem_cons.mpr ⟨rfl, List.forall_mem_cons.mpr ⟨rfl, List.forall_mem_nil _⟩⟩) ?pa ?ta ?ea)
  (case fa => exact IntsAre.nil)
  (case pa => exact ⟨[], ds, 0, [], rfl, rfl, rfl, rfl, by simp, Nat.zero_le _⟩)
  (case ea => passes_own)
  (case ta =>
    rintro ⟨vs, ns, c, place, tp⟩ u1 h1 tk1 hi1 hP1 F1 N1
    dsimp only [kstB, List.cons_append, List.nil_append] at hi1 hP1 F1 N1
    have hB1 := at_bound hP1
    have hl1 : ns.length ≤ 400 := by omega
    k_steps
    · refine Blk.mk ?_
      rename place < _ => hpl
      rename Fr _ _ _ _ => lF'
      rename News _ _ _ _ => lN'
      k_dflt (refine' ksw_while (σ := Int × Tok) (fun e => [(lp, listOf vs.toArray c)]) (fun e => [(Str.ofString "take", .int e.1 e.2)]) (fun e => True) [] (fun e => (0 ≤ e.1 ∧ e.1 ≤ 3) ∧ ∀ t : Int, e.1 < t → t ≤ 3 → hasT ds place t = false) (fun e => e.1.toNat) (3, _) lF' lN' ?fb (List.forall_mem_cons.mpr ⟨rfl, List.forall_mem_nil _⟩) ?pb ?tb ?eb)
      (case fb => exact trivial)
      (case pb => exact ⟨⟨by show (0 : Int) ≤ 3; decide, by show (3 : Int) ≤ 3; decide⟩, fun t h1 h2 => by have h1' : (3 : Int) < t := h1; omega⟩)
      (case eb => passes_own)
      (case tb =>
        rintro ⟨take, tt⟩ u2 h2 tk2 - ⟨htr, htn⟩ F2 N2
        dsimp only [kstB, List.cons_append, List.nil_append] at htr htn F2 N2
        k_steps
        · rename (Spec.lookup _ _).isSome = true => hsome
          obtain ⟨pre, d, r, c9, ts, e1, e2, e3, hw, hts, hcase⟩ := take_law (fun d hd => (hds d hd).1) hP1 (by omega) htr htn (.inr hsome)
          have hone : ∃ n9 : Int, (n9 = 52 ∨ n9 = 23) ∧ take = wt n9 ∧ (c9 : Int) + wt n9 ≤ d ∧ Spec.lookup (PyData.str (Txt.slice (strL (txt ds)) (some place) (some (place + take)))) D84 = some (PyData.int n9) := by
            rcases hcase with ⟨rfl, hc9, hsl⟩ | ⟨rfl, hc9, hsl⟩ | ⟨rfl, hc9⟩
            · exact ⟨52, .inl rfl, rfl, by show (c9 : Int) + 3 ≤ d; omega, by rw [hsl]; kernel_rfl⟩
            · exact ⟨23, .inr rfl, rfl, by show (c9 : Int) + 1 ≤ d; omega, by rw [hsl]; kernel_rfl⟩
            · exact absurd rfl ‹¬ (0 : Int) = 0›
          obtain ⟨n9, hn9, htk, hcd, hlk⟩ := hone
          have hA9 := at_three (r := r) (d := d) (n := n9) hn9 e2 hw hts hcd
          rw [← e1, ← e3, ← htk] at hA9
          have htk1 : 1 ≤ take := by rw [htk]; unfold wt; split <;> decide
          clear hcase htk hcd hsome
          refine Blk.mk ?_
          refine wpAny_If ?_
          k_steps
          refine Blk.mk ?_
          refine item_strTab (tab84 (by k_in)) hlk ?_
          intro vI hI
          obtain ⟨tI, rfl⟩ := hI.int_inv
          dsimp only
          k_steps
          refine Blk.mk ?_
          rename News _ _ _ _ => lN'
          simp only [List.push_toArray] at lN'
          exact ksw_end (vs ++ [Value.int n9 tI], ns ++ [n9], c + 1, place + take, _) (by assumption) lN' (by k_allIn) (hi1.append (IntsAre.cons _ _ IntsAre.nil)) (List.forall_mem_cons.mpr ⟨rfl, List.forall_mem_cons.mpr ⟨rfl, List.forall_mem_nil _⟩⟩) (by ksw_same) hA9 (by show (((txt ds).length : Int) - (place + take)).toNat < (((txt ds).length : Int) - place).toNat; omega)
          all_goals (exfalso; omega)
        · refine Blk.mk ?_
          have hno : hasT ds place take = false := by unfold hasT; first | assumption | (apply Bool.eq_false_iff.mpr; assumption)
          exact ksw_end (take - 1, _) (by assumption) (by assumption) (by k_allIn) trivial (List.forall_mem_cons.mpr ⟨rfl, List.forall_mem_nil _⟩) (by ksw_same) ⟨by show 0 ≤ take - 1 ∧ take - 1 ≤ 3; omega, fun t h1 h2 => by
            have h1' : take - 1 < t := h1
            rcases Int.lt_or_eq_of_le (show take ≤ t by omega) with h3 | h3
            · exact htn t h3 h2
            · rw [← h3]; exact hno⟩ (by show (take - 1).toNat < take.toNat; omega)
        · rename take = 0 => ht0
          subst ht0
          obtain ⟨pre, d, r, c9, ts, e1, e2, e3, hw, hts, hcase⟩ := take_law (fun d hd => (hds d hd).1) hP1 (by omega) htr htn (.inl rfl)
          have hc9 : c9 = d := by rcases hcase with ⟨h, -⟩ | ⟨h, -⟩ | ⟨-, h⟩ <;> omega
          subst hc9
          refine Blk.mk ?_
          refine wpAny_If ?_
          k_steps
          refine Blk.mk ?_
          rename Fr _ _ _ _ => lF'
          rename News _ _ _ _ => lN'
          k_dflt (refine' ksw_while (σ := List Value × List Int × Nat × Int × Tok) (fun e => [(lp, listOf e.1.toArray e.2.2.1)]) (fun e => [(Str.ofString "count", .int e.2.2.2.1 e.2.2.2.2)]) (fun e => IntsAre e.1 e.2.1 ∧ e.2.1.length ≤ 400) [] (fun e => ∃ ts2 : List Int, e.2.1 = Mine.base pre ++ ts2 ∧ e.2.2.2.1 + (ts2.map wt).sum = c9 ∧ 0 ≤ e.2.2.2.1 ∧ ∀ t ∈ ts2, t = 52 ∨ t = 23) (fun e => e.2.1.length) (vs, ns, c, 0, _) lF' lN' ?fc (List.forall_mem_cons.mpr ⟨rfl, List.forall_mem_nil _⟩) ?pc ?tc ?ec)
          (case fc => exact ⟨hi1, hl1⟩)
          (case pc => exact ⟨ts, e3, by show (0 : Int) + _ = _; omega, Int.le_refl _, hts⟩)
          (case ec => passes_own)
          (case tc =>
            rintro ⟨vs3, ns3, c3, cnt3, t3⟩ u3 h3 tk3 ⟨hi3, hl3⟩ ⟨ts3, he3, hw3, hc3, hts3⟩ F3 N3
            dsimp only [kstB, List.cons_append, List.nil_append] at hi3 hl3 he3 hw3 hc3 F3 N3
            k_steps
            · have hv3 : vs3.length = ns3.length := hi3.length
              have hv4 : 0 < vs3.length := by omega
              cell_ask (isterm_spec w _ _)
              intro v9 led9 h9 tk9 O9 A9 F9 N9
              obtain ⟨rfl, rfl⟩ := O9
              dsimp only [List.cons_append, List.nil_append] at N9
              dsimp only
              k_steps
              · refine Blk.mk ?_
                rename News _ _ _ _ => lN'
                rename _ < (256 : Int) => hlt
                obtain ⟨ts', q1, q2, q3⟩ := pop_law he3 hw3 hts3 (by omega) hlt
                have hwt : wt (ns3.getLastD 0) = 3 := if_pos (by assumption)
                have hwt0 : cnt3 + 3 + (ts'.map wt).sum = c9 := by rw [← hwt]; exact q2
                exact ksw_end (vs3.dropLast, ns3.dropLast, c3 + 1, cnt3 + 3, _) (by assumption) lN' (by k_allIn) ⟨by assumption, by show ns3.dropLast.length ≤ 400; rw [List.length_dropLast]; omega⟩ (List.forall_mem_cons.mpr ⟨rfl, List.forall_mem_nil _⟩) (by ksw_same) ⟨ts', q1, hwt0, by show 0 ≤ cnt3 + 3; omega, q3⟩ (by show ns3.dropLast.length < ns3.length; rw [List.length_dropLast]; omega)
              · refine Blk.mk ?_
                rename News _ _ _ _ => lN'
                rename _ < (256 : Int) => hlt
                obtain ⟨ts', q1, q2, q3⟩ := pop_law he3 hw3 hts3 (by omega) hlt
                have hwt : wt (ns3.getLastD 0) = 1 := if_neg (by assumption)
                have hwt0 : cnt3 + 1 + (ts'.map wt).sum = c9 := by rw [← hwt]; exact q2
                exact ksw_end (vs3.dropLast, ns3.dropLast, c3 + 1, cnt3 + 1, _) (by assumption) lN' (by k_allIn) ⟨by assumption, by show ns3.dropLast.length ≤ 400; rw [List.length_dropLast]; omega⟩ (List.forall_mem_cons.mpr ⟨rfl, List.forall_mem_nil _⟩) (by ksw_same) ⟨ts', q1, hwt0, by show 0 ≤ cnt3 + 1; omega, q3⟩ (by show ns3.dropLast.length < ns3.length; rw [List.length_dropLast]; omega)
              · refine Blk.mk ?_
                rename News _ _ _ _ => lN'
                simp only [List.push_toArray] at lN'
                obtain ⟨q1, q2⟩ := stay_law he3 hw3 hts3 (.inr (by assumption))
                have hA9 := at_row (pre := pre) (r := r) (d := c9) (n := 256 + cnt3) e2 (by omega)
                rw [← e1, ← q1] at hA9
                exact ksw_end (vs3 ++ [Value.int (256 + cnt3) _], ns3 ++ [256 + cnt3], c3 + 1, place + 2, _) (by assumption) lN' (by k_allIn) (hi3.append (IntsAre.cons _ _ IntsAre.nil)) (List.forall_mem_cons.mpr ⟨rfl, List.forall_mem_cons.mpr ⟨rfl, List.forall_mem_nil _⟩⟩) (by ksw_same) hA9 (by show (((txt ds).length : Int) - (place + 2)).toNat < (((txt ds).length : Int) - place).toNat; omega)
            · refine Blk.mk ?_
              rename News _ _ _ _ => lN'
              simp only [List.push_toArray] at lN'
              obtain ⟨q1, q2⟩ := stay_law he3 hw3 hts3 (.inl (by omega))
              have hA9 := at_row (pre := pre) (r := r) (d := c9) (n := 256 + cnt3) e2 (by omega)
              rw [← e1, ← q1] at hA9
              exact ksw_end (vs3 ++ [Value.int (256 + cnt3) _], ns3 ++ [256 + cnt3], c3 + 1, place + 2, _) (by assumption) lN' (by k_allIn) (hi3.append (IntsAre.cons _ _ IntsAre.nil)) (List.forall_mem_cons.mpr ⟨rfl, List.forall_mem_cons.mpr ⟨rfl, List.forall_mem_nil _⟩⟩) (by ksw_same) hA9 (by show (((txt ds).length : Int) - (place + 2)).toNat < (((txt ds).length : Int) - place).toNat; omega)))
    · rename ¬ place < _ => hpl
      have hpe := at_end hP1 (by rw [← hX]; exact hpl)
      subst hpe
      refine Blk.mk ?_
      rename_i lr hA2 lr1 hB2 F7 N7
      rename Fr _ _ _ _ => lF'
      rename News _ _ _ _ => lN'
      simp only [List.push_toArray] at lN'
      have hip := hi1.append (IntsAre.cons 0 439 IntsAre.nil)
      have hbl : (Mine.base ds ++ [0]).length = 9 := by unfold Mine.base; rw [List.length_append, List.length_map, hlen]; rfl
      k_dflt (refine' ksw_while (σ := List Value × List Int × Nat) (fun e => [(lr, listOf e.1.toArray e.2.2), (lp, listOf (vs ++ [Value.int 0 439]).toArray (c + 1))]) (fun e => []) (fun e => IntsAre e.1 e.2.1) [Str.ofString "symbol"] (fun e => e.2.1.length ≤ 8 ∧ e.2.1 = (rowsI ds).take e.2.1.length) (fun e => 9 - e.2.1.length) ([], [], 0) lF' lN' ?fd (List.forall_mem_nil _) ?pd ?td ?ed)
      (case fd => exact IntsAre.nil)
      (case pd => exact ⟨Nat.zero_le _, rfl⟩)
      (case ed => passes_own)
      (case td =>
        rintro ⟨vs3, ns3, c3⟩ u3 h3 tk3 hi3 ⟨hl3, hP3⟩ F3 N3
        dsimp only [kstB, List.cons_append, List.nil_append] at hi3 hl3 hP3 F3 N3
        k_steps
        cell_ask (iseof_spec w _ _)
        intro v9 led9 h9 tk9 O9 A9 F9 N9
        obtain ⟨rfl, rfl⟩ := O9
        dsimp only [List.cons_append, List.nil_append] at N9
        dsimp only
        k_steps
        · exact hret _ _ _ _ ⟨lr, vs3, c3, rfl, rfl, row_stop hlen hl3 hP3 (by assumption) hi3⟩ (by assumption) (kst_newsOf (by assumption) (by k_allIn)) (After.new (by assumption) (by assumption) (by assumption) (by k_allIn))
        · have hgo := row_go hlen hl3 (by assumption)
          cell_ask (isnon_spec w _ _)
          intro v9 led9 h9 tk9 O9 A9 F9 N9
          obtain ⟨rfl, rfl⟩ := O9
          dsimp only [List.cons_append, List.nil_append] at N9
          dsimp only
          have hnn := rows_nonneg (ds := ds) ns3.length
          k_steps
          refine Blk.mk ?_
          rename News _ _ _ _ => lN'
          simp only [List.push_toArray] at lN'
          exact ksw_end (vs3 ++ [Value.int ((Mine.base ds ++ [0]).getD ((ns3.length : Int)).toNat 0 - 256) _], ns3 ++ [(Mine.base ds ++ [0]).getD ((ns3.length : Int)).toNat 0 - 256], c3 + 1) (by assumption) lN' (by k_allIn) (hi3.append (IntsAre.cons _ _ IntsAre.nil)) (List.forall_mem_nil _) (by ksw_same) ⟨by rw [List.length_append, List.length_singleton]; omega, by
            have e9 : (Mine.base ds ++ [0]).getD ((ns3.length : Int)).toNat 0 - 256 = (rowsI ds).getD ns3.length 0 := by omega
            show ns3 ++ [(Mine.base ds ++ [0]).getD ((ns3.length : Int)).toNat 0 - 256] = (rowsI ds).take (ns3 ++ [(Mine.base ds ++ [0]).getD ((ns3.length : Int)).toNat 0 - 256]).length
            rw [e9]
            exact rows_step (by omega) hP3⟩ (by show 9 - (ns3 ++ [(Mine.base ds ++ [0]).getD ((ns3.length : Int)).toNat 0 - 256]).length < 9 - ns3.length; rw [List.length_append, List.length_singleton]; omega)))
end
local macro_rules | `(tactic| walk_at "idle43") => `(tactic| skip)
local macro_rules | `(tactic| walk_at "idle44") => `(tactic| skip)
local macro_rules | `(tactic| walk_at "idle45") => `(tactic| skip)
local macro_rules | `(tactic| walk_at "idle46") => `(tactic| skip)
local macro_rules | `(tactic| walk_at "idle47") => `(tactic| skip)
local macro_rules | `(tactic| walk_at "idle48") => `(tactic| skip)
local macro_rules | `(tactic| walk_at "idle49") => `(tactic| skip)
section
theorem wipeAG : True := by k_with_none; w_top off; trivial
theorem meant_spec' (w : World) (n n' q : Int) (tn tq : Tok) (e : n = n') (hn : -1000 ≤ n' ∧ n' ≤ 13) (hq : 1 ≤ q ∧ q ≤ 3) :
    Spec w 161 1 [.int n tn, .int q tq] [] (fun v led' => led' = [] ∧ ∃ t, v = .int (meantN q n'.toNat) t) := by
  subst e; exact meant_spec w n q tn tq hn hq
theorem vat_of {rs b : List Int} {x : Int} {i j : Nat} (h : rs.getD j 0 = b.getD i 0 + x) : rs.getD j 0 - (i : Int) = vAt x b i := by rw [h]; rfl
theorem vat_in {b : List Int} {x : Int} {i : Nat} (hb : Brd 7 b) (hx : 2 ≤ x ∧ x ≤ 5) (hi : i < 4) : -1000 ≤ vAt x b i ∧ vAt x b i ≤ 13 := by
  have h := get_in hb.2.2 (j := i) (by rw [hb.1]; exact hi)
  unfold vAt
  omega

def proF (q x : Int) (b : List Int) : Nat → Int
  | 0 => 1
  | k + 1 => proF q x b k * meantN q (vAt x b k).toNat
theorem vat_j {rs b : List Int} {x j : Int} {k o : Nat} (h : ∀ i, i < 4 → rs.getD (o + i) 0 = b.getD i 0 + x) (hj : j = 0 + (k : Int)) (hk : k < 4) {I : Int} (hI : I = (o : Int)) : rs.getD (I + j).toNat 0 - j = vAt x b k := by
  have e : (I + j).toNat = o + k := by omega
  have e2 : j = (k : Int) := by omega
  rw [e, h k hk, e2]; rfl
theorem rowName {P : Prop} {h₀ h : Heap} {L a : Addr} {x : Obj} {r : List (Addr × Obj)} (_N : News h₀ L h ((a, x) :: r)) (k : ∀ a' r', a' = a → r' = r → P) : P := k _ _ rfl rfl

local macro_rules | `(tactic| walk_at "compareOp NotEq ref ref") => `(tactic| (refine Blk.out ?_))
local macro_rules | `(tactic| walk_at "compareOp Eq ref ref") => `(tactic| (refine Blk.out ?_))

set_option maxHeartbeats 8000000 in
theorem agree_spec (w : World) (lr lb lc : Addr) (vr vb vc : List Value) (rs b c : List Int) (cr cb cc : Nat) (kind x q : Int) (tk tx tq : Tok) (hir : IntsAre vr rs) (hib : IntsAre vb b) (hic : IntsAre vc c)
    (hrl : rs.length = 8) (hq : 1 ≤ q ∧ q ≤ 3) (hx : 2 ≤ x ∧ x ≤ 5) (TW : Two q x kind b c) (n1 : lr ≠ lb) (n2 : lr ≠ lc) (n3 : lb ≠ lc)
    (hr0 : ∀ i, i < 4 → rs.getD (0 + i) 0 = b.getD i 0 + x) (hr1 : ∀ i, i < 4 → rs.getD (4 + i) 0 = c.getD i 0 + x) :
    Spec w 175 12 [.ref lr, .ref lb, .ref lc, .int kind tk, .int x tx, .int q tq] [(lr, listOf vr.toArray cr), (lb, listOf vb.toArray cb), (lc, listOf vc.toArray cc)] (fun v led' => v = .bool true ∧ led' = []) := by
  unfold Spec
  k_fill
  intro mean mg mb dp un gd cn cs a ccd cl outer A₀ base h₀ L m s Q E B F X N T hk hd hu hret
  refine wpAny_call ?_
  cell_end [(Str.ofString "rows", .ref lr), (Str.ofString "first", .ref lb), (Str.ofString "second", .ref lc), (Str.ofString "kind", .int kind tk), (Str.ofString "x", .int x tx), (Str.ofString "q", .int q tq)] rfl rfl
  k_steps
  cell_ask (rooks_spec w lb vb b cb q _ hib TW.b4.1 TW.b4.2.1 TW.b4.2.2 hq)
  intro v9 led9 h9 tk9 O9 A9 F9 N9
  obtain ⟨k1, u1, c1, rfl, rfl, J1, m10⟩ := O9
  obtain ⟨R1, hR1⟩ : ∃ R, R = rooksL q b := ⟨_, rfl⟩
  replace J1 : IntsAre u1 R1 := by rw [hR1]; exact J1
  dsimp only [List.cons_append, List.nil_append] at N9
  dsimp only
  simp only [List.forall_mem_cons] at A9
  obtain ⟨⟨m11, m12, -⟩, -⟩ := A9
  k_steps
  cell_ask (rooks_spec w lc vc c cc q _ hic TW.c7.1 TW.c7.2.1 TW.c7.2.2 hq)
  intro v9 led9 h9 tk9 O9 A9 F9 N9
  obtain ⟨k2, u2, c2, rfl, rfl, J2, m20⟩ := O9
  obtain ⟨R2, hR2⟩ : ∃ R, R = rooksL q c := ⟨_, rfl⟩
  replace J2 : IntsAre u2 R2 := by rw [hR2]; exact J2
  dsimp only [List.cons_append, List.nil_append] at N9
  dsimp only
  simp only [List.forall_mem_cons] at A9
  obtain ⟨⟨m21, m22, m23, -⟩, ⟨m24, m25, m26, -⟩, -⟩ := A9
  k_steps
  refine Blk.mk ?_
  k_rangeUnr
  k_steps
  refine Blk.mk ?_
  (rename IsRange _ _ _ _ _ _ _ _ => rgX)
  (rename Fr _ _ _ _ => lF')
  (rename News _ _ _ _ => lN')
  refine rowName lN' ?_
  rintro ln0 rest0 rfl hrest
  rw [← hrest] at lN'
  k_dflt (refine' kst_range (σ := List Value × List Int × Nat × Int × Tok) (n := 4) (fun e => (ln0, listOf e.1.toArray e.2.2.1) :: rest0) (fun e => [(Str.ofString "product", .int e.2.2.2.1 e.2.2.2.2)]) (fun e => IntsAre e.1 e.2.1) [] (fun pj e => e.2.1 = insF x b pj.length ∧ e.2.2.2.1 = proF q x b pj.length) ([], [], 0, 1, _) ?ca1 rgX ?ca2 ?ca3 lF' lN' ?ca4 ?ca5 ?ca6 ?ca7 ?ca8)
  (case ca1 => exact rfl)
  (case ca2 => decide)
  (case ca3 => exact rfl)
  (case ca4 => exact IntsAre.nil)
  (case ca5 => exact List.forall_mem_cons.mpr ⟨by with_unfolding_all rfl, List.forall_mem_nil _⟩)
  (case ca6 => exact ⟨rfl, rfl⟩)
  (case ca7 =>
    rintro ⟨vd, nd, cd, pd, td⟩ pj j tj u5 h5 tk5 own5 hj hjn hown hf5 ⟨hP5, hQ5⟩ F5 N5
    subst hrest
    dsimp only [kstB, List.cons_append, List.nil_append] at hf5 hP5 hQ5 F5 N5
    have hndl : nd.length = pj.length := by rw [hP5]; exact insF_length x b pj.length
    k_steps
    cell_ask (insR_spec' w ln0 vd nd cd _ (vAt x b pj.length) _ ?he hf5 (by omega) ?hs)
    (case he => exact vat_j hr0 hj hjn (by rfl))
    (case hs => rw [hP5]; exact insF_pw x b pj.length)
    intro v9 led9 h9 tk9 O9 A9 F9 N9
    obtain ⟨rfl, w9, d9, rfl, I9⟩ := O9
    dsimp only [List.cons_append, List.nil_append] at N9
    dsimp only
    k_steps
    cell_ask (meant_spec' w _ (vAt x b pj.length) q _ tq ?he (vat_in TW.b4 hx hjn) hq)
    (case he => exact vat_j hr0 hj hjn (by rfl))
    intro v9 led9 h9 tk9 O9 A9 F9 N9
    obtain ⟨rfl, t9, rfl⟩ := O9
    have hm9 := meantN_small hq (n := (vAt x b pj.length).toNat) (by have := (vat_in TW.b4 hx hjn).2; omega)
    dsimp only [List.cons_append, List.nil_append] at N9
    dsimp only
    k_steps
    all_goals exact kst_end (w9, insS (vAt x b pj.length) nd, d9, pd * meantN q (vAt x b pj.length).toNat, _) (by assumption) (by assumption) (by k_allIn) (by intro p hp; k_ownIn) rfl I9 (List.forall_mem_cons.mpr ⟨rfl, List.forall_mem_nil _⟩) (by kst_same) (by rw [List.length_append, List.length_singleton, hP5, hQ5]; exact ⟨rfl, rfl⟩))
  (case ca8 =>
    rintro ⟨w03, zd0, d03, sp0, tp0⟩ u8 h8 tk8 I03 ⟨hP8, hQ8⟩ F8 N8
    subst hrest
    dsimp only [kstB, List.cons_append, List.nil_append] at I03 hP8 hQ8 F8 N8
    rw [rangeKs_length] at hP8 hQ8
    have hZ0 : zd0 = lineN x b := hP8
    have hS0 : sp0 = spreadN R1 q x 5 := by rw [hR1, hQ8]; exact TW.pb
    k_steps
    cell_ask (spread_spec w k1 u1 R1 c1 x q _ _ J1 (by rw [hR1]; rfl) ⟨by omega, by omega⟩ hq)
    intro v9 led9 h9 tk9 O9 A9 F9 N9
    obtain ⟨rfl, s0, rfl⟩ := O9
    dsimp only [List.cons_append, List.nil_append] at N9
    dsimp only
    rw [← hS0]
    k_steps
    · exact absurd rfl (by assumption)
    refine Blk.mk ?_
    (rename IsRange _ _ _ _ _ _ _ _ => rgX)
    (rename Fr _ _ _ _ => lF')
    (rename News _ _ _ _ => lN')
    refine rowName lN' ?_
    rintro ln1 rest1 rfl hrest
    rw [← hrest] at lN'
    k_dflt (refine' kst_range (σ := List Value × List Int × Nat × Int × Tok) (n := 4) (fun e => (ln1, listOf e.1.toArray e.2.2.1) :: rest1) (fun e => [(Str.ofString "product", .int e.2.2.2.1 e.2.2.2.2)]) (fun e => IntsAre e.1 e.2.1) [] (fun pj e => e.2.1 = insF x c pj.length ∧ e.2.2.2.1 = proF q x c pj.length) ([], [], 0, 1, _) ?ca1 rgX ?ca2 ?ca3 lF' lN' ?ca4 ?ca5 ?ca6 ?ca7 ?ca8)
    (case ca1 => exact rfl)
    (case ca2 => decide)
    (case ca3 => exact rfl)
    (case ca4 => exact IntsAre.nil)
    (case ca5 => exact List.forall_mem_cons.mpr ⟨by with_unfolding_all rfl, List.forall_mem_nil _⟩)
    (case ca6 => exact ⟨rfl, rfl⟩)
    (case ca7 =>
      rintro ⟨vd, nd, cd, pd, td⟩ pj j tj u5 h5 tk5 own5 hj hjn hown hf5 ⟨hP5, hQ5⟩ F5 N5
      subst hrest
      dsimp only [kstB, List.cons_append, List.nil_append] at hf5 hP5 hQ5 F5 N5
      have hndl : nd.length = pj.length := by rw [hP5]; exact insF_length x c pj.length
      k_steps
      cell_ask (insR_spec' w ln1 vd nd cd _ (vAt x c pj.length) _ ?he hf5 (by omega) ?hs)
      (case he => exact vat_j hr1 hj hjn (by rfl))
      (case hs => rw [hP5]; exact insF_pw x c pj.length)
      intro v9 led9 h9 tk9 O9 A9 F9 N9
      obtain ⟨rfl, w9, d9, rfl, I9⟩ := O9
      dsimp only [List.cons_append, List.nil_append] at N9
      dsimp only
      k_steps
      cell_ask (meant_spec' w _ (vAt x c pj.length) q _ tq ?he (vat_in TW.c7 hx hjn) hq)
      (case he => exact vat_j hr1 hj hjn (by rfl))
      intro v9 led9 h9 tk9 O9 A9 F9 N9
      obtain ⟨rfl, t9, rfl⟩ := O9
      have hm9 := meantN_small hq (n := (vAt x c pj.length).toNat) (by have := (vat_in TW.c7 hx hjn).2; omega)
      dsimp only [List.cons_append, List.nil_append] at N9
      dsimp only
      k_steps
      all_goals exact kst_end (w9, insS (vAt x c pj.length) nd, d9, pd * meantN q (vAt x c pj.length).toNat, _) (by assumption) (by assumption) (by k_allIn) (by intro p hp; k_ownIn) rfl I9 (List.forall_mem_cons.mpr ⟨rfl, List.forall_mem_nil _⟩) (by kst_same) (by rw [List.length_append, List.length_singleton, hP5, hQ5]; exact ⟨rfl, rfl⟩))
    (case ca8 =>
      rintro ⟨w13, zd1, d13, sp1, tp1⟩ u8 h8 tk8 I13 ⟨hP8, hQ8⟩ F8 N8
      subst hrest
      dsimp only [kstB, List.cons_append, List.nil_append] at I13 hP8 hQ8 F8 N8
      rw [rangeKs_length] at hP8 hQ8
      have hZ1 : zd1 = lineN x c := hP8
      have hS1 : sp1 = spreadN R2 q x 5 := by rw [hR2, hQ8]; exact TW.pc
      k_steps
      cell_ask (spread_spec w k2 u2 R2 c2 x q _ _ J2 (by rw [hR2]; rfl) ⟨by omega, by omega⟩ hq)
      intro v9 led9 h9 tk9 O9 A9 F9 N9
      obtain ⟨rfl, s1, rfl⟩ := O9
      dsimp only [List.cons_append, List.nil_append] at N9
      dsimp only
      rw [← hS1]
      k_steps
      · exact absurd rfl (by assumption)
      · have hiff : decide (zd0 = zd1) = decide (R1 = R2) := by
          rw [hZ0, hZ1, hR1, hR2, decide_eq_decide]
          exact TW.iff.symm
        have hE : R1 = R2 := by rw [hR1, hR2]; exact TW.eq (by assumption)
        refine Blk.mk ?_
        k_dflt (refine' ne_intsK ?k1 J1 ?k3 J2 ?k5 ?_)
        (case k1 => is_list)
        (case k3 => is_list)
        (case k5 => first | ktr_units | units_room)
        rw [decide_eq_true hE, Bool.not_true]
        k_steps
        refine Blk.mk ?_
        k_dflt (refine' eq_intsK ?k1 J1 ?k3 J2 ?k5 ?_)
        (case k1 => is_list)
        (case k3 => is_list)
        (case k5 => first | ktr_units | units_room)
        k_steps
        refine Blk.mk ?_
        k_dflt (refine' eq_intsK ?k1 I03 ?k3 I13 ?k5 ?_)
        (case k1 => is_list)
        (case k3 => is_list)
        (case k5 => first | ktr_units | units_room)
        rw [hiff]
        generalize decide (R1 = R2) = dd
        k_steps
        exact hret _ _ _ _ ⟨by rw [beq_self_eq_true], rfl⟩ (by assumption) News.nil (After.old (by assumption) (by assumption) (by simp))
      · have hiff : decide (zd0 = zd1) = decide (R1 = R2) := by
          rw [hZ0, hZ1, hR1, hR2, decide_eq_decide]
          exact TW.iff.symm
        refine Blk.mk ?_
        k_dflt (refine' eq_intsK ?k1 J1 ?k3 J2 ?k5 ?_)
        (case k1 => is_list)
        (case k3 => is_list)
        (case k5 => first | ktr_units | units_room)
        k_steps
        refine Blk.mk ?_
        k_dflt (refine' eq_intsK ?k1 I03 ?k3 I13 ?k5 ?_)
        (case k1 => is_list)
        (case k3 => is_list)
        (case k5 => first | ktr_units | units_room)
        rw [hiff]
        generalize decide (R1 = R2) = dd
        k_steps
        exact hret _ _ _ _ ⟨by rw [beq_self_eq_true], rfl⟩ (by assumption) News.nil (After.old (by assumption) (by assumption) (by simp))))
end
local macro_rules | `(tactic| walk_at "idle50") => `(tactic| skip)
local macro_rules | `(tactic| walk_at "idle51") => `(tactic| skip)
local macro_rules | `(tactic| walk_at "idle52") => `(tactic| skip)
section
theorem wipeLP : True := by k_with_none; w_top off; trivial
def upK : Nat → List (Nat × List Nat) → List (Nat × List Nat)
  | 0, r => r
  | k + 1, r => upRows (upK k r)
theorem upK_length (rows : List (Nat × List Nat)) : ∀ k, (upK k rows).length = rows.length
  | 0 => rfl
  | k + 1 => by
    show (upRows (upK k rows)).length = _
    unfold upRows
    rw [List.length_map, upK_length rows k]
theorem upK_ok {rows : List (Nat × List Nat)} {m : Nat} (h : ∀ q ∈ rows, 0 < q.1 ∧ q.1 ≤ m ∧ EolOk q.2) : ∀ k, ∀ q ∈ upK k rows, 0 < q.1 ∧ q.1 ≤ m + k ∧ EolOk q.2
  | 0 => h
  | k + 1 => fun q hq => by
    obtain ⟨p, hp, rfl⟩ := List.mem_map.mp hq
    have ih := upK_ok h k p hp
    exact ⟨Nat.succ_pos _, by show p.1 + 1 ≤ m + (k + 1); omega, .inr (.inl rfl)⟩
theorem mail_ok {ns : List Int} {style : Int} (hb : ∀ n ∈ ns, 0 ≤ n ∧ n ≤ 10) : ∀ q ∈ mailRows ns style, 0 < q.1 ∧ q.1 ≤ 11 ∧ EolOk q.2 := fun q hq => by
  obtain ⟨p, hp, rfl⟩ := List.mem_map.mp hq
  have h1 := hb p.1 (by obtain ⟨a, b⟩ := p; exact List.fst_mem_of_mem_zipIdx hp)
  refine ⟨by show 0 < (p.1 + 1).toNat; omega, by show (p.1 + 1).toNat ≤ 11; omega, ?_⟩
  show EolOk (eolN _)
  unfold eolN
  split
  · exact .inl rfl
  · split
    · exact .inr (.inl rfl)
    · exact .inr (.inr rfl)
theorem mailRows_length (ns : List Int) (style : Int) : (mailRows ns style).length = ns.length := by unfold mailRows; rw [List.length_map, List.length_zipIdx]
theorem quote_rows' (w : World) (rows : List (Nat × List Nat)) (tx : Tok) (hl : rows.length = 8) (h : ∀ q ∈ rows, 0 < q.1 ∧ q.1 ≤ 40 ∧ EolOk q.2) :
    Spec w 83 2 [.str (strL (mailL rows)) tx] [] (fun v led' => led' = [] ∧ ∃ t, v = .str (strL (mailL (upRows rows))) t) := by
  match rows, hl, h with
  | (d, e) :: r, hl, h => exact quote_rows w d e r tx h (by simpa using hl)
def dsN (ns : List Int) (k : Nat) : List Nat := ns.map fun n => (n + 1).toNat + k
theorem upK_rows (ns : List Int) (style : Int) : ∀ k, upK (k + 1) (mailRows ns style) = (dsN ns (k + 1)).map fun d => (d, crlfL)
  | 0 => by
    show (mailRows ns style).map _ = _
    unfold mailRows dsN
    rw [List.map_map, List.map_map]
    have : ∀ (l : List Int) (i : Nat), (l.zipIdx i).map ((fun r : Nat × List Nat => (r.1 + 1, crlfL)) ∘ fun p : Int × Nat => ((p.1 + 1).toNat, eolN (((p.2 : Int) + style).fmod 3))) = l.map ((fun d => (d, crlfL)) ∘ fun n : Int => (n + 1).toNat + (0 + 1)) := by
      intro l
      induction l with
      | nil => intro i; rfl
      | cons n r ih => intro i; rw [List.zipIdx_cons, List.map_cons, List.map_cons, ih]; rfl
    exact this ns 0
  | k + 1 => by
    show (upK (k + 1) (mailRows ns style)).map _ = _
    rw [upK_rows ns style k]
    unfold dsN
    rw [List.map_map, List.map_map, List.map_map]
    rfl
theorem upK_txt (ns : List Int) (style : Int) {k : Nat} (hk : 1 ≤ k) : mailL (upK k (mailRows ns style)) = txt (dsN ns k) := by
  obtain ⟨j, rfl⟩ : ∃ j, k = j + 1 := ⟨k - 1, by omega⟩
  rw [upK_rows]; rfl
theorem dsN_ok {ns : List Int} {k : Nat} (hl : ns.length = 8) (hb : ∀ n ∈ ns, 0 ≤ n ∧ n ≤ 10) (hk : k ≤ 4) : (dsN ns k).length = 8 ∧ ∀ d ∈ dsN ns k, 0 < d ∧ d ≤ 40 := by
  refine ⟨by unfold dsN; rw [List.length_map, hl], fun d hd => ?_⟩
  obtain ⟨n, hn, rfl⟩ := List.mem_map.mp hd
  have := hb n hn
  omega
theorem dsN_int {ns : List Int} {k : Nat} {H : Int} (hH : H = (k : Int)) (hb : ∀ n ∈ ns, 0 ≤ n ∧ n ≤ 10) : (dsN ns k).map (fun (d : Nat) => (d : Int)) = ns.map fun n => n + H + 1 := by
  subst hH
  unfold dsN
  rw [List.map_map]
  refine List.map_congr_left fun n hn => ?_
  have := hb n hn
  show (((n + 1).toNat + k : Nat) : Int) = _
  omega
theorem rs_lo {b c : List Int} {H : Int} (hb : b.length = 4) {i : Nat} (hi : i < 4) : ((b ++ c).map fun n => n + H + 1).getD i 0 = b.getD i 0 + (H + 1) := by
  rw [List.getD_eq_getElem?_getD, List.getElem?_map, List.getElem?_append_left (by omega), List.getD_eq_getElem?_getD, List.getElem?_eq_getElem (by omega)]
  show _ + H + 1 = _ + (H + 1)
  exact Int.add_assoc _ _ _
theorem rs_hi {b c : List Int} {H : Int} (hb : b.length = 4) (hc : c.length = 4) {i : Nat} (hi : i < 4) : ((b ++ c).map fun n => n + H + 1).getD (4 + i) 0 = c.getD i 0 + (H + 1) := by
  rw [List.getD_eq_getElem?_getD, List.getElem?_map, List.getElem?_append_right (by omega), hb, Nat.add_sub_cancel_left, List.getD_eq_getElem?_getD, List.getElem?_eq_getElem (by omega)]
  show _ + H + 1 = _ + (H + 1)
  exact Int.add_assoc _ _ _
theorem range_one {H : Int} {n : Nat} (h : H = (n : Int)) : Builtin.Range.rangeSize 0 H 1 = (n : Int) := by
  subst h
  rw [rangeSize_one]
  split <;> omega
end
local macro_rules | `(tactic| walk_at "idle53") => `(tactic| skip)
end
end Mine
end
section
open PySem PySem.Spec PySem.Calls PySem.W PyProof.Rows
namespace Mine
local macro_rules | `(tactic| walk_at "idle54") => `(tactic| skip)
local macro_rules | `(tactic| walk_at "idle55") => `(tactic| skip)
local macro_rules | `(tactic| walk_at "idle56") => `(tactic| skip)
section
theorem wipeLW : True := by k_with_none; w_top off; trivial
local macro_rules | `(tactic| cell_enter) => `(tactic| (refine' enter ?k1 ?k2 ?k3 ?k4 ?k5 ?kA ?kF ?kK ?k6 ?k7 ?k8 ?k9 ?kB ?_ ?c2 ?c3 ?c4 ?c5; (case kA => exact rfl); (case kF => exact rfl); (case kK => assumption); (case k1 => k_asm); (case k2 => k_asm); (case k3 => k_asm); (case k4 => k_asm); (case k5 => k_asm); (case k6 => k_is); (case k7 => k_is); (case k8 => ktr_room); (case k9 => first | exact BindsTo.of_eq rfl | (refine' kp_binds ?kx ?ke; (case kx => k_in); (case ke => exact fun _ => rfl))); (case c5 => decide); (case kB => exact locs rfl); (case c2 => exact rfl); (case c3 => exact rfl); (case c4 => exact rfl); k_whole; intro g' L' h' FG' F' N' B' X' T' KE; (try dsimp only); (try k_fold)))
local macro_rules | `(tactic| walk_at "pyIter ref") => `(tactic| (refine Blk.out ?_))
local macro_rules | `(tactic| walk_at "exec While") => `(tactic| (refine Blk.out ?_))
local macro_rules | `(tactic| cell_ask $C:term) => `(tactic| (refine Blk.mk ?_; k_dflt (refine' Spec.use $C ?k1 ?k2 ?k3 ?k4 ?k5 ?kK ?kO ?kP ?k7 ?k8 ?_; (case k1 => k_asm); (case k2 => k_asm); (case k3 => k_asm); (case k4 => k_asm); (case k5 => k_asm); (case kK => first | exact rfl | assumption); (case kO => (repeat (first | exact Picks.nil | apply Picks.cons | exact Pick.head | apply Pick.tail))); (case kP => (repeat (first | exact List.forall_mem_nil _ | (refine List.forall_mem_cons.mpr ⟨by ((try dsimp only); k_all), ?_⟩)))); (case k7 => ktr_room); (case k8 => ktr_units))))
local macro_rules | `(tactic| walk_at "exec While Compare cons nil") => `(tactic| (refine Blk.out ?_))
local macro_rules | `(tactic| walk_at "exec While BoolOp cons nil") => `(tactic| (refine Blk.out ?_))
local macro_rules | `(tactic| walk_at "exec While UnaryOp cons nil") => `(tactic| (refine Blk.out ?_))
local macro_rules | `(tactic| cell_end $b:term rfl rfl) => `(tactic| (refine' enter (binds := $b) ?k1 ?k2 ?k3 ?k4 ?k5 ?kA ?kF ?kK ?k6 ?k7 ?k8 ?k9 ?kB ?_ ?c2 ?c3 ?c4 ?c5; (case kA => exact rfl); (case kF => exact rfl); (case kK => assumption); (case k1 => k_asm); (case k2 => k_asm); (case k3 => k_asm); (case k4 => k_asm); (case k5 => k_asm); (case k6 => k_is); (case k7 => k_is); (case k8 => ktr_room); (case k9 => first | exact BindsTo.of_eq rfl | (refine' kp_binds ?kx ?ke; (case kx => k_in); (case ke => exact fun _ => rfl))); (case c5 => decide); (case kB => exact locs rfl); (case c2 => exact rfl); (case c3 => exact rfl); (case c4 => exact rfl); k_whole; intro g' L' h' FG' F' N' B' X' T' KE; (try dsimp only); (try k_fold)))
local macro_rules | `(tactic| k_ne) => `(tactic| first | assumption | (refine Ne.symm ?_; assumption))

local macro_rules | `(tactic| walk_at "call ref") => `(tactic| ((with_reducible show wpAny _ _ (call (Value.ref 121) _) _ _ _); refine Blk.out ?_))
local macro_rules | `(tactic| walk_at "call ref") => `(tactic| ((with_reducible show wpAny _ _ (call (Value.ref 126) _) _ _ _); refine Blk.out ?_))
local macro_rules | `(tactic| walk_at "call ref") => `(tactic| ((with_reducible show wpAny _ _ (call (Value.ref 133) _) _ _ _); refine Blk.out ?_))
local macro_rules | `(tactic| walk_at "call ref") => `(tactic| ((with_reducible show wpAny _ _ (call (Value.ref 83) _) _ _ _); refine Blk.out ?_))
local macro_rules | `(tactic| walk_at "call ref") => `(tactic| ((with_reducible show wpAny _ _ (call (Value.ref 140) _) _ _ _); refine Blk.out ?_))
local macro_rules | `(tactic| walk_at "call ref") => `(tactic| ((with_reducible show wpAny _ _ (call (Value.ref 175) _) _ _ _); refine Blk.out ?_))

theorem newsName3 {P : Prop} {h₀ h : Heap} {L a b c : Addr} {x y z : Obj} (_N : News h₀ L h [(a, x), (b, y), (c, z)]) (k : ∀ a' b' z', a' = a → b' = b → z' = z → P) : P := k _ _ _ rfl rfl rfl
theorem newsName1 {P : Prop} {h₀ h : Heap} {L a : Addr} {x : Obj} {r : List (Addr × Obj)} (_N : News h₀ L h ((a, x) :: r)) (k : ∀ a', a' = a → P) : P := k _ rfl
theorem board8 {b c : List Int} (hb : Brd 7 b) (hc : Brd 7 c) : (b ++ c).length = 8 ∧ ∀ n ∈ b ++ c, 0 ≤ n ∧ n ≤ 10 := by
  refine ⟨by rw [List.length_append, hb.1, hc.1], fun n hn => ?_⟩
  rcases List.mem_append.mp hn with h | h
  · have := hb.2.2 n h; omega
  · have := hc.2.2 n h; omega
theorem newsLast6 {P : Prop} {h₀ h : Heap} {L : Addr} {p1 p2 p3 p4 p5 : Addr × Obj} {a : Addr} {x : Obj} (_N : News h₀ L h [p1, p2, p3, p4, p5, (a, x)]) (k : ∀ x', x' = x → P) : P := k _ rfl
theorem intsName {P : Prop} {vs : List Value} {ns : List Int} (_h : IntsAre vs ns) (k : ∀ vs', vs' = vs → P) : P := k _ rfl
local macro_rules | `(tactic| walk_at "exec For Name Subscript cons nil") => `(tactic| (refine Blk.out ?_))
local macro_rules | `(tactic| walk_at "setItem ref int") => `(tactic| (refine Blk.out ?_))
theorem listName {P : Prop} {h : Heap} {a : Addr} {its : Array Value} (_x : h.IsList a its) (k : ∀ a', a' = a → P) : P := k _ rfl
theorem frTo {P : Prop} {h₀ h : Heap} {L : Addr} {m m' : Str → Option Value} (F : Fr h₀ L h m) (e : m = m') (k : Fr h₀ L h m' → P) : P := k (e ▸ F)

set_option maxRecDepth 100000 in
set_option maxHeartbeats 8000000 in
theorem law_holds : PySem.Challenge.rw_us0009_01.Holds := headM rfl rfl rfl (by
  show WalkO hd.view_39 looseM (XL hd.view_39 []) (kHook hd.heap_39 addrM addr_is).says _ _ _ _
  w_strict (k_fill
            intro w s₀ s₁ mg mb G Y fa o pm cd doc dV kV ho hd hcd hD hmg hg args vals as hpre hlay hrd hwl hlo
            have KX := kIn_of Y
            have X := (Ground.X G).1
            have V := (Ground.X G).2
            refine Ground.open G ?_
            intro T B D TE TW
            try (refine guard_noD D (by decide +kernel) ?_; clear D)
            obtain ⟨_, _, M⟩ := bmod_of_top T
            have TA := at_of_top T
            try (obtain ⟨_, _, he, B0⟩ := based_of_top T rfl hmg ho hd; have he' : cd = _ := he; subst he'; clear he)
            clear hmg
            wrow_args hpre hlay hrd hwl hlo
            all_goals (
              first | refine callC_kw (enter_call ?_) | refine enter_call ?_ | refine callC_kw (enter_callW ?_) | refine enter_callW ?_ | w_how
              w_top on
              try refine codeAny_mono ?_ (fun _ _ g => GoodW.toG g)
              have K0 := below_caller (Top.heap T)
              w_call any ho hd hcd hD T F
              clear hd TA
              k_drop
              skip)
            (rename Fr _ _ _ _ => FLaw)
            (rename Heap.IsList _ _ _ => hLs)
            (refine listName hLs ?_)
            (rintro scA rfl)
            (refine frTo FLaw (m' := fun y => if y = Str.ofString "script" then some (.ref scA) else none) ?eM ?_)
            (case eM => rfl)
            (clear FLaw)
            (intro FLaw)
            (all_goals try k_fold)
            k_steps)
  refine Blk.mk ?_
  (rename Fr _ _ _ _ => lF')
  (with_unfolding_all refine' For_invVF lF' ?k1 ?k2 ?_)
  (case k1 => exact rfl)
  (case k2 => exact rfl)
  k_steps
  refine Blk.mk ?_
  (rename PySem.World => w)
  (rename PySem.Shared => sB)
  (rename Fr _ _ _ _ => lF')
  (rename News _ _ _ _ => N5)
  (rename IntsAre _ _ => hI9)
  refine newsName3 N5 ?_
  rintro dA lnA oB rfl rfl rfl
  refine intsName hI9 ?_
  rintro ws rfl
  k_dflt (refine' kst_listL (σ := List Value × List Int × Nat × Int × Tok) (l := dA) (nn := 0) (fun e => [(dA, listOf ws.toArray 0), (lnA, listOf e.1.toArray e.2.2.1), (sB.heap.objs.size + 1, oB)]) (fun e => [(Str.ofString "place", .int e.2.2.2.1 e.2.2.2.2)]) (fun e => IntsAre e.1 e.2.1) [] (fun pre e => e.2.1.length = 5) (_, [436, 455, 1, 1, 1], 0, 0, _) ?sa1 (fun e => .head _) hI9 lF' N5 ?sa4 ?sa5 ?sa6 ?sa7 ?sa8)
  (case sa1 => exact rfl)
  (case sa4 => exact IntsAre.cons _ _ (IntsAre.cons _ _ (IntsAre.cons _ _ (IntsAre.cons _ _ (IntsAre.cons _ _ IntsAre.nil)))))
  (case sa5 => exact List.forall_mem_cons.mpr ⟨by with_unfolding_all rfl, List.forall_mem_nil _⟩)
  (case sa6 => exact rfl)
  (case sa7 =>
    rintro ⟨vc, nc, c9, pl, tp⟩ pj post j tj u5 h5 tk5 own5 hsp hjm hown hf5 hP5 F5 N5
    dsimp only [kstB, List.cons_append, List.nil_append] at hf5 hP5 F5 N5
    have hidx : 0 ≤ pl.fmod 5 ∧ pl.fmod 5 < 5 := by rw [Int.fmod_eq_emod_of_nonneg _ (by decide)]; omega
    k_steps
    refine Blk.mk ?_
    k_dflt (refine' ksa_set (ns := nc) ?kF ?kN ?kU hf5 hidx.1 (by rw [hP5]; exact hidx.2) (by omega) ?_)
    (case kF => k_asm)
    (case kN => k_asm)
    (case kU => k_upd)
    intro h4 F4 N4 hi4 hl4 hs4
    k_steps)
  (case sa8 =>
    rintro ⟨vc, nc, c9, pl, tp⟩ u8 h8 tk8 hf8 hP8 F8 N8
    dsimp only [kstB, List.cons_append, List.nil_append] at hf8 hP8 F8 N8
    have hq : 1 ≤ 1 + (nc.getD 4 0).fmod 3 ∧ 1 + (nc.getD 4 0).fmod 3 ≤ 3 := by rw [Int.fmod_eq_emod_of_nonneg _ (by decide)]; omega
    have hh : 1 ≤ 1 + (nc.getD 3 0).fmod 4 ∧ 1 + (nc.getD 3 0).fmod 4 ≤ 4 := by rw [Int.fmod_eq_emod_of_nonneg _ (by decide)]; omega
    have hkd : 0 ≤ (nc.getD 2 0).fmod 3 ∧ (nc.getD 2 0).fmod 3 ≤ 2 := by rw [Int.fmod_eq_emod_of_nonneg _ (by decide)]; omega
    have hst : 0 ≤ ((nc.getD 2 0).fdiv 3).fmod 3 ∧ ((nc.getD 2 0).fdiv 3).fmod 3 ≤ 2 := by rw [Int.fmod_eq_emod_of_nonneg _ (by decide)]; omega
    k_steps
    cell_ask (board_spec w _ _)
    intro v9 led9 h9 tk9 O9 A9 F9 N9
    obtain ⟨lb, vb, cb, rfl, rfl, Ib⟩ := O9
    simp only [List.forall_mem_cons] at A9
    obtain ⟨⟨a1, a2, a3, -⟩, -⟩ := A9
    dsimp only [List.cons_append, List.nil_append] at N9
    have TW := two (q := 1 + (nc.getD 4 0).fmod 3) (x := 1 + (nc.getD 3 0).fmod 4 + 1) hq (by omega) (nc.getD 0 0) (nc.getD 1 0) ((nc.getD 2 0).fmod 3)
    have hbB : Brd 4 (boardN (nc.getD 0 0)) := board_brd _
    obtain ⟨b, hb⟩ : ∃ b, b = boardN (nc.getD 0 0) := ⟨_, rfl⟩
    rw [← hb] at TW hbB
    replace Ib : IntsAre vb b := by rw [hb]; exact Ib
    k_steps
    cell_ask (partner_spec w lb vb b cb (nc.getD 1 0) ((nc.getD 2 0).fmod 3) _ _ Ib hbB hkd)
    intro v9 led9 h9 tk9 O9 A9 F9 N9
    obtain ⟨lc, vd, cd, rfl, rfl, Ic, n3⟩ := O9
    simp only [List.forall_mem_cons] at A9
    obtain ⟨⟨b1, b2, b3, -⟩, ⟨b4, b5, b6, -⟩, -⟩ := A9
    obtain ⟨c, hc⟩ : ∃ c, c = partN b (nc.getD 1 0) ((nc.getD 2 0).fmod 3) := ⟨_, rfl⟩
    rw [← hc] at TW Ic
    dsimp only [List.cons_append, List.nil_append] at N9
    dsimp only
    have hlb : b.length = 4 := TW.b4.1
    have hlc : c.length = 4 := TW.c7.1
    k_steps
    (rename IntsAre _ (b ++ c) => Im)
    (rename News _ _ _ _ => N6)
    refine newsName1 N6 ?_
    rintro lm rfl
    refine intsName Im ?_
    rintro vm rfl
    have hb8 := board8 TW.b4 TW.c7
    cell_ask (mail_spec w lm vm (b ++ c) 0 (((nc.getD 2 0).fdiv 3).fmod 3) _ Im hb8.1 hb8.2 hst)
    intro v9 led9 h9 tk9 O9 A9 F9 N9
    obtain ⟨rfl, tm, rfl⟩ := O9
    simp only [List.forall_mem_cons] at A9
    obtain ⟨⟨d1, d2, d3, d4, d5, -⟩, -⟩ := A9
    dsimp only [List.cons_append, List.nil_append] at N9
    dsimp only
    k_steps
    refine Blk.mk ?_
    (rename IsRange _ _ _ _ _ _ _ _ => rgX)
    (rename Fr _ _ _ _ => lF')
    (rename News _ _ _ _ => lN')
    refine newsLast6 lN' ?_
    rintro oC rfl
    obtain ⟨hn, hhn⟩ : ∃ hn : Nat, 1 + (nc.getD 3 0).fmod 4 = (hn : Int) := ⟨(1 + (nc.getD 3 0).fmod 4).toNat, by omega⟩
    have hn1 : 1 ≤ hn ∧ hn ≤ 4 := by omega
    have hmok := mail_ok (style := ((nc.getD 2 0).fdiv 3).fmod 3) hb8.2
    k_dflt (refine' kst_range (σ := Str × Tok) (n := hn) (fun e => [(lm, listOf vm.toArray 0), (lc, listOf vd.toArray cd), (lb, listOf vb.toArray cb), (dA, listOf ws.toArray 0), (lnA, listOf vc.toArray c9), (sB.heap.objs.size + 1, oC)]) (fun e => [(Str.ofString "mail", .str e.1 e.2)]) (fun e => True) [] (fun pj e => e.1 = strL (mailL (upK pj.length (mailRows (b ++ c) (((nc.getD 2 0).fdiv 3).fmod 3))))) (_, _) ?ca1 rgX ?ca2 ?ca3 lF' lN' ?ca4 ?ca5 ?ca6 ?ca7 ?ca8)
    (case ca1 => exact rfl)
    (case ca2 => exact small_one (by omega) (by omega) (by show -(2 ^ 62) ≤ 1 + (nc.getD 3 0).fmod 4; omega) (by show 1 + (nc.getD 3 0).fmod 4 < 2 ^ 62; omega))
    (case ca3 => exact range_one hhn)
    (case ca4 => exact trivial)
    (case ca5 => exact List.forall_mem_cons.mpr ⟨by with_unfolding_all rfl, List.forall_mem_nil _⟩)
    (case ca6 => exact rfl)
    (case ca7 =>
      rintro ⟨x7, t7⟩ pj j tj u5 h5 tk5 own5 hj hjn hown hf5 hP5 F5 N5
      dsimp only [kstB, List.cons_append, List.nil_append] at hP5 F5 N5
      subst hP5
      k_steps
      cell_ask (quote_rows' w (upK pj.length (mailRows (b ++ c) (((nc.getD 2 0).fdiv 3).fmod 3))) _ (by rw [upK_length, mailRows_length]; exact hb8.1) (fun q hq => by have := upK_ok hmok pj.length q hq; exact ⟨this.1, by omega, this.2.2⟩))
      intro v9 led9 h9 tk9 O9 A9 F9 N9
      obtain ⟨rfl, t9, rfl⟩ := O9
      dsimp only [List.cons_append, List.nil_append] at N9
      dsimp only
      k_steps)
    (case ca8 =>
      rintro ⟨x8, t8⟩ u8 h8 tk8 hf8 hP8 F8 N8
      dsimp only [kstB, List.cons_append, List.nil_append] at hP8 F8 N8
      rw [rangeKs_length, upK_txt _ _ hn1.1] at hP8
      subst hP8
      k_steps
      have hds := dsN_ok (k := hn) hb8.1 hb8.2 hn1.2
      cell_ask (read_spec w (dsN (b ++ c) hn) _ hds.1 hds.2)
      intro v9 led9 h9 tk9 O9 A9 F9 N9
      obtain ⟨lr, vr, cr, rfl, rfl, Ir⟩ := O9
      rw [dsN_int hhn hb8.2] at Ir
      simp only [List.forall_mem_cons] at A9
      obtain ⟨⟨e1, e2, e3, e4, e5, e6, -⟩, -⟩ := A9
      dsimp only [List.cons_append, List.nil_append] at N9
      k_steps
      cell_ask (agree_spec w lr lb lc vr vb vd ((b ++ c).map fun n => n + (1 + (nc.getD 3 0).fmod 4) + 1) b c cr cb cd ((nc.getD 2 0).fmod 3) (1 + (nc.getD 3 0).fmod 4 + 1) (1 + (nc.getD 4 0).fmod 3) _ _ _ Ir Ib Ic (by rw [List.length_map]; exact hb8.1) hq (by omega) TW e3 e2 n3
        (fun i hi => by rw [Nat.zero_add]; exact rs_lo hlb hi) (fun i hi => rs_hi hlb hlc hi))
      intro v9 led9 h9 tk9 O9 A9 F9 N9
      obtain ⟨rfl, rfl⟩ := O9
      dsimp only [List.cons_append, List.nil_append] at N9
      k_steps)))
end
end Mine
end
theorem PySem.Challenge.cw_us0009_01_holds : PySem.Challenge.rw_us0009_01.Holds :=
  Mine.law_holds
