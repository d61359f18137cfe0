import PyProof.Rows.All
import Wide.All
import OpenK.AllK
import Wide.FinOn
import Lean
import PySem.Challenge.RW_wn0091_01
set_option Elab.async false
set_option maxRecDepth 100000
set_option maxHeartbeats 8000000
set_option linter.unusedVariables false
namespace W91
section
open PySem PySem.W PyProof.Rows
noncomputable abbrev pw : Program := PySem.Challenge.pw_wn0091_01
noncomputable def st (i : Nat) : Stmt := pw.main.body.getD i (.Pass ⟨0, 0, 0, 0⟩)
noncomputable def stA : Stmt → Arguments
  | .FunctionDef _ a _ _ _ _ _ _ _ _ => a
  | _ => ⟨[], [], none, [], [], none, []⟩
noncomputable def stB : Stmt → List Stmt
  | .FunctionDef _ _ b _ _ _ _ _ _ _ => b
  | _ => []
noncomputable def stS : Stmt → Scope
  | .FunctionDef _ _ _ _ _ _ s _ _ _ => s
  | _ => pw.main.scope
noncomputable abbrev lit_of {α : Type} {a x : α} (_ : a = x) : α := x
noncomputable abbrev B5 : List Stmt := lit_of (a := stB (st 5)) (by conv => lhs; whnf)
noncomputable abbrev S5 : Scope := lit_of (a := stS (st 5)) (by conv => lhs; whnf)
noncomputable abbrev A5 : Arguments := lit_of (a := stA (st 5)) (by conv => lhs; whnf)
noncomputable abbrev B7 : List Stmt := lit_of (a := stB (st 7)) (by conv => lhs; whnf)
noncomputable abbrev S7 : Scope := lit_of (a := stS (st 7)) (by conv => lhs; whnf)
noncomputable abbrev A7 : Arguments := lit_of (a := stA (st 7)) (by conv => lhs; whnf)
noncomputable abbrev B8 : List Stmt := lit_of (a := stB (st 8)) (by conv => lhs; whnf)
noncomputable abbrev S8 : Scope := lit_of (a := stS (st 8)) (by conv => lhs; whnf)
noncomputable abbrev A8 : Arguments := lit_of (a := stA (st 8)) (by conv => lhs; whnf)
noncomputable abbrev B9 : List Stmt := lit_of (a := stB (st 9)) (by conv => lhs; whnf)
noncomputable abbrev S9 : Scope := lit_of (a := stS (st 9)) (by conv => lhs; whnf)
noncomputable abbrev A9 : Arguments := lit_of (a := stA (st 9)) (by conv => lhs; whnf)
noncomputable abbrev B10 : List Stmt := lit_of (a := stB (st 10)) (by conv => lhs; whnf)
noncomputable abbrev S10 : Scope := lit_of (a := stS (st 10)) (by conv => lhs; whnf)
noncomputable abbrev A10 : Arguments := lit_of (a := stA (st 10)) (by conv => lhs; whnf)
noncomputable abbrev B11 : List Stmt := lit_of (a := stB (st 11)) (by conv => lhs; whnf)
noncomputable abbrev S11 : Scope := lit_of (a := stS (st 11)) (by conv => lhs; whnf)
noncomputable abbrev A11 : Arguments := lit_of (a := stA (st 11)) (by conv => lhs; whnf)
noncomputable abbrev B12 : List Stmt := lit_of (a := stB (st 12)) (by conv => lhs; whnf)
noncomputable abbrev S12 : Scope := lit_of (a := stS (st 12)) (by conv => lhs; whnf)
noncomputable abbrev A12 : Arguments := lit_of (a := stA (st 12)) (by conv => lhs; whnf)
noncomputable abbrev B13 : List Stmt := lit_of (a := stB (st 13)) (by conv => lhs; whnf)
noncomputable abbrev S13 : Scope := lit_of (a := stS (st 13)) (by conv => lhs; whnf)
noncomputable abbrev A13 : Arguments := lit_of (a := stA (st 13)) (by conv => lhs; whnf)
noncomputable abbrev B14 : List Stmt := lit_of (a := stB (st 14)) (by conv => lhs; whnf)
noncomputable abbrev S14 : Scope := lit_of (a := stS (st 14)) (by conv => lhs; whnf)
noncomputable abbrev A14 : Arguments := lit_of (a := stA (st 14)) (by conv => lhs; whnf)
noncomputable abbrev B15 : List Stmt := lit_of (a := stB (st 15)) (by conv => lhs; whnf)
noncomputable abbrev S15 : Scope := lit_of (a := stS (st 15)) (by conv => lhs; whnf)
noncomputable abbrev A15 : Arguments := lit_of (a := stA (st 15)) (by conv => lhs; whnf)
noncomputable abbrev B16 : List Stmt := lit_of (a := stB (st 16)) (by conv => lhs; whnf)
noncomputable abbrev S16 : Scope := lit_of (a := stS (st 16)) (by conv => lhs; whnf)
noncomputable abbrev A16 : Arguments := lit_of (a := stA (st 16)) (by conv => lhs; whnf)
noncomputable abbrev B17 : List Stmt := lit_of (a := stB (st 17)) (by conv => lhs; whnf)
noncomputable abbrev S17 : Scope := lit_of (a := stS (st 17)) (by conv => lhs; whnf)
noncomputable abbrev A17 : Arguments := lit_of (a := stA (st 17)) (by conv => lhs; whnf)
noncomputable abbrev B18 : List Stmt := lit_of (a := stB (st 18)) (by conv => lhs; whnf)
noncomputable abbrev S18 : Scope := lit_of (a := stS (st 18)) (by conv => lhs; whnf)
noncomputable abbrev A18 : Arguments := lit_of (a := stA (st 18)) (by conv => lhs; whnf)
noncomputable abbrev B19 : List Stmt := lit_of (a := stB (st 19)) (by conv => lhs; whnf)
noncomputable abbrev S19 : Scope := lit_of (a := stS (st 19)) (by conv => lhs; whnf)
noncomputable abbrev A19 : Arguments := lit_of (a := stA (st 19)) (by conv => lhs; whnf)
noncomputable abbrev B24 : List Stmt := lit_of (a := stB (st 24)) (by conv => lhs; whnf)
noncomputable abbrev S24 : Scope := lit_of (a := stS (st 24)) (by conv => lhs; whnf)
noncomputable abbrev A24 : Arguments := lit_of (a := stA (st 24)) (by conv => lhs; whnf)
noncomputable abbrev B25 : List Stmt := lit_of (a := stB (st 25)) (by conv => lhs; whnf)
noncomputable abbrev S25 : Scope := lit_of (a := stS (st 25)) (by conv => lhs; whnf)
noncomputable abbrev A25 : Arguments := lit_of (a := stA (st 25)) (by conv => lhs; whnf)
noncomputable abbrev B77 : List Stmt := lit_of (a := stB (st 77)) (by conv => lhs; whnf)
noncomputable abbrev S77 : Scope := lit_of (a := stS (st 77)) (by conv => lhs; whnf)
noncomputable abbrev A77 : Arguments := lit_of (a := stA (st 77)) (by conv => lhs; whnf)
noncomputable abbrev B79 : List Stmt := lit_of (a := stB (st 79)) (by conv => lhs; whnf)
noncomputable abbrev S79 : Scope := lit_of (a := stS (st 79)) (by conv => lhs; whnf)
noncomputable abbrev A79 : Arguments := lit_of (a := stA (st 79)) (by conv => lhs; whnf)
noncomputable abbrev B80 : List Stmt := lit_of (a := stB (st 80)) (by conv => lhs; whnf)
noncomputable abbrev S80 : Scope := lit_of (a := stS (st 80)) (by conv => lhs; whnf)
noncomputable abbrev A80 : Arguments := lit_of (a := stA (st 80)) (by conv => lhs; whnf)
noncomputable abbrev B81 : List Stmt := lit_of (a := stB (st 81)) (by conv => lhs; whnf)
noncomputable abbrev S81 : Scope := lit_of (a := stS (st 81)) (by conv => lhs; whnf)
noncomputable abbrev A81 : Arguments := lit_of (a := stA (st 81)) (by conv => lhs; whnf)
noncomputable abbrev B82 : List Stmt := lit_of (a := stB (st 82)) (by conv => lhs; whnf)
noncomputable abbrev S82 : Scope := lit_of (a := stS (st 82)) (by conv => lhs; whnf)
noncomputable abbrev A82 : Arguments := lit_of (a := stA (st 82)) (by conv => lhs; whnf)
noncomputable abbrev B83 : List Stmt := lit_of (a := stB (st 83)) (by conv => lhs; whnf)
noncomputable abbrev S83 : Scope := lit_of (a := stS (st 83)) (by conv => lhs; whnf)
noncomputable abbrev A83 : Arguments := lit_of (a := stA (st 83)) (by conv => lhs; whnf)
noncomputable abbrev B84 : List Stmt := lit_of (a := stB (st 84)) (by conv => lhs; whnf)
noncomputable abbrev S84 : Scope := lit_of (a := stS (st 84)) (by conv => lhs; whnf)
noncomputable abbrev A84 : Arguments := lit_of (a := stA (st 84)) (by conv => lhs; whnf)
noncomputable abbrev B85 : List Stmt := lit_of (a := stB (st 85)) (by conv => lhs; whnf)
noncomputable abbrev S85 : Scope := lit_of (a := stS (st 85)) (by conv => lhs; whnf)
noncomputable abbrev A85 : Arguments := lit_of (a := stA (st 85)) (by conv => lhs; whnf)
noncomputable abbrev B86 : List Stmt := lit_of (a := stB (st 86)) (by conv => lhs; whnf)
noncomputable abbrev S86 : Scope := lit_of (a := stS (st 86)) (by conv => lhs; whnf)
noncomputable abbrev A86 : Arguments := lit_of (a := stA (st 86)) (by conv => lhs; whnf)
noncomputable def K91 (P : Params) : Frag :=
  ((nat_lit 2), Obj.mk (Value.none) (none) (Data.dict (List.toArray ((DictEntry.mk (PyData.keyHash P (Str.ofString "\x69mport.loaded._sre"))
  (Value.str (Str.ofString "\x69mport.loaded._sre") 183) (Value.bool true)) ::
    (DictEntry.mk (PyData.keyHash P (Str.ofString "class._frozen_\x69mportlib.BuiltinImporter"))
  (Value.str (Str.ofString "class._frozen_\x69mportlib.BuiltinImporter") 185) (Value.ref 14)) ::
    (DictEntry.mk (PyData.keyHash P (Str.ofString "watched.\x69mport"))
  (Value.str (Str.ofString "watched.\x69mport") 206) (Value.ref 18)) ::
    (DictEntry.mk (PyData.keyHash P (Str.ofString "class._frozen_\x69mportlib.ModuleSpec"))
  (Value.str (Str.ofString "class._frozen_\x69mportlib.ModuleSpec") 216) (Value.ref 22)) ::
    (DictEntry.mk (PyData.keyHash P (Str.ofString "sys.modules.booked-epoch"))
  (Value.str (Str.ofString "sys.modules.booked-epoch") 245) (Value.int 3 0)) ::
    (DictEntry.mk (PyData.keyHash P (Str.ofString "\x69mport.later-laid._sre"))
  (Value.str (Str.ofString "\x69mport.later-laid._sre") 270) (Value.bool true)) ::
    (DictEntry.mk (PyData.keyHash P (Str.ofString "watched.library"))
  (Value.str (Str.ofString "watched.library") 272) (Value.ref 27)) ::
    (DictEntry.mk (PyData.keyHash P (Str.ofString "watched.library-objects"))
  (Value.str (Str.ofString "watched.library-objects") 0) (Value.str (Str.ofString "\x0c") 0)) ::
    (DictEntry.mk (PyData.keyHash P (Str.ofString "watched.library-deep._sre"))
  (Value.str (Str.ofString "watched.library-deep._sre") 273)
  (Value.str (Str.ofString "\x04\x00\x00\x0b\x04\x00\x00\x0b\x04\x00\x00\x03\x04\x00\x00\x0b\x08\x04dict\x02")
    0)) ::
    (DictEntry.mk (PyData.keyHash P (Str.ofString "type.__subclasses__.Exception.0"))
  (Value.str (Str.ofString "type.__subclasses__.Exception.0") 300)
  (Value.int 41 0)) ::
    (DictEntry.mk (PyData.keyHash P (Str.ofString "type.__subclasses__.Exception.n"))
  (Value.str (Str.ofString "type.__subclasses__.Exception.n") 301)
  (Value.int 1 0)) ::
    [])) 11) (#[])) ::
  ((nat_lit 3), Obj.mk (Value.type "dict") (none) (Data.dict (List.toArray ((DictEntry.mk (PyData.keyHash P (Str.ofString "__name__")) (Value.str (Str.ofString "__name__") 165)
  (Value.str (Str.ofString "law_wn0091_01") 739)) ::
    (DictEntry.mk (PyData.keyHash P (Str.ofString "__doc__")) (Value.str (Str.ofString "__doc__") 166)
  Value.none) ::
    (DictEntry.mk (PyData.keyHash P (Str.ofString "__package__")) (Value.str (Str.ofString "__package__") 167)
  Value.none) ::
    (DictEntry.mk (PyData.keyHash P (Str.ofString "__loader__")) (Value.str (Str.ofString "__loader__") 168)
  (Value.builtin "__main__.__loader__#opaque")) ::
    (DictEntry.mk (PyData.keyHash P (Str.ofString "__spec__")) (Value.str (Str.ofString "__spec__") 169)
  Value.none) ::
    (DictEntry.mk (PyData.keyHash P (Str.ofString "__annotations__"))
  (Value.str (Str.ofString "__annotations__") 170) (Value.ref 6)) ::
    (DictEntry.mk (PyData.keyHash P (Str.ofString "__builtins__"))
  (Value.str (Str.ofString "__builtins__") 171) (Value.ref 4)) ::
    (DictEntry.mk (PyData.keyHash P (Str.ofString "__file__")) (Value.str (Str.ofString "__file__") 173)
  (Value.str (Str.ofString "/claim/cut.py") 172)) ::
    (DictEntry.mk (PyData.keyHash P (Str.ofString "__cached__")) (Value.str (Str.ofString "__cached__") 174)
  Value.none) ::
    (DictEntry.mk (PyData.keyHash P (Str.ofString "_sre")) (Value.str (Str.ofString "_sre") 275)
  (Value.ref 12)) ::
    (DictEntry.mk (PyData.keyHash P (Str.ofString "Error")) (Value.str (Str.ofString "Error") 303)
  (Value.ref 41)) ::
    (DictEntry.mk (PyData.keyHash P (Str.ofString "error_reply")) (Value.str (Str.ofString "error_reply") 319)
  (Value.ref 54)) ::
    (DictEntry.mk (PyData.keyHash P (Str.ofString "error_proto")) (Value.str (Str.ofString "error_proto") 335)
  (Value.ref 66)) ::
    (DictEntry.mk (PyData.keyHash P (Str.ofString "parse229")) (Value.str (Str.ofString "parse229") 348)
  (Value.ref 75)) ::
    (DictEntry.mk (PyData.keyHash P (Str.ofString "lt")) (Value.str (Str.ofString "lt") 358)
  (Value.ref 82)) ::
    (DictEntry.mk (PyData.keyHash P (Str.ofString "ne")) (Value.str (Str.ofString "ne") 366)
  (Value.ref 89)) ::
    (DictEntry.mk (PyData.keyHash P (Str.ofString "add")) (Value.str (Str.ofString "add") 374)
  (Value.ref 96)) ::
    (DictEntry.mk (PyData.keyHash P (Str.ofString "and_")) (Value.str (Str.ofString "and_") 382)
  (Value.ref 103)) ::
    (DictEntry.mk (PyData.keyHash P (Str.ofString "inv")) (Value.str (Str.ofString "inv") 389)
  (Value.ref 110)) ::
    (DictEntry.mk (PyData.keyHash P (Str.ofString "mod")) (Value.str (Str.ofString "mod") 397)
  (Value.ref 117)) ::
    (DictEntry.mk (PyData.keyHash P (Str.ofString "or_")) (Value.str (Str.ofString "or_") 405)
  (Value.ref 124)) ::
    (DictEntry.mk (PyData.keyHash P (Str.ofString "sub")) (Value.str (Str.ofString "sub") 413)
  (Value.ref 131)) ::
    (DictEntry.mk (PyData.keyHash P (Str.ofString "xor")) (Value.str (Str.ofString "xor") 421)
  (Value.ref 138)) ::
    (DictEntry.mk (PyData.keyHash P (Str.ofString "countOf")) (Value.str (Str.ofString "countOf") 431)
  (Value.ref 145)) ::
    (DictEntry.mk (PyData.keyHash P (Str.ofString "getitem")) (Value.str (Str.ofString "getitem") 439)
  (Value.ref 152)) ::
    (DictEntry.mk (PyData.keyHash P (Str.ofString "indexOf")) (Value.str (Str.ofString "indexOf") 449)
  (Value.ref 159)) ::
    (DictEntry.mk (PyData.keyHash P (Str.ofString "setitem")) (Value.str (Str.ofString "setitem") 458)
  (Value.ref 166)) ::
    (DictEntry.mk (PyData.keyHash P (Str.ofString "_twin_re_1")) (Value.str (Str.ofString "_twin_re_1") 476)
  (Value.ref 171)) ::
    (DictEntry.mk (PyData.keyHash P (Str.ofString "_twin_re_2")) (Value.str (Str.ofString "_twin_re_2") 518)
  (Value.ref 176)) ::
    (DictEntry.mk (PyData.keyHash P (Str.ofString "CRLF")) (Value.str (Str.ofString "CRLF") 520)
  (Value.str (Str.ofString "\x0d\n") 519)) ::
    (DictEntry.mk (PyData.keyHash P (Str.ofString "quotedata")) (Value.str (Str.ofString "quotedata") 527)
  (Value.ref 183)) ::
    (DictEntry.mk (PyData.keyHash P (Str.ofString "_fix_eols")) (Value.str (Str.ofString "_fix_eols") 534)
  (Value.ref 190)) ::
    (DictEntry.mk (PyData.keyHash P (Str.ofString "LPAR")) (Value.str (Str.ofString "LPAR") 538)
  (Value.int 7 537)) ::
    (DictEntry.mk (PyData.keyHash P (Str.ofString "RPAR")) (Value.str (Str.ofString "RPAR") 540)
  (Value.int 8 539)) ::
    (DictEntry.mk (PyData.keyHash P (Str.ofString "LSQB")) (Value.str (Str.ofString "LSQB") 542)
  (Value.int 9 541)) ::
    (DictEntry.mk (PyData.keyHash P (Str.ofString "RSQB")) (Value.str (Str.ofString "RSQB") 544)
  (Value.int 10 543)) ::
    (DictEntry.mk (PyData.keyHash P (Str.ofString "COLON")) (Value.str (Str.ofString "COLON") 546)
  (Value.int 11 545)) ::
    (DictEntry.mk (PyData.keyHash P (Str.ofString "COMMA")) (Value.str (Str.ofString "COMMA") 548)
  (Value.int 12 547)) ::
    (DictEntry.mk (PyData.keyHash P (Str.ofString "SEMI")) (Value.str (Str.ofString "SEMI") 550)
  (Value.int 13 549)) ::
    (DictEntry.mk (PyData.keyHash P (Str.ofString "PLUS")) (Value.str (Str.ofString "PLUS") 552)
  (Value.int 14 551)) ::
    (DictEntry.mk (PyData.keyHash P (Str.ofString "MINUS")) (Value.str (Str.ofString "MINUS") 554)
  (Value.int 15 553)) ::
    (DictEntry.mk (PyData.keyHash P (Str.ofString "STAR")) (Value.str (Str.ofString "STAR") 556)
  (Value.int 16 555)) ::
    (DictEntry.mk (PyData.keyHash P (Str.ofString "SLASH")) (Value.str (Str.ofString "SLASH") 558)
  (Value.int 17 557)) ::
    (DictEntry.mk (PyData.keyHash P (Str.ofString "VBAR")) (Value.str (Str.ofString "VBAR") 560)
  (Value.int 18 559)) ::
    (DictEntry.mk (PyData.keyHash P (Str.ofString "AMPER")) (Value.str (Str.ofString "AMPER") 562)
  (Value.int 19 561)) ::
    (DictEntry.mk (PyData.keyHash P (Str.ofString "LESS")) (Value.str (Str.ofString "LESS") 564)
  (Value.int 20 563)) ::
    (DictEntry.mk (PyData.keyHash P (Str.ofString "GREATER")) (Value.str (Str.ofString "GREATER") 566)
  (Value.int 21 565)) ::
    (DictEntry.mk (PyData.keyHash P (Str.ofString "EQUAL")) (Value.str (Str.ofString "EQUAL") 568)
  (Value.int 22 567)) ::
    (DictEntry.mk (PyData.keyHash P (Str.ofString "DOT")) (Value.str (Str.ofString "DOT") 570)
  (Value.int 23 569)) ::
    (DictEntry.mk (PyData.keyHash P (Str.ofString "PERCENT")) (Value.str (Str.ofString "PERCENT") 572)
  (Value.int 24 571)) ::
    (DictEntry.mk (PyData.keyHash P (Str.ofString "LBRACE")) (Value.str (Str.ofString "LBRACE") 574)
  (Value.int 25 573)) ::
    (DictEntry.mk (PyData.keyHash P (Str.ofString "RBRACE")) (Value.str (Str.ofString "RBRACE") 576)
  (Value.int 26 575)) ::
    (DictEntry.mk (PyData.keyHash P (Str.ofString "EQEQUAL")) (Value.str (Str.ofString "EQEQUAL") 578)
  (Value.int 27 577)) ::
    (DictEntry.mk (PyData.keyHash P (Str.ofString "NOTEQUAL")) (Value.str (Str.ofString "NOTEQUAL") 580)
  (Value.int 28 579)) ::
    (DictEntry.mk (PyData.keyHash P (Str.ofString "LESSEQUAL")) (Value.str (Str.ofString "LESSEQUAL") 582)
  (Value.int 29 581)) ::
    (DictEntry.mk (PyData.keyHash P (Str.ofString "GREATEREQUAL"))
  (Value.str (Str.ofString "GREATEREQUAL") 584) (Value.int 30 583)) ::
    (DictEntry.mk (PyData.keyHash P (Str.ofString "TILDE")) (Value.str (Str.ofString "TILDE") 586)
  (Value.int 31 585)) ::
    (DictEntry.mk (PyData.keyHash P (Str.ofString "CIRCUMFLEX")) (Value.str (Str.ofString "CIRCUMFLEX") 588)
  (Value.int 32 587)) ::
    (DictEntry.mk (PyData.keyHash P (Str.ofString "LEFTSHIFT")) (Value.str (Str.ofString "LEFTSHIFT") 590)
  (Value.int 33 589)) ::
    (DictEntry.mk (PyData.keyHash P (Str.ofString "RIGHTSHIFT")) (Value.str (Str.ofString "RIGHTSHIFT") 592)
  (Value.int 34 591)) ::
    (DictEntry.mk (PyData.keyHash P (Str.ofString "DOUBLESTAR")) (Value.str (Str.ofString "DOUBLESTAR") 594)
  (Value.int 35 593)) ::
    (DictEntry.mk (PyData.keyHash P (Str.ofString "PLUSEQUAL")) (Value.str (Str.ofString "PLUSEQUAL") 596)
  (Value.int 36 595)) ::
    (DictEntry.mk (PyData.keyHash P (Str.ofString "MINEQUAL")) (Value.str (Str.ofString "MINEQUAL") 598)
  (Value.int 37 597)) ::
    (DictEntry.mk (PyData.keyHash P (Str.ofString "STAREQUAL")) (Value.str (Str.ofString "STAREQUAL") 600)
  (Value.int 38 599)) ::
    (DictEntry.mk (PyData.keyHash P (Str.ofString "SLASHEQUAL")) (Value.str (Str.ofString "SLASHEQUAL") 602)
  (Value.int 39 601)) ::
    (DictEntry.mk (PyData.keyHash P (Str.ofString "PERCENTEQUAL"))
  (Value.str (Str.ofString "PERCENTEQUAL") 604) (Value.int 40 603)) ::
    (DictEntry.mk (PyData.keyHash P (Str.ofString "AMPEREQUAL")) (Value.str (Str.ofString "AMPEREQUAL") 606)
  (Value.int 41 605)) ::
    (DictEntry.mk (PyData.keyHash P (Str.ofString "VBAREQUAL")) (Value.str (Str.ofString "VBAREQUAL") 608)
  (Value.int 42 607)) ::
    (DictEntry.mk (PyData.keyHash P (Str.ofString "CIRCUMFLEXEQUAL"))
  (Value.str (Str.ofString "CIRCUMFLEXEQUAL") 610) (Value.int 43 609)) ::
    (DictEntry.mk (PyData.keyHash P (Str.ofString "LEFTSHIFTEQUAL"))
  (Value.str (Str.ofString "LEFTSHIFTEQUAL") 612) (Value.int 44 611)) ::
    (DictEntry.mk (PyData.keyHash P (Str.ofString "RIGHTSHIFTEQUAL"))
  (Value.str (Str.ofString "RIGHTSHIFTEQUAL") 614) (Value.int 45 613)) ::
    (DictEntry.mk (PyData.keyHash P (Str.ofString "DOUBLESTAREQUAL"))
  (Value.str (Str.ofString "DOUBLESTAREQUAL") 616) (Value.int 46 615)) ::
    (DictEntry.mk (PyData.keyHash P (Str.ofString "DOUBLESLASH")) (Value.str (Str.ofString "DOUBLESLASH") 618)
  (Value.int 47 617)) ::
    (DictEntry.mk (PyData.keyHash P (Str.ofString "DOUBLESLASHEQUAL"))
  (Value.str (Str.ofString "DOUBLESLASHEQUAL") 620) (Value.int 48 619)) ::
    (DictEntry.mk (PyData.keyHash P (Str.ofString "AT")) (Value.str (Str.ofString "AT") 622)
  (Value.int 49 621)) ::
    (DictEntry.mk (PyData.keyHash P (Str.ofString "ATEQUAL")) (Value.str (Str.ofString "ATEQUAL") 624)
  (Value.int 50 623)) ::
    (DictEntry.mk (PyData.keyHash P (Str.ofString "RARROW")) (Value.str (Str.ofString "RARROW") 626)
  (Value.int 51 625)) ::
    (DictEntry.mk (PyData.keyHash P (Str.ofString "ELLIPSIS")) (Value.str (Str.ofString "ELLIPSIS") 628)
  (Value.int 52 627)) ::
    (DictEntry.mk (PyData.keyHash P (Str.ofString "COLONEQUAL")) (Value.str (Str.ofString "COLONEQUAL") 630)
  (Value.int 53 629)) ::
    (DictEntry.mk (PyData.keyHash P (Str.ofString "EXCLAMATION")) (Value.str (Str.ofString "EXCLAMATION") 632)
  (Value.int 54 631)) ::
    (DictEntry.mk (PyData.keyHash P (Str.ofString "NT_OFFSET")) (Value.str (Str.ofString "NT_OFFSET") 634)
  (Value.int 256 633)) ::
    (DictEntry.mk (PyData.keyHash P (Str.ofString "EXACT_TOKEN_TYPES"))
  (Value.str (Str.ofString "EXACT_TOKEN_TYPES") 731) (Value.ref 191)) ::
    (DictEntry.mk (PyData.keyHash P (Str.ofString "ISTERMINAL")) (Value.str (Str.ofString "ISTERMINAL") 738)
  (Value.ref 200)) ::
    (DictEntry.mk (PyData.keyHash P (Str.ofString "_law_row")) (Value.str (Str.ofString "_law_row") 751)
  (Value.ref 207)) ::
    (DictEntry.mk (PyData.keyHash P (Str.ofString "_law_pair")) (Value.str (Str.ofString "_law_pair") 763)
  (Value.ref 214)) ::
    (DictEntry.mk (PyData.keyHash P (Str.ofString "_law_run")) (Value.str (Str.ofString "_law_run") 783)
  (Value.ref 221)) ::
    (DictEntry.mk (PyData.keyHash P (Str.ofString "_law_due")) (Value.str (Str.ofString "_law_due") 797)
  (Value.ref 228)) ::
    (DictEntry.mk (PyData.keyHash P (Str.ofString "_law_sums")) (Value.str (Str.ofString "_law_sums") 807)
  (Value.ref 235)) ::
    (DictEntry.mk (PyData.keyHash P (Str.ofString "_law_heads")) (Value.str (Str.ofString "_law_heads") 813)
  (Value.ref 240)) ::
    (DictEntry.mk (PyData.keyHash P (Str.ofString "_law_agrees")) (Value.str (Str.ofString "_law_agrees") 819)
  (Value.ref 245)) ::
    (DictEntry.mk (PyData.keyHash P (Str.ofString "law")) (Value.str (Str.ofString "law") 825)
  (Value.ref 250)) ::
    [])) 91) (#[])) ::
  ((nat_lit 32), Obj.mk (Value.type "tuple") none (Data.seq #[Value.type "Exception"]) #[]) ::
  ((nat_lit 39), Obj.mk (Value.type "tuple") none (Data.seq #[]) #[]) ::
  ((nat_lit 40), Obj.mk (Value.type "dict") (none) (Data.dict (List.toArray ((DictEntry.mk (PyData.keyHash P (Str.ofString "__module__")) (Value.str (Str.ofString "__module__") 291)
  (Value.str (Str.ofString "cpy313.ftplib") 282)) ::
    (DictEntry.mk (PyData.keyHash P (Str.ofString "__firstlineno__"))
  (Value.str (Str.ofString "__firstlineno__") 295) (Value.int 3 294)) ::
    (DictEntry.mk (PyData.keyHash P (Str.ofString "__static_attributes__"))
  (Value.str (Str.ofString "__static_attributes__") 296) (Value.ref 39)) ::
    (DictEntry.mk (PyData.keyHash P (Str.ofString "__weakref__")) (Value.str (Str.ofString "__weakref__") 298)
  (Value.ref 42)) ::
    (DictEntry.mk (PyData.keyHash P (Str.ofString "__doc__")) (Value.str (Str.ofString "__doc__") 299)
  Value.none) ::
    [])) 3) (#[])) ::
  ((nat_lit 41), Obj.mk (Value.type "type") none
  (Data.cls
    (ClassData.mk (Str.ofString "Error") [Value.type "Exception"]
      [Value.ref 41, Value.type "Exception", Value.type "BaseException", Value.type "object"]
      40 (Str.ofString "Error") true [] [Value.ref 54, Value.ref 66] false
      none false))
  #[some (Value.ref 32), none, some (Value.str (Str.ofString "Error") 284),
    some (Value.str (Str.ofString "Error") 292), some (Value.builtin "Exception.__new__"),
    some (Value.bool true)]) ::
  ((nat_lit 42), Obj.mk (Value.type "getset_descriptor") none
  (Data.fields
    #[Value.str (Str.ofString "__weakref__") 297, Value.ref 41,
      Value.builtin "ExceptionGroup.__weakref__", Value.none])
  #[]) ::
  ((nat_lit 45), Obj.mk (Value.type "tuple") none (Data.seq #[Value.ref 41]) #[]) ::
  ((nat_lit 52), Obj.mk (Value.type "tuple") none (Data.seq #[]) #[]) ::
  ((nat_lit 53), Obj.mk (Value.type "dict") (none) (Data.dict (List.toArray ((DictEntry.mk (PyData.keyHash P (Str.ofString "__module__")) (Value.str (Str.ofString "__module__") 311)
  (Value.str (Str.ofString "cpy313.ftplib") 282)) ::
    (DictEntry.mk (PyData.keyHash P (Str.ofString "__firstlineno__"))
  (Value.str (Str.ofString "__firstlineno__") 315) (Value.int 5 314)) ::
    (DictEntry.mk (PyData.keyHash P (Str.ofString "__static_attributes__"))
  (Value.str (Str.ofString "__static_attributes__") 316) (Value.ref 52)) ::
    (DictEntry.mk (PyData.keyHash P (Str.ofString "__doc__")) (Value.str (Str.ofString "__doc__") 317)
  Value.none) ::
    [])) 2) (#[])) ::
  ((nat_lit 54), Obj.mk (Value.type "type") none
  (Data.cls
    (ClassData.mk (Str.ofString "error_reply") [Value.ref 41]
      [Value.ref 54, Value.ref 41, Value.type "Exception", Value.type "BaseException",
        Value.type "object"]
      53 (Str.ofString "error_reply") true [] [] false none false))
  #[some (Value.ref 45), none, some (Value.str (Str.ofString "error_reply") 304),
    some (Value.str (Str.ofString "error_reply") 312), some (Value.builtin "Exception.__new__"),
    some (Value.bool true)]) ::
  ((nat_lit 57), Obj.mk (Value.type "tuple") none (Data.seq #[Value.ref 41]) #[]) ::
  ((nat_lit 64), Obj.mk (Value.type "tuple") none (Data.seq #[]) #[]) ::
  ((nat_lit 65), Obj.mk (Value.type "dict") (none) (Data.dict (List.toArray ((DictEntry.mk (PyData.keyHash P (Str.ofString "__module__")) (Value.str (Str.ofString "__module__") 327)
  (Value.str (Str.ofString "cpy313.ftplib") 282)) ::
    (DictEntry.mk (PyData.keyHash P (Str.ofString "__firstlineno__"))
  (Value.str (Str.ofString "__firstlineno__") 331) (Value.int 7 330)) ::
    (DictEntry.mk (PyData.keyHash P (Str.ofString "__static_attributes__"))
  (Value.str (Str.ofString "__static_attributes__") 332) (Value.ref 64)) ::
    (DictEntry.mk (PyData.keyHash P (Str.ofString "__doc__")) (Value.str (Str.ofString "__doc__") 333)
  Value.none) ::
    [])) 2) (#[])) ::
  ((nat_lit 66), Obj.mk (Value.type "type") none
  (Data.cls
    (ClassData.mk (Str.ofString "error_proto") [Value.ref 41]
      [Value.ref 66, Value.ref 41, Value.type "Exception", Value.type "BaseException",
        Value.type "object"]
      65 (Str.ofString "error_proto") true [] [] false none false))
  #[some (Value.ref 57), none, some (Value.str (Str.ofString "error_proto") 320),
    some (Value.str (Str.ofString "error_proto") 328), some (Value.builtin "Exception.__new__"),
    some (Value.bool true)]) ::
  ((nat_lit 69), Obj.mk (Value.type "tuple") none (Data.seq #[]) #[]) ::
  ((nat_lit 71), Obj.mk (Value.type "tuple") none
  (Data.seq
    #[Value.str (Str.ofString "resp") 339, Value.str (Str.ofString "peer") 340,
      Value.str (Str.ofString "left") 341, Value.str (Str.ofString "right") 342,
      Value.str (Str.ofString "parts") 343, Value.str (Str.ofString "host") 344,
      Value.str (Str.ofString "port") 345])
  #[]) ::
  ((nat_lit 72), Obj.mk (Value.type "tuple") none (Data.seq #[]) #[]) ::
  ((nat_lit 74), Obj.mk (Value.type "code") none
  (Data.fields
    #[Value.str (Str.ofString "parse229") 336, Value.str (Str.ofString "parse229") 337,
      Value.str (Str.ofString "/claim/cut.py") 338, Value.int 9 0,
      Value.int 2 0, Value.int 0 0,
      Value.int 0 0, Value.int 3 0, Value.ref 69,
      Value.bool true, Value.int 276 0, Value.ref 70, Value.none,
      Value.ref 71, Value.ref 72, Value.ref 73,
      Value.int 346 0, Value.int 9 0,
      Value.str (Str.ofString "/claim/cut.py") 347])
  #[]) ::
  ((nat_lit 75), Obj.mk (Value.type "function") none
  (Data.func
    (FuncData.mk (Str.ofString "parse229") (Str.ofString "parse229") A5 (FuncBody.stmts B5) S5 3 []
      Value.none Value.none Value.none (Value.str (Str.ofString "cpy313.ftplib") 282) none
      (Value.ref 74) Value.none 0))
  #[]) ::
  ((nat_lit 76), Obj.mk (Value.type "tuple") none (Data.seq #[]) #[]) ::
  ((nat_lit 78), Obj.mk (Value.type "tuple") none
  (Data.seq #[Value.str (Str.ofString "a") 354, Value.str (Str.ofString "b") 355]) #[]) ::
  ((nat_lit 79), Obj.mk (Value.type "tuple") none (Data.seq #[]) #[]) ::
  ((nat_lit 81), Obj.mk (Value.type "code") none
  (Data.fields
    #[Value.str (Str.ofString "lt") 351, Value.str (Str.ofString "lt") 352,
      Value.str (Str.ofString "/claim/cut.py") 353, Value.int 27 0,
      Value.int 2 0, Value.int 0 0,
      Value.int 0 0, Value.int 3 0, Value.ref 76,
      Value.bool true, Value.int 276 0, Value.ref 77, Value.none,
      Value.ref 78, Value.ref 79, Value.ref 80,
      Value.int 356 0, Value.int 27 0,
      Value.str (Str.ofString "/claim/cut.py") 357])
  #[]) ::
  ((nat_lit 82), Obj.mk (Value.type "function") none
  (Data.func
    (FuncData.mk (Str.ofString "lt") (Str.ofString "lt") A7 (FuncBody.stmts B7) S7 3 [] Value.none
      Value.none Value.none (Value.str (Str.ofString "cpy313.operator") 349) none
      (Value.ref 81) Value.none 0))
  #[]) ::
  ((nat_lit 83), Obj.mk (Value.type "tuple") none (Data.seq #[]) #[]) ::
  ((nat_lit 85), Obj.mk (Value.type "tuple") none
  (Data.seq #[Value.str (Str.ofString "a") 362, Value.str (Str.ofString "b") 363]) #[]) ::
  ((nat_lit 86), Obj.mk (Value.type "tuple") none (Data.seq #[]) #[]) ::
  ((nat_lit 88), Obj.mk (Value.type "code") none
  (Data.fields
    #[Value.str (Str.ofString "ne") 359, Value.str (Str.ofString "ne") 360,
      Value.str (Str.ofString "/claim/cut.py") 361, Value.int 29 0,
      Value.int 2 0, Value.int 0 0,
      Value.int 0 0, Value.int 3 0, Value.ref 83,
      Value.bool true, Value.int 276 0, Value.ref 84, Value.none,
      Value.ref 85, Value.ref 86, Value.ref 87,
      Value.int 364 0, Value.int 29 0,
      Value.str (Str.ofString "/claim/cut.py") 365])
  #[]) ::
  ((nat_lit 89), Obj.mk (Value.type "function") none
  (Data.func
    (FuncData.mk (Str.ofString "ne") (Str.ofString "ne") A8 (FuncBody.stmts B8) S8 3 [] Value.none
      Value.none Value.none (Value.str (Str.ofString "cpy313.operator") 349) none
      (Value.ref 88) Value.none 0))
  #[]) ::
  ((nat_lit 90), Obj.mk (Value.type "tuple") none (Data.seq #[]) #[]) ::
  ((nat_lit 92), Obj.mk (Value.type "tuple") none
  (Data.seq #[Value.str (Str.ofString "a") 370, Value.str (Str.ofString "b") 371]) #[]) ::
  ((nat_lit 93), Obj.mk (Value.type "tuple") none (Data.seq #[]) #[]) ::
  ((nat_lit 95), Obj.mk (Value.type "code") none
  (Data.fields
    #[Value.str (Str.ofString "add") 367, Value.str (Str.ofString "add") 368,
      Value.str (Str.ofString "/claim/cut.py") 369, Value.int 31 0,
      Value.int 2 0, Value.int 0 0,
      Value.int 0 0, Value.int 3 0, Value.ref 90,
      Value.bool true, Value.int 276 0, Value.ref 91, Value.none,
      Value.ref 92, Value.ref 93, Value.ref 94,
      Value.int 372 0, Value.int 31 0,
      Value.str (Str.ofString "/claim/cut.py") 373])
  #[]) ::
  ((nat_lit 96), Obj.mk (Value.type "function") none
  (Data.func
    (FuncData.mk (Str.ofString "add") (Str.ofString "add") A9 (FuncBody.stmts B9) S9 3 [] Value.none
      Value.none Value.none (Value.str (Str.ofString "cpy313.operator") 349) none
      (Value.ref 95) Value.none 0))
  #[]) ::
  ((nat_lit 97), Obj.mk (Value.type "tuple") none (Data.seq #[]) #[]) ::
  ((nat_lit 99), Obj.mk (Value.type "tuple") none
  (Data.seq #[Value.str (Str.ofString "a") 378, Value.str (Str.ofString "b") 379]) #[]) ::
  ((nat_lit 100), Obj.mk (Value.type "tuple") none (Data.seq #[]) #[]) ::
  ((nat_lit 102), Obj.mk (Value.type "code") none
  (Data.fields
    #[Value.str (Str.ofString "and_") 375, Value.str (Str.ofString "and_") 376,
      Value.str (Str.ofString "/claim/cut.py") 377, Value.int 33 0,
      Value.int 2 0, Value.int 0 0,
      Value.int 0 0, Value.int 3 0, Value.ref 97,
      Value.bool true, Value.int 276 0, Value.ref 98, Value.none,
      Value.ref 99, Value.ref 100, Value.ref 101,
      Value.int 380 0, Value.int 33 0,
      Value.str (Str.ofString "/claim/cut.py") 381])
  #[]) ::
  ((nat_lit 103), Obj.mk (Value.type "function") none
  (Data.func
    (FuncData.mk (Str.ofString "and_") (Str.ofString "and_") A10 (FuncBody.stmts B10) S10 3 [] Value.none
      Value.none Value.none (Value.str (Str.ofString "cpy313.operator") 349) none
      (Value.ref 102) Value.none 0))
  #[]) ::
  ((nat_lit 104), Obj.mk (Value.type "tuple") none (Data.seq #[]) #[]) ::
  ((nat_lit 106), Obj.mk (Value.type "tuple") none (Data.seq #[Value.str (Str.ofString "a") 386]) #[]) ::
  ((nat_lit 107), Obj.mk (Value.type "tuple") none (Data.seq #[]) #[]) ::
  ((nat_lit 109), Obj.mk (Value.type "code") none
  (Data.fields
    #[Value.str (Str.ofString "inv") 383, Value.str (Str.ofString "inv") 384,
      Value.str (Str.ofString "/claim/cut.py") 385, Value.int 35 0,
      Value.int 1 0, Value.int 0 0,
      Value.int 0 0, Value.int 3 0, Value.ref 104,
      Value.bool true, Value.int 276 0, Value.ref 105, Value.none,
      Value.ref 106, Value.ref 107, Value.ref 108,
      Value.int 387 0, Value.int 35 0,
      Value.str (Str.ofString "/claim/cut.py") 388])
  #[]) ::
  ((nat_lit 110), Obj.mk (Value.type "function") none
  (Data.func
    (FuncData.mk (Str.ofString "inv") (Str.ofString "inv") A11 (FuncBody.stmts B11) S11 3 [] Value.none
      Value.none Value.none (Value.str (Str.ofString "cpy313.operator") 349) none
      (Value.ref 109) Value.none 0))
  #[]) ::
  ((nat_lit 111), Obj.mk (Value.type "tuple") none (Data.seq #[]) #[]) ::
  ((nat_lit 113), Obj.mk (Value.type "tuple") none
  (Data.seq #[Value.str (Str.ofString "a") 393, Value.str (Str.ofString "b") 394]) #[]) ::
  ((nat_lit 114), Obj.mk (Value.type "tuple") none (Data.seq #[]) #[]) ::
  ((nat_lit 116), Obj.mk (Value.type "code") none
  (Data.fields
    #[Value.str (Str.ofString "mod") 390, Value.str (Str.ofString "mod") 391,
      Value.str (Str.ofString "/claim/cut.py") 392, Value.int 37 0,
      Value.int 2 0, Value.int 0 0,
      Value.int 0 0, Value.int 3 0, Value.ref 111,
      Value.bool true, Value.int 276 0, Value.ref 112, Value.none,
      Value.ref 113, Value.ref 114, Value.ref 115,
      Value.int 395 0, Value.int 37 0,
      Value.str (Str.ofString "/claim/cut.py") 396])
  #[]) ::
  ((nat_lit 117), Obj.mk (Value.type "function") none
  (Data.func
    (FuncData.mk (Str.ofString "mod") (Str.ofString "mod") A12 (FuncBody.stmts B12) S12 3 [] Value.none
      Value.none Value.none (Value.str (Str.ofString "cpy313.operator") 349) none
      (Value.ref 116) Value.none 0))
  #[]) ::
  ((nat_lit 118), Obj.mk (Value.type "tuple") none (Data.seq #[]) #[]) ::
  ((nat_lit 120), Obj.mk (Value.type "tuple") none
  (Data.seq #[Value.str (Str.ofString "a") 401, Value.str (Str.ofString "b") 402]) #[]) ::
  ((nat_lit 121), Obj.mk (Value.type "tuple") none (Data.seq #[]) #[]) ::
  ((nat_lit 123), Obj.mk (Value.type "code") none
  (Data.fields
    #[Value.str (Str.ofString "or_") 398, Value.str (Str.ofString "or_") 399,
      Value.str (Str.ofString "/claim/cut.py") 400, Value.int 39 0,
      Value.int 2 0, Value.int 0 0,
      Value.int 0 0, Value.int 3 0, Value.ref 118,
      Value.bool true, Value.int 276 0, Value.ref 119, Value.none,
      Value.ref 120, Value.ref 121, Value.ref 122,
      Value.int 403 0, Value.int 39 0,
      Value.str (Str.ofString "/claim/cut.py") 404])
  #[]) ::
  ((nat_lit 124), Obj.mk (Value.type "function") none
  (Data.func
    (FuncData.mk (Str.ofString "or_") (Str.ofString "or_") A13 (FuncBody.stmts B13) S13 3 [] Value.none
      Value.none Value.none (Value.str (Str.ofString "cpy313.operator") 349) none
      (Value.ref 123) Value.none 0))
  #[]) ::
  ((nat_lit 125), Obj.mk (Value.type "tuple") none (Data.seq #[]) #[]) ::
  ((nat_lit 127), Obj.mk (Value.type "tuple") none
  (Data.seq #[Value.str (Str.ofString "a") 409, Value.str (Str.ofString "b") 410]) #[]) ::
  ((nat_lit 128), Obj.mk (Value.type "tuple") none (Data.seq #[]) #[]) ::
  ((nat_lit 130), Obj.mk (Value.type "code") none
  (Data.fields
    #[Value.str (Str.ofString "sub") 406, Value.str (Str.ofString "sub") 407,
      Value.str (Str.ofString "/claim/cut.py") 408, Value.int 41 0,
      Value.int 2 0, Value.int 0 0,
      Value.int 0 0, Value.int 3 0, Value.ref 125,
      Value.bool true, Value.int 276 0, Value.ref 126, Value.none,
      Value.ref 127, Value.ref 128, Value.ref 129,
      Value.int 411 0, Value.int 41 0,
      Value.str (Str.ofString "/claim/cut.py") 412])
  #[]) ::
  ((nat_lit 131), Obj.mk (Value.type "function") none
  (Data.func
    (FuncData.mk (Str.ofString "sub") (Str.ofString "sub") A14 (FuncBody.stmts B14) S14 3 [] Value.none
      Value.none Value.none (Value.str (Str.ofString "cpy313.operator") 349) none
      (Value.ref 130) Value.none 0))
  #[]) ::
  ((nat_lit 132), Obj.mk (Value.type "tuple") none (Data.seq #[]) #[]) ::
  ((nat_lit 134), Obj.mk (Value.type "tuple") none
  (Data.seq #[Value.str (Str.ofString "a") 417, Value.str (Str.ofString "b") 418]) #[]) ::
  ((nat_lit 135), Obj.mk (Value.type "tuple") none (Data.seq #[]) #[]) ::
  ((nat_lit 137), Obj.mk (Value.type "code") none
  (Data.fields
    #[Value.str (Str.ofString "xor") 414, Value.str (Str.ofString "xor") 415,
      Value.str (Str.ofString "/claim/cut.py") 416, Value.int 43 0,
      Value.int 2 0, Value.int 0 0,
      Value.int 0 0, Value.int 3 0, Value.ref 132,
      Value.bool true, Value.int 276 0, Value.ref 133, Value.none,
      Value.ref 134, Value.ref 135, Value.ref 136,
      Value.int 419 0, Value.int 43 0,
      Value.str (Str.ofString "/claim/cut.py") 420])
  #[]) ::
  ((nat_lit 138), Obj.mk (Value.type "function") none
  (Data.func
    (FuncData.mk (Str.ofString "xor") (Str.ofString "xor") A15 (FuncBody.stmts B15) S15 3 [] Value.none
      Value.none Value.none (Value.str (Str.ofString "cpy313.operator") 349) none
      (Value.ref 137) Value.none 0))
  #[]) ::
  ((nat_lit 139), Obj.mk (Value.type "tuple") none (Data.seq #[]) #[]) ::
  ((nat_lit 141), Obj.mk (Value.type "tuple") none
  (Data.seq
    #[Value.str (Str.ofString "a") 425, Value.str (Str.ofString "b") 426,
      Value.str (Str.ofString "count") 427, Value.str (Str.ofString "i") 428])
  #[]) ::
  ((nat_lit 142), Obj.mk (Value.type "tuple") none (Data.seq #[]) #[]) ::
  ((nat_lit 144), Obj.mk (Value.type "code") none
  (Data.fields
    #[Value.str (Str.ofString "countOf") 422, Value.str (Str.ofString "countOf") 423,
      Value.str (Str.ofString "/claim/cut.py") 424, Value.int 45 0,
      Value.int 2 0, Value.int 0 0,
      Value.int 0 0, Value.int 3 0, Value.ref 139,
      Value.bool true, Value.int 276 0, Value.ref 140, Value.none,
      Value.ref 141, Value.ref 142, Value.ref 143,
      Value.int 429 0, Value.int 45 0,
      Value.str (Str.ofString "/claim/cut.py") 430])
  #[]) ::
  ((nat_lit 145), Obj.mk (Value.type "function") none
  (Data.func
    (FuncData.mk (Str.ofString "countOf") (Str.ofString "countOf") A16 (FuncBody.stmts B16) S16 3 []
      Value.none Value.none Value.none (Value.str (Str.ofString "cpy313.operator") 349) none
      (Value.ref 144) Value.none 0))
  #[]) ::
  ((nat_lit 146), Obj.mk (Value.type "tuple") none (Data.seq #[]) #[]) ::
  ((nat_lit 148), Obj.mk (Value.type "tuple") none
  (Data.seq #[Value.str (Str.ofString "a") 435, Value.str (Str.ofString "b") 436]) #[]) ::
  ((nat_lit 149), Obj.mk (Value.type "tuple") none (Data.seq #[]) #[]) ::
  ((nat_lit 151), Obj.mk (Value.type "code") none
  (Data.fields
    #[Value.str (Str.ofString "getitem") 432, Value.str (Str.ofString "getitem") 433,
      Value.str (Str.ofString "/claim/cut.py") 434, Value.int 51 0,
      Value.int 2 0, Value.int 0 0,
      Value.int 0 0, Value.int 3 0, Value.ref 146,
      Value.bool true, Value.int 276 0, Value.ref 147, Value.none,
      Value.ref 148, Value.ref 149, Value.ref 150,
      Value.int 437 0, Value.int 51 0,
      Value.str (Str.ofString "/claim/cut.py") 438])
  #[]) ::
  ((nat_lit 152), Obj.mk (Value.type "function") none
  (Data.func
    (FuncData.mk (Str.ofString "getitem") (Str.ofString "getitem") A17 (FuncBody.stmts B17) S17 3 []
      Value.none Value.none Value.none (Value.str (Str.ofString "cpy313.operator") 349) none
      (Value.ref 151) Value.none 0))
  #[]) ::
  ((nat_lit 153), Obj.mk (Value.type "tuple") none (Data.seq #[]) #[]) ::
  ((nat_lit 155), Obj.mk (Value.type "tuple") none
  (Data.seq
    #[Value.str (Str.ofString "a") 443, Value.str (Str.ofString "b") 444,
      Value.str (Str.ofString "i") 445, Value.str (Str.ofString "j") 446])
  #[]) ::
  ((nat_lit 156), Obj.mk (Value.type "tuple") none (Data.seq #[]) #[]) ::
  ((nat_lit 158), Obj.mk (Value.type "code") none
  (Data.fields
    #[Value.str (Str.ofString "indexOf") 440, Value.str (Str.ofString "indexOf") 441,
      Value.str (Str.ofString "/claim/cut.py") 442, Value.int 53 0,
      Value.int 2 0, Value.int 0 0,
      Value.int 0 0, Value.int 3 0, Value.ref 153,
      Value.bool true, Value.int 276 0, Value.ref 154, Value.none,
      Value.ref 155, Value.ref 156, Value.ref 157,
      Value.int 447 0, Value.int 53 0,
      Value.str (Str.ofString "/claim/cut.py") 448])
  #[]) ::
  ((nat_lit 159), Obj.mk (Value.type "function") none
  (Data.func
    (FuncData.mk (Str.ofString "indexOf") (Str.ofString "indexOf") A18 (FuncBody.stmts B18) S18 3 []
      Value.none Value.none Value.none (Value.str (Str.ofString "cpy313.operator") 349) none
      (Value.ref 158) Value.none 0))
  #[]) ::
  ((nat_lit 160), Obj.mk (Value.type "tuple") none (Data.seq #[]) #[]) ::
  ((nat_lit 162), Obj.mk (Value.type "tuple") none
  (Data.seq
    #[Value.str (Str.ofString "a") 453, Value.str (Str.ofString "b") 454,
      Value.str (Str.ofString "c") 455])
  #[]) ::
  ((nat_lit 163), Obj.mk (Value.type "tuple") none (Data.seq #[]) #[]) ::
  ((nat_lit 165), Obj.mk (Value.type "code") none
  (Data.fields
    #[Value.str (Str.ofString "setitem") 450, Value.str (Str.ofString "setitem") 451,
      Value.str (Str.ofString "/claim/cut.py") 452, Value.int 59 0,
      Value.int 3 0, Value.int 0 0,
      Value.int 0 0, Value.int 3 0, Value.ref 160,
      Value.bool true, Value.int 276 0, Value.ref 161, Value.none,
      Value.ref 162, Value.ref 163, Value.ref 164,
      Value.int 456 0, Value.int 59 0,
      Value.str (Str.ofString "/claim/cut.py") 457])
  #[]) ::
  ((nat_lit 166), Obj.mk (Value.type "function") none
  (Data.func
    (FuncData.mk (Str.ofString "setitem") (Str.ofString "setitem") A19 (FuncBody.stmts B19) S19 3 []
      Value.none Value.none Value.none (Value.str (Str.ofString "cpy313.operator") 349) none
      (Value.ref 165) Value.none 0))
  #[]) ::
  ((nat_lit 170), Obj.mk (Value.type "tuple") none
  (Data.seq
    #[Value.int 14 0, Value.int 4 0,
      Value.int 0 0, Value.int 1 0,
      Value.int 1 0, Value.int 6 0,
      Value.int 1 0, Value.int 16 0,
      Value.int 46 0, Value.int 1 0])
  #[]) ::
  ((nat_lit 171), Obj.mk (Value.type "re.Pattern") none
  (Data.fields
    #[Value.str (Str.ofString "(?m)^\\.") 462, Value.int 40 475,
      Value.int 0 0, Value.none, Value.none, Value.ref 170,
      Value.int 0 0])
  #[]) ::
  ((nat_lit 175), Obj.mk (Value.type "tuple") none
  (Data.seq
    #[Value.int 14 0, Value.int 9 0,
      Value.int 4 0, Value.int 1 0,
      Value.int 2 0, Value.int 16 0,
      Value.int 10 0, Value.int 16 0,
      Value.int 13 0, Value.int 0 0,
      Value.int 7 0, Value.int 7 0,
      Value.int 16 0, Value.int 13 0,
      Value.int 16 0, Value.int 10 0,
      Value.int 15 0, Value.int 18 0,
      Value.int 5 0, Value.int 16 0,
      Value.int 10 0, Value.int 15 0,
      Value.int 13 0, Value.int 11 0,
      Value.int 16 0, Value.int 13 0,
      Value.int 5 0, Value.int 5 0,
      Value.int 0 0, Value.int 16 0,
      Value.int 10 0, Value.int 1 0,
      Value.int 15 0, Value.int 2 0,
      Value.int 0 0, Value.int 1 0])
  #[]) ::
  ((nat_lit 176), Obj.mk (Value.type "re.Pattern") none
  (Data.fields
    #[Value.str (Str.ofString "(?:\\r\\n|\\n|\\r(?!\\n))") 478,
      Value.int 32 517, Value.int 0 0, Value.none, Value.none,
      Value.ref 175, Value.int 0 0])
  #[]) ::
  ((nat_lit 177), Obj.mk (Value.type "tuple") none (Data.seq #[]) #[]) ::
  ((nat_lit 179), Obj.mk (Value.type "tuple") none (Data.seq #[Value.str (Str.ofString "data") 524]) #[]) ::
  ((nat_lit 180), Obj.mk (Value.type "tuple") none (Data.seq #[]) #[]) ::
  ((nat_lit 182), Obj.mk (Value.type "code") none
  (Data.fields
    #[Value.str (Str.ofString "quotedata") 521, Value.str (Str.ofString "quotedata") 522,
      Value.str (Str.ofString "/claim/cut.py") 523, Value.int 65 0,
      Value.int 1 0, Value.int 0 0,
      Value.int 0 0, Value.int 3 0, Value.ref 177,
      Value.bool true, Value.int 276 0, Value.ref 178, Value.none,
      Value.ref 179, Value.ref 180, Value.ref 181,
      Value.int 525 0, Value.int 65 0,
      Value.str (Str.ofString "/claim/cut.py") 526])
  #[]) ::
  ((nat_lit 183), Obj.mk (Value.type "function") none
  (Data.func
    (FuncData.mk (Str.ofString "quotedata") (Str.ofString "quotedata") A24 (FuncBody.stmts B24) S24 3 []
      Value.none Value.none Value.none (Value.str (Str.ofString "cpy313.smtplib") 459) none
      (Value.ref 182) Value.none 0))
  #[]) ::
  ((nat_lit 184), Obj.mk (Value.type "tuple") none (Data.seq #[]) #[]) ::
  ((nat_lit 186), Obj.mk (Value.type "tuple") none (Data.seq #[Value.str (Str.ofString "data") 531]) #[]) ::
  ((nat_lit 187), Obj.mk (Value.type "tuple") none (Data.seq #[]) #[]) ::
  ((nat_lit 189), Obj.mk (Value.type "code") none
  (Data.fields
    #[Value.str (Str.ofString "_fix_eols") 528, Value.str (Str.ofString "_fix_eols") 529,
      Value.str (Str.ofString "/claim/cut.py") 530, Value.int 67 0,
      Value.int 1 0, Value.int 0 0,
      Value.int 0 0, Value.int 3 0, Value.ref 184,
      Value.bool true, Value.int 276 0, Value.ref 185, Value.none,
      Value.ref 186, Value.ref 187, Value.ref 188,
      Value.int 532 0, Value.int 67 0,
      Value.str (Str.ofString "/claim/cut.py") 533])
  #[]) ::
  ((nat_lit 190), Obj.mk (Value.type "function") none
  (Data.func
    (FuncData.mk (Str.ofString "_fix_eols") (Str.ofString "_fix_eols") A25 (FuncBody.stmts B25) S25 3 []
      Value.none Value.none Value.none (Value.str (Str.ofString "cpy313.smtplib") 459) none
      (Value.ref 189) Value.none 0))
  #[]) ::
  ((nat_lit 191), Obj.mk (Value.type "dict") (none) (Data.dict (List.toArray ((DictEntry.mk (PyData.keyHash P (Str.ofString "!")) (Value.str (Str.ofString "!") 635)
  (Value.int 54 631)) ::
    (DictEntry.mk (PyData.keyHash P (Str.ofString "!=")) (Value.str (Str.ofString "!=") 637)
  (Value.int 28 579)) ::
    (DictEntry.mk (PyData.keyHash P (Str.ofString "%")) (Value.str (Str.ofString "%") 639)
  (Value.int 24 571)) ::
    (DictEntry.mk (PyData.keyHash P (Str.ofString "%=")) (Value.str (Str.ofString "%=") 641)
  (Value.int 40 603)) ::
    (DictEntry.mk (PyData.keyHash P (Str.ofString "&")) (Value.str (Str.ofString "&") 643)
  (Value.int 19 561)) ::
    (DictEntry.mk (PyData.keyHash P (Str.ofString "&=")) (Value.str (Str.ofString "&=") 645)
  (Value.int 41 605)) ::
    (DictEntry.mk (PyData.keyHash P (Str.ofString "(")) (Value.str (Str.ofString "(") 647)
  (Value.int 7 537)) ::
    (DictEntry.mk (PyData.keyHash P (Str.ofString ")")) (Value.str (Str.ofString ")") 649)
  (Value.int 8 539)) ::
    (DictEntry.mk (PyData.keyHash P (Str.ofString "*")) (Value.str (Str.ofString "*") 651)
  (Value.int 16 555)) ::
    (DictEntry.mk (PyData.keyHash P (Str.ofString "**")) (Value.str (Str.ofString "**") 653)
  (Value.int 35 593)) ::
    (DictEntry.mk (PyData.keyHash P (Str.ofString "**=")) (Value.str (Str.ofString "**=") 655)
  (Value.int 46 615)) ::
    (DictEntry.mk (PyData.keyHash P (Str.ofString "*=")) (Value.str (Str.ofString "*=") 657)
  (Value.int 38 599)) ::
    (DictEntry.mk (PyData.keyHash P (Str.ofString "+")) (Value.str (Str.ofString "+") 659)
  (Value.int 14 551)) ::
    (DictEntry.mk (PyData.keyHash P (Str.ofString "+=")) (Value.str (Str.ofString "+=") 661)
  (Value.int 36 595)) ::
    (DictEntry.mk (PyData.keyHash P (Str.ofString ",")) (Value.str (Str.ofString ",") 663)
  (Value.int 12 547)) ::
    (DictEntry.mk (PyData.keyHash P (Str.ofString "-")) (Value.str (Str.ofString "-") 665)
  (Value.int 15 553)) ::
    (DictEntry.mk (PyData.keyHash P (Str.ofString "-=")) (Value.str (Str.ofString "-=") 667)
  (Value.int 37 597)) ::
    (DictEntry.mk (PyData.keyHash P (Str.ofString "->")) (Value.str (Str.ofString "->") 669)
  (Value.int 51 625)) ::
    (DictEntry.mk (PyData.keyHash P (Str.ofString ".")) (Value.str (Str.ofString ".") 671)
  (Value.int 23 569)) ::
    (DictEntry.mk (PyData.keyHash P (Str.ofString "...")) (Value.str (Str.ofString "...") 673)
  (Value.int 52 627)) ::
    (DictEntry.mk (PyData.keyHash P (Str.ofString "/")) (Value.str (Str.ofString "/") 675)
  (Value.int 17 557)) ::
    (DictEntry.mk (PyData.keyHash P (Str.ofString "//")) (Value.str (Str.ofString "//") 677)
  (Value.int 47 617)) ::
    (DictEntry.mk (PyData.keyHash P (Str.ofString "//=")) (Value.str (Str.ofString "//=") 679)
  (Value.int 48 619)) ::
    (DictEntry.mk (PyData.keyHash P (Str.ofString "/=")) (Value.str (Str.ofString "/=") 681)
  (Value.int 39 601)) ::
    (DictEntry.mk (PyData.keyHash P (Str.ofString ":")) (Value.str (Str.ofString ":") 683)
  (Value.int 11 545)) ::
    (DictEntry.mk (PyData.keyHash P (Str.ofString ":=")) (Value.str (Str.ofString ":=") 685)
  (Value.int 53 629)) ::
    (DictEntry.mk (PyData.keyHash P (Str.ofString ";")) (Value.str (Str.ofString ";") 687)
  (Value.int 13 549)) ::
    (DictEntry.mk (PyData.keyHash P (Str.ofString "<")) (Value.str (Str.ofString "<") 689)
  (Value.int 20 563)) ::
    (DictEntry.mk (PyData.keyHash P (Str.ofString "<<")) (Value.str (Str.ofString "<<") 691)
  (Value.int 33 589)) ::
    (DictEntry.mk (PyData.keyHash P (Str.ofString "<<=")) (Value.str (Str.ofString "<<=") 693)
  (Value.int 44 611)) ::
    (DictEntry.mk (PyData.keyHash P (Str.ofString "<=")) (Value.str (Str.ofString "<=") 695)
  (Value.int 29 581)) ::
    (DictEntry.mk (PyData.keyHash P (Str.ofString "=")) (Value.str (Str.ofString "=") 697)
  (Value.int 22 567)) ::
    (DictEntry.mk (PyData.keyHash P (Str.ofString "==")) (Value.str (Str.ofString "==") 699)
  (Value.int 27 577)) ::
    (DictEntry.mk (PyData.keyHash P (Str.ofString ">")) (Value.str (Str.ofString ">") 701)
  (Value.int 21 565)) ::
    (DictEntry.mk (PyData.keyHash P (Str.ofString ">=")) (Value.str (Str.ofString ">=") 703)
  (Value.int 30 583)) ::
    (DictEntry.mk (PyData.keyHash P (Str.ofString ">>")) (Value.str (Str.ofString ">>") 704)
  (Value.int 34 591)) ::
    (DictEntry.mk (PyData.keyHash P (Str.ofString ">>=")) (Value.str (Str.ofString ">>=") 705)
  (Value.int 45 613)) ::
    (DictEntry.mk (PyData.keyHash P (Str.ofString "@")) (Value.str (Str.ofString "@") 706)
  (Value.int 49 621)) ::
    (DictEntry.mk (PyData.keyHash P (Str.ofString "@=")) (Value.str (Str.ofString "@=") 707)
  (Value.int 50 623)) ::
    (DictEntry.mk (PyData.keyHash P (Str.ofString "[")) (Value.str (Str.ofString "[") 708)
  (Value.int 9 541)) ::
    (DictEntry.mk (PyData.keyHash P (Str.ofString "]")) (Value.str (Str.ofString "]") 709)
  (Value.int 10 543)) ::
    (DictEntry.mk (PyData.keyHash P (Str.ofString "^")) (Value.str (Str.ofString "^") 710)
  (Value.int 32 587)) ::
    (DictEntry.mk (PyData.keyHash P (Str.ofString "^=")) (Value.str (Str.ofString "^=") 711)
  (Value.int 43 609)) ::
    (DictEntry.mk (PyData.keyHash P (Str.ofString "{")) (Value.str (Str.ofString "{") 712)
  (Value.int 25 573)) ::
    (DictEntry.mk (PyData.keyHash P (Str.ofString "|")) (Value.str (Str.ofString "|") 713)
  (Value.int 18 559)) ::
    (DictEntry.mk (PyData.keyHash P (Str.ofString "|=")) (Value.str (Str.ofString "|=") 714)
  (Value.int 42 607)) ::
    (DictEntry.mk (PyData.keyHash P (Str.ofString "}")) (Value.str (Str.ofString "}") 715)
  (Value.int 26 575)) ::
    (DictEntry.mk (PyData.keyHash P (Str.ofString "~")) (Value.str (Str.ofString "~") 716)
  (Value.int 31 585)) ::
    [])) 48) (#[])) ::
  ((nat_lit 194), Obj.mk (Value.type "tuple") none (Data.seq #[]) #[]) ::
  ((nat_lit 196), Obj.mk (Value.type "tuple") none (Data.seq #[Value.str (Str.ofString "x") 735]) #[]) ::
  ((nat_lit 197), Obj.mk (Value.type "tuple") none (Data.seq #[]) #[]) ::
  ((nat_lit 199), Obj.mk (Value.type "code") none
  (Data.fields
    #[Value.str (Str.ofString "ISTERMINAL") 732, Value.str (Str.ofString "ISTERMINAL") 733,
      Value.str (Str.ofString "/claim/cut.py") 734, Value.int 120 0,
      Value.int 1 0, Value.int 0 0,
      Value.int 0 0, Value.int 3 0, Value.ref 194,
      Value.bool true, Value.int 276 0, Value.ref 195, Value.none,
      Value.ref 196, Value.ref 197, Value.ref 198,
      Value.int 736 0, Value.int 120 0,
      Value.str (Str.ofString "/claim/cut.py") 737])
  #[]) ::
  ((nat_lit 200), Obj.mk (Value.type "function") none
  (Data.func
    (FuncData.mk (Str.ofString "ISTERMINAL") (Str.ofString "ISTERMINAL") A77 (FuncBody.stmts B77) S77 3 []
      Value.none Value.none Value.none (Value.str (Str.ofString "cpy313.token") 535) none
      (Value.ref 199) Value.none 0))
  #[]) ::
  ((nat_lit 201), Obj.mk (Value.type "tuple") none (Data.seq #[]) #[]) ::
  ((nat_lit 203), Obj.mk (Value.type "tuple") none
  (Data.seq
    #[Value.str (Str.ofString "v") 744, Value.str (Str.ofString "mark") 745,
      Value.str (Str.ofString "code") 746, Value.str (Str.ofString "marks") 747,
      Value.str (Str.ofString "last") 748])
  #[]) ::
  ((nat_lit 204), Obj.mk (Value.type "tuple") none (Data.seq #[]) #[]) ::
  ((nat_lit 206), Obj.mk (Value.type "code") none
  (Data.fields
    #[Value.str (Str.ofString "_law_row") 741, Value.str (Str.ofString "_law_row") 742,
      Value.str (Str.ofString "/claim/cut.py") 743, Value.int 123 0,
      Value.int 1 0, Value.int 0 0,
      Value.int 0 0, Value.int 3 0, Value.ref 201,
      Value.bool true, Value.int 276 0, Value.ref 202, Value.none,
      Value.ref 203, Value.ref 204, Value.ref 205,
      Value.int 749 0, Value.int 123 0,
      Value.str (Str.ofString "/claim/cut.py") 750])
  #[]) ::
  ((nat_lit 207), Obj.mk (Value.type "function") none
  (Data.func
    (FuncData.mk (Str.ofString "_law_row") (Str.ofString "_law_row") A79 (FuncBody.stmts B79) S79 3 []
      Value.none Value.none Value.none (Value.str (Str.ofString "law_wn0091_01") 739) none
      (Value.ref 206) Value.none 0))
  #[]) ::
  ((nat_lit 208), Obj.mk (Value.type "tuple") none (Data.seq #[]) #[]) ::
  ((nat_lit 210), Obj.mk (Value.type "tuple") none
  (Data.seq
    #[Value.str (Str.ofString "number") 755, Value.str (Str.ofString "a") 756,
      Value.str (Str.ofString "b") 757, Value.str (Str.ofString "low") 758,
      Value.str (Str.ofString "high") 759, Value.str (Str.ofString "more") 760])
  #[]) ::
  ((nat_lit 211), Obj.mk (Value.type "tuple") none (Data.seq #[]) #[]) ::
  ((nat_lit 213), Obj.mk (Value.type "code") none
  (Data.fields
    #[Value.str (Str.ofString "_law_pair") 752, Value.str (Str.ofString "_law_pair") 753,
      Value.str (Str.ofString "/claim/cut.py") 754, Value.int 129 0,
      Value.int 3 0, Value.int 0 0,
      Value.int 0 0, Value.int 3 0, Value.ref 208,
      Value.bool true, Value.int 276 0, Value.ref 209, Value.none,
      Value.ref 210, Value.ref 211, Value.ref 212,
      Value.int 761 0, Value.int 129 0,
      Value.str (Str.ofString "/claim/cut.py") 762])
  #[]) ::
  ((nat_lit 214), Obj.mk (Value.type "function") none
  (Data.func
    (FuncData.mk (Str.ofString "_law_pair") (Str.ofString "_law_pair") A80 (FuncBody.stmts B80) S80 3 []
      Value.none Value.none Value.none (Value.str (Str.ofString "law_wn0091_01") 739) none
      (Value.ref 213) Value.none 0))
  #[]) ::
  ((nat_lit 215), Obj.mk (Value.type "tuple") none (Data.seq #[]) #[]) ::
  ((nat_lit 217), Obj.mk (Value.type "tuple") none
  (Data.seq
    #[Value.str (Str.ofString "text") 767, Value.str (Str.ofString "values") 768,
      Value.str (Str.ofString "masks") 769, Value.str (Str.ofString "kept") 770,
      Value.str (Str.ofString "seen") 771, Value.str (Str.ofString "row") 772,
      Value.str (Str.ofString "dots") 773, Value.str (Str.ofString "place") 774,
      Value.str (Str.ofString "far") 775, Value.str (Str.ofString "port") 776,
      Value.str (Str.ofString "number") 777, Value.str (Str.ofString "before") 778,
      Value.str (Str.ofString "low") 779, Value.str (Str.ofString "high") 780])
  #[]) ::
  ((nat_lit 218), Obj.mk (Value.type "tuple") none (Data.seq #[]) #[]) ::
  ((nat_lit 220), Obj.mk (Value.type "code") none
  (Data.fields
    #[Value.str (Str.ofString "_law_run") 764, Value.str (Str.ofString "_law_run") 765,
      Value.str (Str.ofString "/claim/cut.py") 766, Value.int 138 0,
      Value.int 2 0, Value.int 0 0,
      Value.int 0 0, Value.int 3 0, Value.ref 215,
      Value.bool true, Value.int 276 0, Value.ref 216, Value.none,
      Value.ref 217, Value.ref 218, Value.ref 219,
      Value.int 781 0, Value.int 138 0,
      Value.str (Str.ofString "/claim/cut.py") 782])
  #[]) ::
  ((nat_lit 221), Obj.mk (Value.type "function") none
  (Data.func
    (FuncData.mk (Str.ofString "_law_run") (Str.ofString "_law_run") A81 (FuncBody.stmts B81) S81 3 []
      Value.none Value.none Value.none (Value.str (Str.ofString "law_wn0091_01") 739) none
      (Value.ref 220) Value.none 0))
  #[]) ::
  ((nat_lit 222), Obj.mk (Value.type "tuple") none (Data.seq #[]) #[]) ::
  ((nat_lit 224), Obj.mk (Value.type "tuple") none
  (Data.seq
    #[Value.str (Str.ofString "drawn") 787, Value.str (Str.ofString "times") 788,
      Value.str (Str.ofString "stand") 789, Value.str (Str.ofString "seen") 790,
      Value.str (Str.ofString "v") 791, Value.str (Str.ofString "dots") 792,
      Value.str (Str.ofString "place") 793, Value.str (Str.ofString "moved") 794])
  #[]) ::
  ((nat_lit 225), Obj.mk (Value.type "tuple") none (Data.seq #[]) #[]) ::
  ((nat_lit 227), Obj.mk (Value.type "code") none
  (Data.fields
    #[Value.str (Str.ofString "_law_due") 784, Value.str (Str.ofString "_law_due") 785,
      Value.str (Str.ofString "/claim/cut.py") 786, Value.int 162 0,
      Value.int 2 0, Value.int 0 0,
      Value.int 0 0, Value.int 3 0, Value.ref 222,
      Value.bool true, Value.int 276 0, Value.ref 223, Value.none,
      Value.ref 224, Value.ref 225, Value.ref 226,
      Value.int 795 0, Value.int 162 0,
      Value.str (Str.ofString "/claim/cut.py") 796])
  #[]) ::
  ((nat_lit 228), Obj.mk (Value.type "function") none
  (Data.func
    (FuncData.mk (Str.ofString "_law_due") (Str.ofString "_law_due") A82 (FuncBody.stmts B82) S82 3 []
      Value.none Value.none Value.none (Value.str (Str.ofString "law_wn0091_01") 739) none
      (Value.ref 227) Value.none 0))
  #[]) ::
  ((nat_lit 229), Obj.mk (Value.type "tuple") none (Data.seq #[]) #[]) ::
  ((nat_lit 231), Obj.mk (Value.type "tuple") none
  (Data.seq
    #[Value.str (Str.ofString "bits") 801, Value.str (Str.ofString "total") 802,
      Value.str (Str.ofString "sums") 803, Value.str (Str.ofString "bit") 804])
  #[]) ::
  ((nat_lit 232), Obj.mk (Value.type "tuple") none (Data.seq #[]) #[]) ::
  ((nat_lit 234), Obj.mk (Value.type "code") none
  (Data.fields
    #[Value.str (Str.ofString "_law_sums") 798, Value.str (Str.ofString "_law_sums") 799,
      Value.str (Str.ofString "/claim/cut.py") 800, Value.int 180 0,
      Value.int 1 0, Value.int 0 0,
      Value.int 0 0, Value.int 3 0, Value.ref 229,
      Value.bool true, Value.int 276 0, Value.ref 230, Value.none,
      Value.ref 231, Value.ref 232, Value.ref 233,
      Value.int 805 0, Value.int 180 0,
      Value.str (Str.ofString "/claim/cut.py") 806])
  #[]) ::
  ((nat_lit 235), Obj.mk (Value.type "function") none
  (Data.func
    (FuncData.mk (Str.ofString "_law_sums") (Str.ofString "_law_sums") A83 (FuncBody.stmts B83) S83 3 []
      Value.none Value.none Value.none (Value.str (Str.ofString "law_wn0091_01") 739) none
      (Value.ref 234) Value.none 0))
  #[]) ::
  ((nat_lit 236), Obj.mk (Value.type "tuple") none (Data.seq #[]) #[]) ::
  ((nat_lit 239), Obj.mk (Value.type "code") none
  (Data.fields
    #[Value.str (Str.ofString "_law_heads") 808, Value.str (Str.ofString "_law_heads") 809,
      Value.str (Str.ofString "/claim/cut.py") 810, Value.int 187 0,
      Value.int 2 0, Value.int 0 0,
      Value.int 0 0, Value.int 3 0, Value.ref 236,
      Value.bool true, Value.int 276 0, Value.ref 237, Value.none, Value.none,
      Value.none, Value.ref 238, Value.int 811 0,
      Value.int 187 0, Value.str (Str.ofString "/claim/cut.py") 812])
  #[]) ::
  ((nat_lit 240), Obj.mk (Value.type "function") none
  (Data.func
    (FuncData.mk (Str.ofString "_law_heads") (Str.ofString "_law_heads") A84 (FuncBody.stmts B84) S84 3 []
      Value.none Value.none Value.none (Value.str (Str.ofString "law_wn0091_01") 739) none
      (Value.ref 239) Value.none 0))
  #[]) ::
  ((nat_lit 241), Obj.mk (Value.type "tuple") none (Data.seq #[]) #[]) ::
  ((nat_lit 244), Obj.mk (Value.type "code") none
  (Data.fields
    #[Value.str (Str.ofString "_law_agrees") 814,
      Value.str (Str.ofString "_law_agrees") 815,
      Value.str (Str.ofString "/claim/cut.py") 816, Value.int 190 0,
      Value.int 3 0, Value.int 0 0,
      Value.int 0 0, Value.int 3 0, Value.ref 241,
      Value.bool true, Value.int 276 0, Value.ref 242, Value.none, Value.none,
      Value.none, Value.ref 243, Value.int 817 0,
      Value.int 190 0, Value.str (Str.ofString "/claim/cut.py") 818])
  #[]) ::
  ((nat_lit 245), Obj.mk (Value.type "function") none
  (Data.func
    (FuncData.mk (Str.ofString "_law_agrees") (Str.ofString "_law_agrees") A85 (FuncBody.stmts B85) S85 3
      [] Value.none Value.none Value.none (Value.str (Str.ofString "law_wn0091_01") 739) none
      (Value.ref 244) Value.none 0))
  #[]) ::
  ((nat_lit 246), Obj.mk (Value.type "tuple") none (Data.seq #[]) #[]) ::
  ((nat_lit 249), Obj.mk (Value.type "code") none
  (Data.fields
    #[Value.str (Str.ofString "law") 820, Value.str (Str.ofString "law") 821,
      Value.str (Str.ofString "/claim/cut.py") 822, Value.int 210 0,
      Value.int 1 0, Value.int 0 0,
      Value.int 0 0, Value.int 3 0, Value.ref 246,
      Value.bool true, Value.int 276 0, Value.ref 247, Value.none, Value.none,
      Value.none, Value.ref 248, Value.int 823 0,
      Value.int 210 0, Value.str (Str.ofString "/claim/cut.py") 824])
  #[]) ::
  ((nat_lit 250), Obj.mk (Value.type "function") none
  (Data.func
    (FuncData.mk (Str.ofString "law") (Str.ofString "law") A86 (FuncBody.stmts B86) S86 3 [] Value.none
      Value.none Value.none (Value.str (Str.ofString "law_wn0091_01") 739) none
      (Value.ref 249) Value.none 0))
  #[]) ::
  []
end
section
open PySem PySem.W PyProof.Rows PySem.Spec PySem.Calls

theorem gen_toks {M : Model} {A : Around} {α : Type} {t : Sem α} {Q : α → Shared → Prop} {E : Value → Shared → Prop} {h : Heap} {g : Array GenState} {d : Drawn} {X : Nat} {os : OsState} (H : ∀ tk, X ≤ tk → wpAny M A t Q E ⟨h, g, d, tk, os⟩) : wpAny M A t Q E ⟨h, g, d, X, os⟩ := H X (Nat.le_refl X)

/-- the parts of a state that no step here touches -/
noncomputable def St (g : Array GenState) (d : Drawn) (os : OsState) : Prop := True
theorem gen_norm {M : Model} {A : Around} {α : Type} {t : Sem α} {Q : α → Shared → Prop} {E : Value → Shared → Prop} {h₀ h : Heap} {L : Addr} {m : Str → Option Value} {g : Array GenState} {d : Drawn} {X : Nat} {os : OsState} {s' : Shared} (hS : St g d os) (F : Fr h₀ L h m) (e : s' = ⟨h, g, d, X + 1 + 1 + 1 + 1, os⟩)
    (H : ∀ tk, X + 1 + 1 + 1 + 1 ≤ tk → wpAny M A t Q E ⟨h, g, d, tk, os⟩) : wpAny M A t Q E s' := e ▸ H _ (Nat.le_refl _)

variable {w : World} {p : Program} {loose : List Str} {mean : ExcName → Option Value} {mg mb : Str → Option Value} {dp un : Nat} {gd : Option (List Code)} {cn : Str} {cs : Scope} {a : Addr} {ccd : Value} {cl : List (Str × Addr)} {outer : List Env} {A₀ : Around} {base h₀ : Heap} {L : Addr} {m : Str → Option Value} {s : Shared} {Q E : Value → Shared → Prop} {news : List (Addr × Obj)}
abbrev Mo (w : World) : Model := model PySem.Challenge.rw_wn0091_01.prog w
/-! identity of two texts -/
theorem told_none (P : Params) : nsIn (K91 P) cStatics sharingNotToldKey = some none := by kernel_rfl
theorem looks_told {M : Model} {h : Heap} {P : Params} (X : (K91 P).In h) (t : Tok) : Looks M h (sharingNotTold t) false := by
  unfold sharingNotTold
  exact (looks_nsIn X (told_none P)).andThen .now
theorem is_str {M : Model} {A : Around} {x y : Str} {t u : Nat} {Q : Value → Shared → Prop} {P : Params} (X : (K91 P).In s.heap) (ht : t ≠ 0) (hu : u ≠ 0) (htu : t ≠ u)
    (h : ∀ b : Bool, (x ≠ y → b = false) → Q (.bool b) s) : wpAny M A (compareOp .Is (.str x t) (.str y u)) Q E s := by
  show wpAny M A (do return .bool (← isSame (.str x t) (.str y u))) Q E s
  refine wpAny_bind ?_
  show wpAny M A (isSame.created (x == y) t u) _ E s
  unfold isSame.created
  have e1 : (t == 0 || u == 0) = false := by simp [ht, hu]
  have e2 : (t == u) = false := by simp [htu]
  simp only [e1, e2, Bool.false_eq_true, if_false]
  by_cases hxy : x = y
  · subst hxy
    simp only [beq_self_eq_true, Bool.not_true, Bool.false_eq_true, if_false]
    refine wpAny_bind ((looks_told X t).here ?_)
    simp only [Bool.false_eq_true, if_false]
    refine wpAny_bind ((looks_told X u).here ?_)
    simp only [Bool.false_eq_true, if_false]
    refine wpAny_bind (wpAny_rule ?_)
    refine wpAny_bind (wpAny_askSetting ?_)
    exact wpAny_pure (wpAny_pure (h _ fun q => absurd rfl q))
  · have e3 : (x == y) = false := by simp [hxy]
    simp only [e3, Bool.not_false, if_true]
    exact wpAny_pure (wpAny_pure (h _ fun _ => rfl))

/-! a for over an ascii text: the signs come with the tokens of their turn -/
theorem news_sameBut {h₀ h h' : Heap} {L it : Addr} (N : News h₀ L h news) (hs : Heap.SameBut it h h') (hn : ∀ p ∈ news, p.1 ≠ it) : News h₀ L h' news :=
  fun p hp => ⟨(hs.2 p.1 (hn p hp)).trans (N p hp).1, (N p hp).2⟩
theorem fr_sameBut {h₀ h h' : Heap} {L it : Addr} (F : Fr h₀ L h m) (hs : Heap.SameBut it h h') (hL : it ≠ L) (h0 : h₀.get? it = none) : Fr h₀ L h' m :=
  ⟨F.ns.sameBut hs (Ne.symm hL), fun b o e => (hs.2 b (fun q => by rw [q, h0] at e; cases e)).trans (F.keep b o e), F.above⟩
theorem fr_extBut {h₀ h h' : Heap} {L it : Addr} (F : Fr h₀ L h m) (hs : Heap.ExtBut it h h') (hL : it ≠ L) (h0 : h₀.get? it = none) : Fr h₀ L h' m :=
  ⟨F.ns.extBut hs (Ne.symm hL), fun b o e => hs b o (fun q => by rw [q, h0] at e; cases e) (F.keep b o e), F.above⟩
theorem news_extBut {h₀ h h' : Heap} {L it : Addr} (N : News h₀ L h news) (hs : Heap.ExtBut it h h') (hn : ∀ p ∈ news, p.1 ≠ it) : News h₀ L h' news :=
  fun p hp => ⟨hs p.1 _ (hn p hp) (N p hp).1, (N p hp).2⟩

noncomputable def TurnEnd (h₀ : Heap) (L : Addr) (T : Nat) (J : (Str → Option Value) → Prop) (news : List (Addr × Obj)) (s : Shared) (R : Result → Shared → Prop) (f : Flow) (s' : Shared) : Prop := match f with
  | .next | .cont => ∃ h' tk' m', s' = { s with heap := h', toks := tk' } ∧ T ≤ tk' ∧ Fr h₀ L h' m' ∧ News h₀ L h' news ∧ J m'
  | .brk => R (.ok .next) s'
  | .ret v => R (.ok (.ret v)) s'
theorem loop_str {A : Around} {env : Env} {x name : Str} {t : Tok} {px : Pos} {body : List Stmt} {R : Result → Shared → Prop} {it : Addr} (T : Nat) (J : Nat → (Str → Option Value) → Prop)
    (hh : A.handled = none) (hx : env.kindOf name = some .local) (hk : env.scope.kind = .function)
    (F : Fr h₀ env.locals s.heap m) (N : News h₀ env.locals s.heap news) (hn : ∀ p ∈ news, p.1 ≠ it) (hI : Heap.IsStrIter s.heap it "str_ascii_iterator" x t 0) (hL : it ≠ env.locals) (hf : h₀.get? it = none) (hT : T ≤ s.toks) (h0 : J 0 m)
    (turn : ∀ i c m₁ h tk o, x.cps[i]? = some c → J i m₁ → T ≤ tk → Fr h₀ env.locals h (fun y => if y = name then some (.str ⟨#[c]⟩ tk) else m₁ y) → News h₀ env.locals h ((it, o) :: news) →
      wpAny (Mo w) A (execs body env) (TurnEnd h₀ env.locals T (J (i + 1)) ((it, o) :: news) s R) (notedBy (Mo w) A env fun e s' => R (.error e) s') { s with heap := h, toks := tk + 2 })
    (done : ∀ m₁ h tk, J x.cps.size m₁ → T ≤ tk → Fr h₀ env.locals h m₁ → News h₀ env.locals h news → R (.ok .next) { s with heap := h, toks := tk }) :
    codeAny (Mo w) A (.forLoop (.Name name px) (.ref it) body [] env) R s := by
  refine codeAny_forLoop (fun k s' => ∃ i h tk m', s' = { s with heap := h, toks := tk } ∧ T ≤ tk ∧ Fr h₀ env.locals h m' ∧ News h₀ env.locals h news ∧ Heap.IsStrIter h it "str_ascii_iterator" x t i ∧ J i m' ∧ i ≤ x.cps.size ∧ k = x.cps.size + 1 - i) ?_ (x.cps.size + 1)
    ⟨0, s.heap, s.toks, m, rfl, hT, F, N, hI, h0, Nat.zero_le _, rfl⟩
  rintro k s' ⟨i, h, tk, m', rfl, hT', F', N', hI', hJ, hi, rfl⟩
  cases hc : x.cps[i]? with
  | none =>
    have hsz : i = x.cps.size := Nat.le_antisymm hi (by simpa using hc)
    subst hsz
    refine wpAny_pyNext_ascii_end hh hI' hc fun h' he => wpAny_execs_nil ?_
    exact done m' h' tk hJ hT' (fr_extBut F' he hL hf) (news_extBut N' he hn)
  | some c =>
    have hlt : i < x.cps.size := (Array.getElem?_eq_some_iff.mp hc).1
    refine wpAny_pyNext_ascii_item hI' hc fun h' hI'' hs => ?_
    obtain ⟨o, ho, hoc, hod⟩ := hI''
    have F₁ := fr_sameBut F' hs hL hf
    have N₁ := news_sameBut N' hs hn
    refine wpAny_assign_Name (wpAny_storeName_local hx F₁.ns (fun h₂ hn₂ hs₂ => ?_) (by rw [hk]; rfl))
    have F₂ := F₁.set hn₂ hs₂
    have N₂ : News h₀ env.locals h₂ ((it, o) :: news) := by
      intro p hp
      rcases List.mem_cons.mp hp with rfl | hp
      · exact ⟨(hs₂.2 it hL).trans ho, hL, hf⟩
      · exact N₁.set hs₂ p hp
    refine wpAny_mono (turn i c m' h₂ tk o hc hJ hT' F₂ N₂) (fun f s₃ h₃ => ?_) fun _ _ e => e
    have fin : (∃ h' tk' m', s₃ = { s with heap := h', toks := tk' } ∧ T ≤ tk' ∧ Fr h₀ env.locals h' m' ∧ News h₀ env.locals h' ((it, o) :: news) ∧ J (i + 1) m') →
        ∃ k', k' < x.cps.size + 1 - i ∧ ∃ i' h tk m', s₃ = { s with heap := h, toks := tk } ∧ T ≤ tk ∧ Fr h₀ env.locals h m' ∧ News h₀ env.locals h news ∧ Heap.IsStrIter h it "str_ascii_iterator" x t i' ∧ J i' m' ∧ i' ≤ x.cps.size ∧ k' = x.cps.size + 1 - i' := by
      rintro ⟨h₄, tk₄, m₄, rfl, hT₄, F₄, N₄, hJ₄⟩
      exact ⟨x.cps.size + 1 - (i + 1), by omega, i + 1, h₄, tk₄, m₄, rfl, hT₄, F₄, fun p hp => N₄ p (.tail _ hp), ⟨o, (N₄ _ (.head _)).1, hoc, hod⟩, hJ₄, hlt, rfl⟩
    cases f with
    | next => exact fin h₃
    | cont => exact fin h₃
    | brk => exact h₃
    | ret v => exact h₃


theorem two_ifs {a b : Str} (hab : a ≠ b) {v w u z : Option Value} {f : Str → Option Value} : (fun y => if y = b then v else if y = a then w else (fun y => if y = a then u else if y = b then z else f y) y) = fun y => if y = a then w else if y = b then v else f y := by
  funext y
  by_cases h : y = a
  · subst h; simp [hab]
  · simp [h]
    split <;> simp_all
theorem one_if {a : Str} {w u : Option Value} {f : Str → Option Value} : (fun y => if y = a then w else (fun y => if y = a then u else f y) y) = fun y => if y = a then w else f y := by
  funext y
  by_cases h : y = a <;> simp [h]
theorem dot_str {c k : Nat} {z : String} (e : Str.ofString z = ⟨#[k]⟩) : (⟨#[c]⟩ : Str) = Str.ofString z ↔ c = k := by
  rw [e]; simp
theorem take_count {x : Str} {i c k : Nat} (hc : x.cps[i]? = some c) : (x.cps.toList.take (i + 1)).count k = (x.cps.toList.take i).count k + if c = k then 1 else 0 := by
  have : x.cps.toList[i]? = some c := by simpa using hc
  rw [List.take_add_one, this, Option.toList_some, List.count_append, List.count_singleton]
  simp
theorem map_if {y k : Str} {u v : Option Value} {f g : Str → Option Value} (h : y ≠ k → f y = g y) (e : u = v) : (if y = k then u else f y) = (if y = k then v else g y) := by
  split <;> simp_all

theorem for_str {A : Around} {env : Env} {x name : Str} {t : Tok} {px : Pos} {body : List Stmt} {R : Result → Shared → Prop} (T : Nat) (J : Nat → (Str → Option Value) → Prop)
    (hh : A.handled = none) (hx : env.kindOf name = some .local) (hk : env.scope.kind = .function) (ha : x.cps.all (· < 128) = true)
    (F : Fr h₀ env.locals s.heap m) (N : News h₀ env.locals s.heap news) (hT : T ≤ s.toks) (h0 : J 0 m)
    (turn : ∀ i c m₁ h tk o it, x.cps[i]? = some c → J i m₁ → T ≤ tk → Fr h₀ env.locals h (fun y => if y = name then some (.str ⟨#[c]⟩ tk) else m₁ y) → News h₀ env.locals h ((it, o) :: news) →
      wpAny (Mo w) A (execs body env) (TurnEnd h₀ env.locals T (J (i + 1)) ((it, o) :: news) s R) (notedBy (Mo w) A env fun e s' => R (.error e) s') { s with heap := h, toks := tk + 2 })
    (done : ∀ m₁ h tk, J x.cps.size m₁ → T ≤ tk → Fr h₀ env.locals h m₁ → News h₀ env.locals h news → R (.ok .next) { s with heap := h, toks := tk }) :
    wpAny (Mo w) A (pyIter (.str x t)) (fun it s₂ => codeAny (Mo w) A (.forLoop (.Name name px) it body [] env) R s₂) E s := by
  refine wpAny_pyIter_ascii ha ?_
  refine loop_str (s := { s with heap := _, toks := _ }) (x := x) (t := t) (news := news) T J hh hx hk (F.push _) (fun p hp => ⟨Heap.get?_push_of_some _ (N p hp).1, (N p hp).2⟩) ?_ ⟨_, Heap.get?_push_size _ rfl, rfl, rfl⟩ ?_ ?_ hT h0 ?_ ?_
  · intro p hp hI
    exact absurd (Heap.lt_size (N p hp).1) (hI ▸ Nat.lt_irrefl _)
  · exact fun q => absurd F.ns.lt (q ▸ Nat.lt_irrefl _)
  · exact next_is_new F
  · exact fun i c m₁ h tk o hc hJ hT F N => turn i c m₁ h tk o _ hc hJ hT F N
  · exact done
end
section
open PySem PySem.W PyProof.Rows PySem.Spec PySem.Calls
/-- what a row of the mail is to a reader -/
inductive Ev where
  | code
  | marks
  | ok (num : Int) (pl : Nat)
noncomputable def swapK (k : List Int) (q : Nat) : List Int := if k.getD (q + 1) 0 < k.getD q 0 then (k.set q (k.getD (q + 1) 0)).set (q + 1) (k.getD q 0) else k
noncomputable def tellB (b : Bool) : Dat := .str (if b = true then Str.ofString "True" else Str.ofString "False")

noncomputable def Hide (p : Prop) : Prop := p
theorem hide {p : Prop} (h : p) : Hide p := h
theorem Hide.out {p : Prop} (h : Hide p) : p := h
theorem map3d {f : Str → Option Value} {a b c : Str} {x y z : Option Value} (ha : f a = x) (hb : f b = y) (hc : f c = z) : f = fun q => if q = a then x else if q = b then y else if q = c then z else f q := by
  funext q
  by_cases h1 : q = a
  · subst h1; simp [ha]
  · by_cases h2 : q = b
    · subst h2; simp [h1, hb]
    · by_cases h3 : q = c
      · subst h3; simp [h1, h2, hc]
      · simp [h1, h2, h3]
theorem due_num {l : List Int} {k : Nat} {x : Int} (h : l[k]? = some x) : l.getD k 0 = x := by rw [List.getD_eq_getElem?_getD, h]; rfl
theorem run_swap {ks : List Int} {pl : Nat} (h : ks.getD ((pl : Int) + 1).toNat 0 < ks.getD (pl : Int).toNat 0) : swapK ks pl = (ks.set (pl : Int).toNat (ks.getD ((pl : Int) + 1).toNat 0)).set ((pl : Int) + 1).toNat (ks.getD (pl : Int).toNat 0) := by
  have e1 : ((pl : Int)).toNat = pl := by omega
  have e2 : ((pl : Int) + 1).toNat = pl + 1 := by omega
  rw [e1, e2] at h ⊢
  simp only [swapK, if_pos h]
theorem run_stay {ks : List Int} {pl : Nat} (h : ¬ ks.getD ((pl : Int) + 1).toNat 0 < ks.getD (pl : Int).toNat 0) : swapK ks pl = ks := by
  have e1 : ((pl : Int)).toNat = pl := by omega
  have e2 : ((pl : Int) + 1).toNat = pl + 1 := by omega
  rw [e1, e2] at h
  simp only [swapK, if_neg h]
theorem neOfLt {a c : Nat} {l : List (Addr × Obj)} (h : ∀ q ∈ l, q.1 < a) (hac : a ≤ c) : ∀ q ∈ l, q.1 ≠ c := fun q hq => Nat.ne_of_lt (Nat.lt_of_lt_of_le (h q hq) hac)
theorem swap_len (k : List Int) (q : Nat) : (swapK k q).length = k.length := by
  unfold swapK
  split <;> simp
/-! an if whose ways meet again -/
section
variable {w : World} {A : Around} {s : Shared} {g : Heap} {L : Addr} {f : Str → Option Value} {nw : List (Addr × Obj)} {c : Prop} {t : Sem Flow} {env : Env} {Q' : Flow → Shared → Prop} {E' : Value → Shared → Prop}
noncomputable def DotsP (g : Heap) (L : Addr) (f : Str → Option Value) (nw : List (Addr × Obj)) (y0 : Str) (d : Int) (s : Shared) (fl : Flow) (s' : Shared) : Prop :=
  fl = .next ∧ ∃ h' tk' u', s' = { s with heap := h', toks := tk' } ∧ Fr g L h' (fun y => if y = y0 then some (.int d u') else f y) ∧ News g L h' nw
theorem dots_end {y0 : Str} {d e : Int} {u u' : Tok} {h' : Heap} {tk' : Nat} (F : Fr g L h' (fun y => if y = y0 then some (.int e u') else (fun y => if y = y0 then some (.int d u) else f y) y)) (N : News g L h' nw) : DotsP g L f nw y0 e s .next { s with heap := h', toks := tk' } :=
  ⟨rfl, _, _, u', rfl, one_if ▸ F, N⟩
theorem dots_join {_ : Decidable c} {y0 : Str} {d e : Int} {u : Tok} (F : Fr g L s.heap (fun y => if y = y0 then some (.int d u) else f y)) (N : News g L s.heap nw)
    (h1 : c → wpAny (Mo w) A t (DotsP g L f nw y0 e s) (fun _ _ => False) s)
    (h : ∀ d' h' tk' u', (c → d' = e) → (¬ c → d' = d) → Fr g L h' (fun y => if y = y0 then some (.int d' u') else f y) → News g L h' nw → Q' .next { s with heap := h', toks := tk' }) :
    if c then wpAny (Mo w) A t Q' E' s else wpAny (Mo w) A (execs [] env) Q' E' s := by
  by_cases hc : c
  · rw [if_pos hc]
    refine wpAny_mono (h1 hc) (fun y s' h' => ?_) fun _ _ h' => h'.elim
    obtain ⟨rfl, h2, tk', u', rfl, F', N'⟩ := h'
    exact h e _ _ _ (fun _ => rfl) (fun q => absurd hc q) F' N'
  · rw [if_neg hc]
    exact wpAny_execs_nil (h d _ _ _ (fun q => absurd q hc) (fun _ => rfl) F N)
noncomputable def SwapP (g : Heap) (L : Addr) (f : Str → Option Value) (up : List Value → List (Addr × Obj)) (st' : List Int) (s : Shared) (fl : Flow) (s' : Shared) : Prop :=
  fl = .next ∧ ∃ h' tk' tvs', s' = { s with heap := h', toks := tk' } ∧ IntsAre tvs' st' ∧ Fr g L h' f ∧ News g L h' (up tvs')
theorem swap_join {_ : Decidable c} {up : List Value → List (Addr × Obj)} {tvs : List Value} {st st' : List Int} (hi : IntsAre tvs st) (F : Fr g L s.heap f) (N : News g L s.heap (up tvs)) (hs : ¬ c → st' = st)
    (h1 : c → wpAny (Mo w) A t (SwapP g L f up st' s) (fun _ _ => False) s)
    (h : ∀ h' tk' tvs', IntsAre tvs' st' → Fr g L h' f → News g L h' (up tvs') → Q' .next { s with heap := h', toks := tk' }) :
    if c then wpAny (Mo w) A t Q' E' s else wpAny (Mo w) A (execs [] env) Q' E' s := by
  by_cases hc : c
  · rw [if_pos hc]
    refine wpAny_mono (h1 hc) (fun y s' h' => ?_) fun _ _ h' => h'.elim
    obtain ⟨rfl, h2, tk', tvs', rfl, hi', F', N'⟩ := h'
    exact h _ _ _ hi' F' N'
  · rw [if_neg hc]
    exact wpAny_execs_nil (h _ _ _ (by rw [hs hc]; exact hi) F N)
end
end
section
open PySem PySem.Sre
set_option maxHeartbeats 2000000
set_option linter.unusedSimpArgs false
noncomputable def P1 : Array Nat := #[14, 4, 0, 1, 1, 6, 1, 16, 46, 1]
noncomputable def P2 : Array Nat := #[14, 9, 4, 1, 2, 16, 10, 16, 13, 0, 7, 7, 16, 13, 16, 10, 15, 18, 5, 16, 10, 15, 13, 11, 16, 13, 5, 5, 0, 16, 10, 1, 15, 2, 0, 1]

theorem runFor_none {m : M} {n : Nat} (h : m.outcome = none) : M.runFor (n + 1) m = M.runFor n m.step := by
  rw [M.runFor, h]; rfl
theorem runFor_some {m : M} {n : Nat} (h : m.outcome.isSome = true) : M.runFor n m = m := by
  cases n with
  | zero => rfl
  | succ n => rw [M.runFor, if_pos h]
theorem runFor_add {m : M} {n k : Nat} : M.runFor (n + k) m = M.runFor k (M.runFor n m) := by
  induction n generalizing m with
  | zero => rw [Nat.zero_add]; rfl
  | succ n ih =>
    by_cases h : m.outcome.isSome = true
    · rw [runFor_some h, runFor_some h, runFor_some h]
    · have h' : m.outcome = none := by simpa using h
      rw [show n + 1 + k = n + k + 1 by omega, runFor_none h', runFor_none h', ih]

noncomputable def st1 (text : Array Nat) (lim s : Nat) (ma o : Bool) (seen : Seen) (f : List Sre.Frame) : M :=
  { code := P1, text, lim, start := s, lastStart := lim, mustAdvance := ma, pc := 5, pos := s, handed := s, outermost := o, marks := #[], frames := { wait := .nextStart, pc := 5, pos := s, outermost := o } :: f, weight := 1, seen }
noncomputable def bol (text : Array Nat) (s : Nat) : Bool := s == 0 || text.getD (s - 1) 0 == 10
theorem op6 : ops[6]? = some .AT := rfl
theorem op16 : ops[16]? = some .LITERAL := rfl
theorem op1 : ops[1]? = some .SUCCESS := rfl
theorem op7 : ops[7]? = some .BRANCH := rfl
theorem op15 : ops[15]? = some .JUMP := rfl
theorem op14 : ops[14]? = some .INFO := rfl
theorem op5 : ops[5]? = some .ASSERT_NOT := rfl
theorem op0 : ops[0]? = some .FAILURE := rfl
theorem st1_step {text lim s ma o seen} : M.runFor 1 (st1 text lim s ma o seen []) = if bol text s then { st1 text lim s ma o seen [] with seen := (seen.add 6).add 44, pc := 7 } else { st1 text lim s ma o seen [] with seen := (seen.add 6).add 44, answer := some false } := by
  kernel_rfl
noncomputable def hitS (m : M) : M := { m with seen := m.seen.add 16, pc := m.pc + 2, pos := m.pos + 1 }
noncomputable def missS (m : M) : M := { m with seen := m.seen.add 16, answer := some false }
theorem lit_hit {m : M} {c : Nat} (ho : m.outcome = none) (ha : m.answer = none) (hpc : m.pc < m.code.size) (h16 : m.code.getD m.pc 0 = 16) (hp : m.pos < m.lim) (hc : m.text.getD m.pos 0 = c) (hw : m.code.getD (m.pc + 1) 0 = c) :
    M.runFor 1 m = hitS m := by
  unfold hitS
  have hl : ¬ m.pos ≥ m.lim := Nat.not_le_of_lt hp
  have e0 : m.word 0 = 16 := h16
  rw [M.runFor, ho]
  show m.step = _
  unfold M.step
  rw [ho, ha]
  show (if m.pc < m.code.size then m.exec else _) = _
  rw [if_pos hpc]
  unfold M.exec
  rw [e0, op16]
  show (if m.pos ≥ m.lim then _ else _) = _
  rw [if_neg hl]
  unfold accepts itemWidth
  dsimp only
  rw [h16, op16, hc, hw]
  simp [ho, ha]
theorem lit_miss {m : M} {c k : Nat} (ho : m.outcome = none) (ha : m.answer = none) (hpc : m.pc < m.code.size) (h16 : m.code.getD m.pc 0 = 16) (hp : m.pos < m.lim) (hc : m.text.getD m.pos 0 = c) (hw : m.code.getD (m.pc + 1) 0 = k) (hk : (c == k) = false) :
    M.runFor 1 m = missS m := by
  unfold missS
  have hl : ¬ m.pos ≥ m.lim := Nat.not_le_of_lt hp
  have e0 : m.word 0 = 16 := h16
  rw [M.runFor, ho]
  show m.step = _
  unfold M.step
  rw [ho, ha]
  show (if m.pc < m.code.size then m.exec else _) = _
  rw [if_pos hpc]
  unfold M.exec
  rw [e0, op16]
  show (if m.pos ≥ m.lim then _ else _) = _
  rw [if_neg hl]
  unfold accepts
  dsimp only
  rw [h16, op16, hc, hw]
  dsimp only
  rw [hk, ho]
  rfl
theorem lit_end {m : M} (ho : m.outcome = none) (ha : m.answer = none) (hpc : m.pc < m.code.size) (h16 : m.code.getD m.pc 0 = 16) (hp : ¬ m.pos < m.lim) :
    M.runFor 1 m = missS m := by
  unfold missS
  have hl : m.pos ≥ m.lim := Nat.le_of_not_lt hp
  have e0 : m.word 0 = 16 := h16
  rw [M.runFor, ho]
  show m.step = _
  unfold M.step
  rw [ho, ha]
  show (if m.pc < m.code.size then m.exec else _) = _
  rw [if_pos hpc]
  unfold M.exec
  rw [e0, op16]
  show (if m.pos ≥ m.lim then _ else _) = _
  rw [if_pos hl, ho]
  rfl
theorem lit_no {m : M} {k : Nat} (ho : m.outcome = none) (ha : m.answer = none) (hpc : m.pc < m.code.size) (h16 : m.code.getD m.pc 0 = 16) (hw : m.code.getD (m.pc + 1) 0 = k) (hk : m.pos < m.lim → (m.text.getD m.pos 0 == k) = false) :
    M.runFor 1 m = missS m := by
  by_cases hp : m.pos < m.lim
  · exact lit_miss ho ha hpc h16 hp rfl hw (hk hp)
  · exact lit_end ho ha hpc h16 hp
theorem hit_at {m : M} {c p lim : Nat} {text : Array Nat} (ho : m.outcome = none) (ha : m.answer = none) (hpc : Nat.ble (m.pc + 1) m.code.size = true) (h16 : m.code.getD m.pc 0 = 16) (h1 : m.pos = p) (h2 : m.lim = lim) (h3 : m.text = text) (hw : m.code.getD (m.pc + 1) 0 = c) (hp : p < lim) (hc : text.getD p 0 = c) : M.runFor 1 m = hitS m := by
  subst h1 h2 h3
  exact lit_hit ho ha (Nat.le_of_ble_eq_true hpc) h16 hp hc hw
theorem miss_at {m : M} {k p lim : Nat} {text : Array Nat} (ho : m.outcome = none) (ha : m.answer = none) (hpc : Nat.ble (m.pc + 1) m.code.size = true) (h16 : m.code.getD m.pc 0 = 16) (h1 : m.pos = p) (h2 : m.lim = lim) (h3 : m.text = text) (hw : m.code.getD (m.pc + 1) 0 = k) (hk : p < lim → (text.getD p 0 == k) = false) : M.runFor 1 m = missS m := by
  subst h1 h2 h3
  exact lit_no ho ha (Nat.le_of_ble_eq_true hpc) h16 hw hk
theorem go1 {m m' m'' : M} {n k : Nat} (e : M.runFor k m = m') (e' : M.runFor n m' = m'') : M.runFor (k + n) m = m'' := by rw [runFor_add, e, e']
noncomputable def succS (m : M) : M := { m with seen := m.seen.add 1, handed := m.pos, answer := some true }
theorem succ_at {m : M} (ho : m.outcome = none) (ha : m.answer = none) (hpc : Nat.ble (m.pc + 1) m.code.size = true) (h1 : m.code.getD m.pc 0 = 1) (hc : (m.outermost && ((m.wholeText && m.pos != m.lim) || (m.mustAdvance && m.pos == m.start))) = false) : M.runFor 1 m = succS m := by
  have e0 : m.word 0 = 1 := h1
  rw [M.runFor, ho]
  show m.step = _
  unfold M.step
  rw [ho, ha]
  show (if m.pc < m.code.size then m.exec else _) = _
  have hpc' : m.pc < m.code.size := Nat.le_of_ble_eq_true hpc
  rw [if_pos hpc']
  unfold M.exec
  rw [e0, op1]
  show (if (m.outermost && ((m.wholeText && m.pos != m.lim) || (m.mustAdvance && m.pos == m.start))) = true then _ else _) = _
  rw [hc]
  rfl
noncomputable def hit1 (text : Array Nat) (p : Nat) : Bool := bol text p && text.getD p 0 == 46
noncomputable def at7 (text : Array Nat) (lim s : Nat) (ma o : Bool) (seen : Seen) : M := { st1 text lim s ma o seen [] with seen := (seen.add 6).add 44, pc := 7 }
noncomputable def no5 (text : Array Nat) (lim s : Nat) (ma o : Bool) (seen : Seen) : M := { st1 text lim s ma o seen [] with seen := (seen.add 6).add 44, answer := some false }
theorem st1_yes {text lim s ma o seen} (h : bol text s = true) : M.runFor 1 (st1 text lim s ma o seen []) = at7 text lim s ma o seen := st1_step.trans (if_pos h)
theorem st1_no {text lim s ma o seen} (h : ¬ bol text s = true) : M.runFor 1 (st1 text lim s ma o seen []) = no5 text lim s ma o seen := st1_step.trans (if_neg h)
theorem st1_hit {text lim s ma o seen} (h : s < lim) (hh : hit1 text s = true) : ∃ m', M.runFor 5 (st1 text lim s ma o seen []) = m' ∧ m'.outcome = some .matched ∧ m'.start = s ∧ m'.handed = s + 1 := by
  obtain ⟨hb, hc⟩ := Bool.and_eq_true_iff.mp hh
  have hc' : text.getD s 0 = 46 := by simpa using hc
  have e2 := hit_at (m := at7 text lim s ma o seen) (c := 46) (p := s) (lim := lim) (text := text) (by kernel_rfl) (by kernel_rfl) (by kernel_rfl) (by kernel_rfl) (by kernel_rfl) (by kernel_rfl) (by kernel_rfl) (by kernel_rfl) h hc'
  have e3 := succ_at (m := hitS (at7 text lim s ma o seen)) (by kernel_rfl) (by kernel_rfl) (by kernel_rfl) (by kernel_rfl) (by
    show (o && ((false && s + 1 != lim) || (ma && s + 1 == s))) = false
    have : (s + 1 == s) = false := beq_eq_false_iff_ne.mpr (Nat.succ_ne_self s)
    rw [this]
    cases o <;> cases ma <;> rfl)
  refine ⟨_, go1 (k := 1) (n := 4) (st1_yes hb) (go1 (k := 1) (n := 3) e2 (go1 (k := 1) (n := 2) e3 rfl)), ?_, ?_, ?_⟩ <;> kernel_rfl
theorem st1_miss {text lim s ma o seen} (h : s < lim) (hh : hit1 text s = false) : ∃ n seen', n ≤ 3 ∧ M.runFor n (st1 text lim s ma o seen []) = st1 text lim (s + 1) false false seen' [] := by
  by_cases hb : bol text s = true
  · have hc : s < lim → (text.getD s 0 == 46) = false := fun _ => by
      have h2 := hh
      unfold hit1 at h2
      rw [hb, Bool.true_and] at h2
      exact h2
    have e2 := miss_at (m := at7 text lim s ma o seen) (k := 46) (p := s) (lim := lim) (text := text) (by kernel_rfl) (by kernel_rfl) (by kernel_rfl) (by kernel_rfl) (by kernel_rfl) (by kernel_rfl) (by kernel_rfl) (by kernel_rfl) hc
    have e3 : M.runFor 1 (missS (at7 text lim s ma o seen)) = st1 text lim (s + 1) false false (((seen.add 6).add 44).add 16) [] := by
      show (if s < lim then _ else _) = _
      rw [if_pos h]
      kernel_rfl
    exact ⟨1 + (1 + 1), _, Nat.le_refl _, go1 (st1_yes hb) (go1 e2 e3)⟩
  · have e3 : M.runFor 1 (no5 text lim s ma o seen) = st1 text lim (s + 1) false false ((seen.add 6).add 44) [] := by
      show (if s < lim then _ else _) = _
      rw [if_pos h]
      kernel_rfl
    exact ⟨1 + 1, _, by decide, go1 (st1_no hb) e3⟩
theorem st1_end {text lim ma o seen} : ∃ n m', n ≤ 5 ∧ M.runFor n (st1 text lim lim ma o seen []) = m' ∧ m'.outcome = some .failed := by
  by_cases hb : bol text lim = true
  · have e2 := miss_at (m := at7 text lim lim ma o seen) (k := 46) (p := lim) (lim := lim) (text := text) (by kernel_rfl) (by kernel_rfl) (by kernel_rfl) (by kernel_rfl) (by kernel_rfl) (by kernel_rfl) (by kernel_rfl) (by kernel_rfl) (fun q => absurd q (Nat.lt_irrefl _))
    refine ⟨1 + (1 + 2), _, by decide, go1 (st1_yes hb) (go1 e2 rfl), ?_⟩
    show (M.runFor 1 (if lim < lim then _ else _)).outcome = _
    rw [if_neg (Nat.lt_irrefl _)]
    kernel_rfl
  · refine ⟨1 + 2, _, by decide, go1 (st1_no hb) rfl, ?_⟩
    show (M.runFor 1 (if lim < lim then _ else _)).outcome = _
    rw [if_neg (Nat.lt_irrefl _)]
    kernel_rfl
theorem run1 {text : Array Nat} {lim p : Nat} (hp : p < lim) (hit : hit1 text p = true) : ∀ k s ma o seen, p - s = k → s ≤ p → (∀ i, s ≤ i → i < p → hit1 text i = false) →
    ∃ n m', n ≤ 3 * k + 5 ∧ M.runFor n (st1 text lim s ma o seen []) = m' ∧ m'.outcome = some .matched ∧ m'.start = p ∧ m'.handed = p + 1 := by
  intro k
  induction k with
  | zero =>
    intro s ma o seen e hs _
    obtain rfl : s = p := by omega
    obtain ⟨m', h1, h2⟩ := st1_hit (ma := ma) (o := o) (seen := seen) hp hit
    exact ⟨5, m', by omega, h1, h2⟩
  | succ k ih =>
    intro s ma o seen e hs hn
    obtain ⟨n, seen', hn3, e1⟩ := st1_miss (ma := ma) (o := o) (seen := seen) (text := text) (lim := lim) (s := s) (by omega) (hn s (Nat.le_refl _) (by omega))
    obtain ⟨n', m', h1, h2, h3⟩ := ih (s + 1) false false seen' (by omega) (by omega) fun i a b => hn i (by omega) b
    exact ⟨n + n', m', by omega, by rw [runFor_add, e1, h2], h3⟩
theorem run1_none {text : Array Nat} {lim : Nat} : ∀ k s ma o seen, lim - s = k → s ≤ lim → (∀ i, s ≤ i → i < lim → hit1 text i = false) →
    ∃ n m', n ≤ 3 * k + 5 ∧ M.runFor n (st1 text lim s ma o seen []) = m' ∧ m'.outcome = some .failed := by
  intro k
  induction k with
  | zero =>
    intro s ma o seen e hs _
    obtain rfl : s = lim := by omega
    obtain ⟨n, m', h0, h1, h2⟩ := st1_end (text := text) (lim := s) (ma := ma) (o := o) (seen := seen)
    exact ⟨n, m', by omega, h1, h2⟩
  | succ k ih =>
    intro s ma o seen e hs hn
    obtain ⟨n, seen', hn3, e1⟩ := st1_miss (ma := ma) (o := o) (seen := seen) (text := text) (lim := lim) (s := s) (by omega) (hn s (Nat.le_refl _) (by omega))
    obtain ⟨n', m', h1, h2, h3⟩ := ih (s + 1) false false seen' (by omega) (by omega) fun i a b => hn i (by omega) b
    exact ⟨n + n', m', by omega, by rw [runFor_add, e1, h2], h3⟩
theorem forSearch1 {text : Array Nat} {s lim : Nat} {ma : Bool} (h : s < lim) : ∃ seen, forSearch P1 text 0 s lim ma = st1 text lim s ma true seen [] := by
  refine ⟨({} : Seen).add 14, ?_⟩
  have e : (decide (s > lim) || decide (lim - s < 1)) = false := by simp; omega
  unfold forSearch
  show (if (decide (s > lim) || decide (lim - s < 1)) = true then _ else _) = _
  rw [e]
  rfl
theorem forSearch1_end {text : Array Nat} {s lim : Nat} {ma : Bool} (h : lim ≤ s) : ∃ m', M.runFor 1 (forSearch P1 text 0 s lim ma) = m' ∧ m'.outcome = some .failed := by
  refine ⟨_, rfl, ?_⟩
  have e : (decide (s > lim) || decide (lim - s < 1)) = true := by simp; omega
  unfold forSearch
  show (M.runFor 1 (if (decide (s > lim) || decide (lim - s < 1)) = true then _ else _)).outcome = _
  rw [e]
  rfl
end
section
open PySem PySem.Sre
set_option maxHeartbeats 4000000
set_option linter.unusedSimpArgs false
noncomputable def eol (c : Nat) : Bool := c == 10 || c == 13
theorem inSet2 (c : Nat) (seen : Seen) : ∃ seen', inSet P2 c 36 5 true seen = .ok (eol c, seen') := by
  have e : inSet P2 c 36 5 true seen = if c == 10 then .ok (true, seen.add 16) else if c == 13 then .ok (true, (seen.add 16).add 16) else .ok (false, ((seen.add 16).add 16).add 0) := by kernel_rfl
  rw [e]
  unfold eol
  cases h1 : (c == 10) with
  | true => exact ⟨_, rfl⟩
  | false =>
    cases h2 : (c == 13) with
    | true => exact ⟨_, rfl⟩
    | false => exact ⟨_, rfl⟩

noncomputable def st2 (text : Array Nat) (lim s : Nat) (o : Bool) (seen : Seen) : M :=
  { code := P2, text, lim, start := s, lastStart := lim, pc := 10, pos := s, handed := s, outermost := o, marks := #[], frames := [{ wait := .nextStart, pc := 10, pos := s, outermost := o }], weight := 1, seen }
noncomputable def eend (text : Array Nat) (lim p : Nat) : Nat := if text.getD p 0 == 13 && decide (p + 1 < lim) && text.getD (p + 1) 0 == 10 then p + 2 else p + 1

theorem st2_hit {text lim s seen} (h : s < lim) (hh : eol (text.getD s 0) = true) : ∃ n m', n ≤ 15 ∧ M.runFor n (st2 text lim s true seen) = m' ∧ m'.outcome = some .matched ∧ m'.start = s ∧ m'.handed = eend text lim s := by
  by_cases h1 : text.getD s 0 = 10
  · have e : eend text lim s = s + 1 := by unfold eend; rw [h1]; rfl
    rw [e]
    have n13 : s < lim → (text.getD s 0 == 13) = false := fun _ => by rw [h1]; rfl
    have e2 := miss_at (m := M.runFor 1 (st2 text lim s true seen)) (k := 13) (p := s) (lim := lim) (text := text) (by kernel_rfl) (by kernel_rfl) (by kernel_rfl) (by kernel_rfl) (by kernel_rfl) (by kernel_rfl) (by kernel_rfl) (by kernel_rfl) n13
    have e4 := hit_at (m := M.runFor 1 (missS (M.runFor 1 (st2 text lim s true seen)))) (c := 10) (p := s) (lim := lim) (text := text) (by kernel_rfl) (by kernel_rfl) (by kernel_rfl) (by kernel_rfl) (by kernel_rfl) (by kernel_rfl) (by kernel_rfl) (by kernel_rfl) h h1
    refine ⟨1 + (1 + (1 + (1 + 5))), _, by decide, go1 rfl (go1 e2 (go1 rfl (go1 e4 rfl))), ?_, ?_, ?_⟩ <;> kernel_rfl
  · have h2 : text.getD s 0 = 13 := by
      have := Bool.or_eq_true_iff.mp hh
      rcases this with q | q
      · exact absurd (by simpa using q) h1
      · simpa using q
    have e1 := hit_at (m := M.runFor 1 (st2 text lim s true seen)) (c := 13) (p := s) (lim := lim) (text := text) (by kernel_rfl) (by kernel_rfl) (by kernel_rfl) (by kernel_rfl) (by kernel_rfl) (by kernel_rfl) (by kernel_rfl) (by kernel_rfl) h h2
    by_cases h3 : s + 1 < lim ∧ text.getD (s + 1) 0 = 10
    · have e : eend text lim s = s + 2 := by unfold eend; rw [h2, h3.2, decide_eq_true h3.1]; rfl
      rw [e]
      have e2 := hit_at (m := hitS (M.runFor 1 (st2 text lim s true seen))) (c := 10) (p := s + 1) (lim := lim) (text := text) (by kernel_rfl) (by kernel_rfl) (by kernel_rfl) (by kernel_rfl) (by kernel_rfl) (by kernel_rfl) (by kernel_rfl) (by kernel_rfl) h3.1 h3.2
      refine ⟨1 + (1 + (1 + 5)), _, by decide, go1 rfl (go1 e1 (go1 e2 rfl)), ?_, ?_, ?_⟩ <;> kernel_rfl
    · have h4 : s + 1 < lim → (text.getD (s + 1) 0 == 10) = false := fun q => beq_eq_false_iff_ne.mpr fun r => h3 ⟨q, r⟩
      have n10 : s < lim → (text.getD s 0 == 10) = false := fun _ => by rw [h2]; rfl
      have e : eend text lim s = s + 1 := by
        unfold eend
        rw [h2]
        by_cases q : s + 1 < lim
        · rw [h4 q, Bool.and_false]; rfl
        · rw [decide_eq_false q]; rfl
      rw [e]
      have e2 := miss_at (m := hitS (M.runFor 1 (st2 text lim s true seen))) (k := 10) (p := s + 1) (lim := lim) (text := text) (by kernel_rfl) (by kernel_rfl) (by kernel_rfl) (by kernel_rfl) (by kernel_rfl) (by kernel_rfl) (by kernel_rfl) (by kernel_rfl) h4
      have e3 := miss_at (m := M.runFor 1 (missS (hitS (M.runFor 1 (st2 text lim s true seen))))) (k := 10) (p := s) (lim := lim) (text := text) (by kernel_rfl) (by kernel_rfl) (by kernel_rfl) (by kernel_rfl) (by kernel_rfl) (by kernel_rfl) (by kernel_rfl) (by kernel_rfl) n10
      have e4 := hit_at (m := M.runFor 1 (missS (M.runFor 1 (missS (hitS (M.runFor 1 (st2 text lim s true seen))))))) (c := 13) (p := s) (lim := lim) (text := text) (by kernel_rfl) (by kernel_rfl) (by kernel_rfl) (by kernel_rfl) (by kernel_rfl) (by kernel_rfl) (by kernel_rfl) (by kernel_rfl) h h2
      have e5 := miss_at (m := M.runFor 1 (hitS (M.runFor 1 (missS (M.runFor 1 (missS (hitS (M.runFor 1 (st2 text lim s true seen))))))))) (k := 10) (p := s + 1) (lim := lim) (text := text) (by kernel_rfl) (by kernel_rfl) (by kernel_rfl) (by kernel_rfl) (by kernel_rfl) (by kernel_rfl) (by kernel_rfl) (by kernel_rfl) h4
      refine ⟨1 + (1 + (1 + (1 + (1 + (1 + (1 + (1 + (1 + 6)))))))), _, by decide, go1 rfl (go1 e1 (go1 e2 (go1 rfl (go1 e3 (go1 rfl (go1 e4 (go1 rfl (go1 e5 rfl)))))))), ?_, ?_, ?_⟩ <;> kernel_rfl

noncomputable def Finds (code text : Array Nat) (s : Nat) (r : Option (Nat × Nat)) : Prop :=
  ∀ ma, ∃ n m', n ≤ 3 * text.size + 20 ∧ M.runFor n (forSearch code text 0 s text.size ma) = m' ∧ match r with
    | some (b, e) => m'.outcome = some .matched ∧ m'.start = b ∧ m'.handed = e
    | none => m'.outcome = some .failed

theorem finds1_hit {text : Array Nat} {s p : Nat} (hs : s ≤ p) (hp : p < text.size) (hit : hit1 text p = true) (hn : ∀ i, s ≤ i → i < p → hit1 text i = false) : Finds P1 text s (some (p, p + 1)) := by
  intro ma
  obtain ⟨seen, e⟩ := forSearch1 (text := text) (s := s) (lim := text.size) (ma := ma) (by omega)
  obtain ⟨n, m', h1, h2, h3⟩ := run1 hp hit (p - s) s ma true seen rfl hs hn
  exact ⟨n, m', by omega, by rw [e, h2], h3⟩
theorem finds1_none {text : Array Nat} {s : Nat} (hs : s ≤ text.size) (hn : ∀ i, s ≤ i → i < text.size → hit1 text i = false) : Finds P1 text s none := by
  intro ma
  by_cases h : s < text.size
  · obtain ⟨seen, e⟩ := forSearch1 (text := text) (s := s) (lim := text.size) (ma := ma) h
    obtain ⟨n, m', h1, h2, h3⟩ := run1_none (text := text) (text.size - s) s ma true seen rfl hs hn
    exact ⟨n, m', by omega, by rw [e, h2], h3⟩
  · obtain ⟨m', h2, h3⟩ := forSearch1_end (text := text) (s := s) (lim := text.size) (ma := ma) (by omega)
    exact ⟨1, m', by omega, h2, h3⟩

theorem admitted2 {m : M} {text : Array Nat} {lim p : Nat} (hc : m.code = P2) (ht : m.text = text) (hl : m.lim = lim) (hp : p < lim) (hit : eol (text.getD p 0) = true) :
    ∀ k s fuel seen, p - s = k → s ≤ p → k < fuel → (∀ i, s ≤ i → i < p → eol (text.getD i 0) = false) → ∃ seen', M.admitted m fuel s seen = .ok (some p, seen') := by
  intro k
  induction k with
  | zero =>
    intro s fuel seen e hs hf hn
    obtain rfl : s = p := by omega
    obtain ⟨f, rfl⟩ : ∃ f, fuel = f + 1 := ⟨fuel - 1, by omega⟩
    obtain ⟨seen', hi⟩ := inSet2 (text.getD s 0) seen
    refine ⟨seen', ?_⟩
    have hsz : P2.size = 36 := rfl
    rw [M.admitted, hl, if_neg (by omega), hc, ht, hsz, hi, hit]
  | succ k ih =>
    intro s fuel seen e hs hf hn
    obtain ⟨f, rfl⟩ : ∃ f, fuel = f + 1 := ⟨fuel - 1, by omega⟩
    obtain ⟨seen', hi⟩ := inSet2 (text.getD s 0) seen
    obtain ⟨seen'', h⟩ := ih (s + 1) f seen' (by omega) (by omega) (by omega) fun i a b => hn i (by omega) b
    refine ⟨seen'', ?_⟩
    have hsz : P2.size = 36 := rfl
    rw [M.admitted, hl, if_neg (by omega), hc, ht, hsz, hi, hn s (Nat.le_refl _) (by omega)]
    exact h
theorem admitted2_none {m : M} {text : Array Nat} {lim : Nat} (hc : m.code = P2) (ht : m.text = text) (hl : m.lim = lim) :
    ∀ fuel s seen, (∀ i, s ≤ i → i < lim → eol (text.getD i 0) = false) → ∃ seen', M.admitted m fuel s seen = .ok (none, seen') := by
  intro fuel
  induction fuel with
  | zero => exact fun s seen _ => ⟨seen, rfl⟩
  | succ f ih =>
    intro s seen hn
    by_cases h : s ≥ lim
    · exact ⟨seen, by rw [M.admitted, hl, if_pos h]⟩
    · obtain ⟨seen', hi⟩ := inSet2 (text.getD s 0) seen
      obtain ⟨seen'', h'⟩ := ih (s + 1) seen' fun i a b => hn i (by omega) b
      refine ⟨seen'', ?_⟩
      have hsz : P2.size = 36 := rfl
      rw [M.admitted, hl, if_neg h, hc, ht, hsz, hi, hn s (Nat.le_refl _) (by omega)]
      exact h'
theorem forSearch2 {text : Array Nat} {s lim : Nat} {ma : Bool} (h : s < lim) : ∃ m : M, m.code = P2 ∧ m.text = text ∧ m.lim = lim ∧ m.seen = ({} : Seen).add 14 ∧ forSearch P2 text 0 s lim ma = m.attemptFrom s true ∧
    (∀ seen p, { m with mustAdvance := false, seen }.attemptAt p true = st2 text lim p true seen) ∧ m.outcome = none ∧ m.frames = [] := by
  refine ⟨{ code := P2, text, lim, start := s, lastStart := lim, pc := 10, pos := s, handed := s, marks := #[], mustAdvance := ma, seen := ({} : Seen).add 14 }, rfl, rfl, rfl, rfl, ?_, ?_, rfl, rfl⟩
  · have e : (decide (s > lim) || decide (lim - s < 1)) = false := by simp; omega
    unfold forSearch
    show (if (decide (s > lim) || decide (lim - s < 1)) = true then _ else _) = _
    rw [e]
    rfl
  · intro seen p
    simp [M.attemptAt, M.attempt, st2]
theorem attemptFrom2 {m : M} {s : Nat} (hc : m.code = P2) : m.attemptFrom s true = match M.admitted m (m.lim + 1 - s) s m.seen with
  | .ok (some s, seen) => { m with mustAdvance := false, seen }.attemptAt s true
  | .ok (none, seen) => { m with seen }.say false
  | .error why => m.stick why := by
  unfold M.attemptFrom
  have : m.hasFirstSet = true := by unfold M.hasFirstSet; rw [hc]; rfl
  rw [this]
  rfl
theorem finds2_hit {text : Array Nat} {s p : Nat} (hs : s ≤ p) (hp : p < text.size) (hit : eol (text.getD p 0) = true) (hn : ∀ i, s ≤ i → i < p → eol (text.getD i 0) = false) : Finds P2 text s (some (p, eend text text.size p)) := by
  intro ma
  obtain ⟨m, hc, ht, hl, hse, e, ha, -, -⟩ := forSearch2 (text := text) (s := s) (lim := text.size) (ma := ma) (by omega)
  obtain ⟨seen', h'⟩ := admitted2 hc ht hl hp hit (p - s) s (m.lim + 1 - s) m.seen rfl hs (by omega) hn
  obtain ⟨n, m', h1, h2, h3⟩ := st2_hit (seen := seen') hp hit
  refine ⟨n, m', by omega, ?_, h3⟩
  rw [e, attemptFrom2 hc, h']
  show M.runFor n ({ m with mustAdvance := false, seen := seen' }.attemptAt p true) = m'
  rw [ha, h2]
theorem finds2_none {text : Array Nat} {s : Nat} (hn : ∀ i, s ≤ i → i < text.size → eol (text.getD i 0) = false) : Finds P2 text s none := by
  intro ma
  by_cases h : s < text.size
  · obtain ⟨m, hc, ht, hl, hse, e, ha, ho, hf⟩ := forSearch2 (text := text) (s := s) (lim := text.size) (ma := ma) h
    obtain ⟨seen', h'⟩ := admitted2_none hc ht hl (m.lim + 1 - s) s m.seen hn
    refine ⟨1, _, by omega, rfl, ?_⟩
    rw [e, attemptFrom2 hc, h']
    simp [M.runFor, M.step, M.say, ho, hf]
  · refine ⟨1, _, by omega, rfl, ?_⟩
    have e : (decide (s > text.size) || decide (text.size - s < 1)) = true := by simp; omega
    unfold forSearch
    show (M.runFor 1 (if (decide (s > text.size) || decide (text.size - s < 1)) = true then _ else _)).outcome = _
    rw [e]
    rfl
end
section
open PySem PySem.Builtin PySem.Builtin.Re PyProof.Rows
set_option maxHeartbeats 4000000
set_option linter.unusedSimpArgs false
section
variable {prog : Program} {w : World} {A : Around} {E : Value → Shared → Prop} {s : Shared}

theorem reDrive_ok {Q : Sre.M → Shared → Prop} : ∀ (turns n : Nat) (m : Sre.M), n ≤ 4 * turns → 0 < turns → (Sre.M.runFor n m).outcome.isSome = true → Q (Sre.M.runFor n m) s → wpAny (model prog w) A (reDrive turns m) Q E s := by
  intro turns
  induction turns with
  | zero => intro n m h h0; omega
  | succ t ih =>
    intro n m hn _ hd hq
    unfold reDrive
    show wpAny _ _ (if (Sre.M.runFor 4 m).outcome.isSome = true then _ else _) _ _ _
    by_cases h4 : (Sre.M.runFor 4 m).outcome.isSome = true
    · rw [if_pos h4]
      have : Sre.M.runFor n m = Sre.M.runFor 4 m := by
        by_cases hn4 : 4 ≤ n
        · obtain ⟨k, rfl⟩ : ∃ k, n = 4 + k := ⟨n - 4, by omega⟩
          rw [runFor_add, runFor_some h4]
        · obtain ⟨k, hk⟩ : ∃ k, 4 = n + k := ⟨4 - n, by omega⟩
          rw [hk, runFor_add, runFor_some hd]
      rw [this] at hq
      exact wpAny_pure hq
    · rw [if_neg h4]
      have hn4 : 4 < n := by
        by_cases q : 4 < n
        · exact q
        · obtain ⟨k, hk⟩ : ∃ k, 4 = n + k := ⟨4 - n, by omega⟩
          rw [hk, runFor_add, runFor_some hd] at h4
          exact absurd hd h4
      obtain ⟨k, rfl⟩ : ∃ k, n = 4 + k := ⟨n - 4, by omega⟩
      rw [runFor_add] at hd hq
      exact wpAny_bind (wpAny_rule (ih k _ (by omega) (by omega) hd hq))

theorem reEnd_ok {Q : Option Sre.M → Shared → Prop} {m m' : Sre.M} {n : Nat} (hn : n ≤ 2 ^ 40) (h : Sre.M.runFor n m = m') (r : Bool) (ho : m'.outcome = some (if r then .matched else .failed)) (hq : Q (if r then some m' else none) s) :
    wpAny (model prog w) A (reRunToEnd m) Q E s := by
  subst h
  unfold reRunToEnd
  refine wpAny_bind (reDrive_ok _ n m (by omega) (by decide) (by rw [ho]; rfl) ?_)
  refine wpAny_bind ?_
  refine wpAny_forIn_list _ (fun _ _ s' => s' = s) _ ?_ ?_ _ _ rfl
  · rintro x rest b s' rfl
    split
    · exact wpAny_bind (wpAny_rule (wpAny_pure rfl))
    · refine wpAny_pure ?_
      rfl
  · rintro b s' rfl
    rw [ho]
    cases r
    · exact wpAny_pure hq
    · exact wpAny_pure hq

/-- the pattern object and the tuple of its code -/
structure PatAt (h : Heap) (pat tup : Addr) (code : Array Nat) : Prop where
  fs : ∃ o v0 v1 v3 v4 k, h.get? pat = some o ∧ o.cls = .type "re.Pattern" ∧ o.dict = none ∧ o.data = .fields #[v0, v1, .int 0 k, v3, v4, .ref tup, .int 0 0]
  tp : ∃ o vs n, h.get? tup = some o ∧ o.data = .seq vs n ∧ (vs.map reRawOf).map (·.toNat) = code
theorem PatAt.keeps {h h' : Heap} {pat tup : Addr} {code : Array Nat} (P : PatAt h pat tup code) (hk : ∀ b o, h.get? b = some o → h'.get? b = some o) : PatAt h' pat tup code := by
  obtain ⟨⟨o, v0, v1, v3, v4, k, a, b⟩, ⟨o', vs, n, c, d⟩⟩ := P
  exact ⟨⟨o, v0, v1, v3, v4, k, hk _ _ a, b⟩, ⟨o', vs, n, hk _ _ c, d⟩⟩
theorem PatAt.off {h h' : Heap} {pat tup l : Addr} {code : Array Nat} (P : PatAt h pat tup code) (hk : ∀ b o, b ≠ l → h.get? b = some o → h'.get? b = some o) (h1 : pat ≠ l) (h2 : tup ≠ l) : PatAt h' pat tup code := by
  obtain ⟨⟨o, v0, v1, v3, v4, k, a, b⟩, ⟨o', vs, n, c, d⟩⟩ := P
  exact ⟨⟨o, v0, v1, v3, v4, k, hk _ _ h1 a, b⟩, ⟨o', vs, n, hk _ _ h2 c, d⟩⟩

theorem target_ok {pat tup : Addr} {code : Array Nat} {x : Str} {t : Tok} {Q : ReTarget → Shared → Prop} (P : PatAt s.heap pat tup code)
    (h : Q { pattern := .ref pat, string := .str x t, code := code, text := x.cps, kind := 0, groups := 0, pos := 0, lim := x.cps.size } s) : wpAny (model prog w) A (reWholeTarget (.ref pat) (.str x t)) Q E s := by
  obtain ⟨⟨o, v0, v1, v3, v4, k, ho, -, -, hd⟩, ⟨o', vs, n, ho', hd', hc⟩⟩ := P
  unfold reWholeTarget
  refine wpAny_bind (wpAny_fieldsOf ho hd ?_)
  refine wpAny_bind ?_
  show wpAny _ _ (reTextOf (.str x t)) _ _ _
  unfold reTextOf
  refine wpAny_bind (m := asStr? (.str x t)) (wpAny_pure ?_)
  refine wpAny_pure ?_
  refine wpAny_bind (m := reNoCollectionInside (.str x t) 0) ?_
  show wpAny _ _ (pure ()) _ _ _
  refine wpAny_pure ?_
  refine wpAny_bind (m := reRawItems (.ref tup)) ?_
  unfold reRawItems
  refine wpAny_bind (wpAny_seqItems ho' hd' (wpAny_pure ?_))
  show wpAny _ _ (pure _) _ _ _
  refine wpAny_pure ?_
  rw [show (some vs).getD #[] = vs from rfl, hc]
  exact h

/-- what a substitution by a plain text yields, from a place on -/
inductive SubR (code text : Array Nat) (repl : List Nat) : Nat → List Nat → Prop
  | stop {d : Nat} : d ≤ text.size → Finds code text d none → SubR code text repl d (text.toList.drop d)
  | go {d b e : Nat} {r : List Nat} : d ≤ b → b < e → e ≤ text.size → Finds code text d (some (b, e)) → SubR code text repl e r → SubR code text repl d ((text.toList.drop d).take (b - d) ++ repl ++ r)

theorem next_ok {pat : Addr} {code : Array Nat} {x : Str} {t : Tok} {Q : Option Sre.M → Shared → Prop} {d : Nat} {must : Bool} {r : Option (Nat × Nat)} (hf : Finds code x.cps d r) (hx : x.cps.size ≤ 2 ^ 20)
    (h : match r with | some (b, e) => ∀ m : Sre.M, m.start = b → m.handed = e → Q (some m) s | none => Q none s) :
    wpAny (model prog w) A (reNextFound { pattern := .ref pat, string := .str x t, code := code, text := x.cps, kind := 0, groups := 0, pos := 0, lim := x.cps.size } d must) Q E s := by
  unfold reNextFound
  obtain ⟨n, m', hn, e, ho⟩ := hf must
  have e20 : (2 : Nat) ^ 20 = 1048576 := by decide
  cases r with
  | none => exact reEnd_ok (n := n) (by omega) e false ho h
  | some p => exact reEnd_ok (n := n) (by omega) e true ho.1 (h m' ho.2.1 ho.2.2)

theorem slice_ok {x : Str} {b e : Nat} {Q : Value → Shared → Prop} (hx : x.cps.size ≤ 2 ^ 20) (h : Q (.str ⟨x.cps.extract b e⟩ s.toks) { s with toks := s.toks + 1 }) : wpAny (model prog w) A (reSlice x.cps 0 b e) Q E s := by
  show wpAny _ _ (mkStr ⟨x.cps.extract b e⟩) _ _ _
  refine wpAny_mkStr h ?_
  have e20 : (2 : Nat) ^ 20 = 1048576 := by decide
  show (x.cps.extract b e).size ≤ sizeLine
  rw [Array.size_extract, sizeLine_eq]
  omega

/-- the pieces' list -/
noncomputable def PiecesAt (h : Heap) (l : Addr) (ys : List Str) : Prop := ∃ o vs n, h.get? l = some o ∧ o.cls = .type "list" ∧ o.data = .seq vs n ∧ StrsAre vs.toList ys
theorem strs_snoc {vs : List Value} {ys : List Str} {y : Str} {t : Tok} : StrsAre vs ys → StrsAre (vs ++ [.str y t]) (ys ++ [y])
  | .nil => .cons _ _ .nil
  | .cons a b r => .cons a b (strs_snoc r)
theorem strs_len {vs : List Value} {ys : List Str} : StrsAre vs ys → vs.length = ys.length
  | .nil => rfl
  | .cons a b r => by rw [List.length_cons, List.length_cons, strs_len r]
theorem push_ok {l : Addr} {ys : List Str} {y : Str} {t : Tok} {Q : Unit → Shared → Prop} (P : PiecesAt s.heap l ys) (hl : ys.length ≤ 2 ^ 21)
    (h : ∀ h', PiecesAt h' l (ys ++ [y]) → (∀ b o, b ≠ l → s.heap.get? b = some o → h'.get? b = some o) → h'.objs.size = s.heap.objs.size → Q () { s with heap := h' }) : wpAny (model prog w) A (updateSeq l (·.push (.str y t))) Q E s := by
  obtain ⟨o, vs, n, ho, hc, hd, hs⟩ := P
  have e21 : (2 : Nat) ^ 21 = 2097152 := by decide
  have hz : vs.size = ys.length := by rw [← strs_len hs, Array.length_toList]
  refine wpAny_updateSeq ho hd ?_ (by rw [sizeLine_eq]; omega) (by rw [sizeLine_eq, Array.size_push]; omega)
  obtain ⟨c, dd, dt, sl⟩ := o
  replace hd : dt = .seq vs n := hd
  subst hd
  replace hc : c = .type "list" := hc
  subst hc
  refine h _ ⟨Obj.mapSeq (·.push (.str y t)) { cls := .type "list", dict := dd, data := .seq vs n, slots := sl }, vs.push (.str y t), _, Heap.get?_update_self (Obj.mapSeq (·.push (.str y t))) ho rfl, rfl, rfl, ?_⟩ (fun b o hb e => (Heap.get?_update_ne _ _ _ _ hb).trans e) ?_
  · rw [Array.toList_push]; exact strs_snoc hs
  · exact (Heap.SameBut.update ..).1
end
end
section
open PySem PySem.Builtin PySem.Builtin.Re PyProof.Rows
set_option maxHeartbeats 4000000
set_option linter.unusedSimpArgs false
theorem entry_loop : entryFor table "re.Pattern.sub.loop" = some Builtin.«re.Pattern.sub.loop» := entryFor_of_tree (by kernel_rfl)
theorem plain_loop : plainId "re.Pattern.sub.loop" = true := by decide +kernel
noncomputable def weigh (ys : List Str) : Nat := (ys.map (·.length)).sum + ys.length
theorem weigh_snoc (ys : List Str) (y : Str) : weigh (ys ++ [y]) = weigh ys + y.length + 1 := by
  unfold weigh; simp; omega
noncomputable def flat (ys : List Str) : List Nat := (ys.map (·.cps.toList)).flatten
theorem flat_snoc (ys : List Str) (y : Str) : flat (ys ++ [y]) = flat ys ++ y.cps.toList := by unfold flat; simp
theorem join_flat (ys : List Str) : (Txt.join ⟨#[]⟩ ys).cps.toList = flat ys := by
  have h : ∀ (l : List Str) (acc : Array Nat), (l.foldl (fun acc p => acc ++ (⟨#[]⟩ : Str).cps ++ p.cps) acc).toList = acc.toList ++ flat l := by
    intro l
    induction l with
    | nil => intro acc; simp [flat]
    | cons y r ih => intro acc; rw [List.foldl_cons, ih]; simp [flat]
  show ((ys.drop 1).foldl (fun acc p => acc ++ (⟨#[]⟩ : Str).cps ++ p.cps) (ys.headD Str.empty).cps).toList = _
  rw [h]
  cases ys with
  | nil => rfl
  | cons y r => simp [flat]
section
variable {prog : Program} {w : World} {A : Around} {E : Value → Shared → Prop} {s : Shared}
theorem tail_ok {l : Addr} {ys : List Str} {x : Str} {n : Int} {A' : Around} {Q : PySem.Fin → Shared → Prop} (P : PiecesAt s.heap l ys) (hw : weigh ys ≤ 1048576) (hx : x.cps.size ≤ 2 ^ 20)
    (h : ∀ z t' tk', z.cps.toList = flat ys → Q (.done (.ret (.str z t'))) { s with toks := tk' }) :
    wpAny (model prog w) A' (do
      let joiner ← reSlice x.cps 0 0 0
      let text ← if ((← seqItems? (.ref l)).getD #[]).isEmpty then pure joiner else call (.builtin "str.join") [joiner, .ref l]
      ret text) Q E s := by
  refine wpAny_bind (slice_ok hx ?_)
  obtain ⟨o, vs, k, ho, hc, hd, hs⟩ := P
  refine wpAny_bind (wpAny_seqItems ho hd ?_)
  have e0 : (⟨x.cps.extract 0 0⟩ : Str) = ⟨#[]⟩ := by
    congr 1; simp
  rw [e0]
  show wpAny _ _ (if vs.isEmpty = true then _ else _) _ _ _
  by_cases hv : vs.isEmpty = true
  · rw [if_pos hv]
    have hy : ys = [] := by
      have := strs_len hs
      have hv' : vs.size = 0 := by simpa using hv
      rw [Array.length_toList, hv'] at this
      exact List.eq_nil_of_length_eq_zero this.symm
    subst hy
    exact wpAny_bind (wpAny_pure (wpAny_pure (h _ _ _ rfl)))
  · rw [if_neg hv]
    refine wpAny_bind (join_listW ⟨o, ho, hc, k, hd⟩ hs (by decide) hw fun t' k' => ?_)
    exact wpAny_pure (h _ _ _ (join_flat ys))

theorem loop_ok {pat tup l : Addr} {code : Array Nat} {x : Str} {t tr : Tok} {repl : Str} {R : Result → Shared → Prop} (hx : x.cps.size ≤ 2 ^ 20) (hr : repl.length ≤ 2) (h1 : pat ≠ l) (h2 : tup ≠ l) {d : Nat} {out : List Nat}
    (S : SubR code x.cps repl.cps.toList d out) : ∀ (n : Int) (must : Bool) (ys : List Str) (s : Shared), PatAt s.heap pat tup code → PiecesAt s.heap l ys → weigh ys + 4 * (x.cps.size - d) + 1 ≤ 1048576 →
    (∀ z t' h' tk', z.cps.toList = flat ys ++ out → (∀ b o, b ≠ l → s.heap.get? b = some o → h'.get? b = some o) → h'.objs.size = s.heap.objs.size → R (.ok (.ret (.str z t'))) { s with heap := h', toks := tk' }) →
    codeAny (model prog w) A (.builtin "re.Pattern.sub.loop" ⟨[.ref pat, .str x t, .str repl tr, rawInt 0, rawInt 0, rawInt n, rawInt d, rawInt d, .bool must, .ref l, .bool false], []⟩) R s := by
  have e20 : (2 : Nat) ^ 20 = 1048576 := by decide
  have e21 : (2 : Nat) ^ 21 = 2097152 := by decide
  induction S with
  | @stop d hd hf =>
    intro n must ys s P L hw post
    refine codeAny_builtin entry_loop ?_
    unfold Builtin.«re.Pattern.sub.loop»
    refine wpAny_bind (target_ok P ?_)
    refine wpAny_bind (m := reLiteralCannotBeTurned (.str repl tr)) (wpAny_pure ?_)
    refine wpAny_bind (m := reNextFound _ (d : Int).toNat must) ?_
    rw [Int.toNat_natCast]
    refine next_ok hf hx ?_
    show wpAny _ _ (if (d : Int).toNat < x.cps.size then _ else _) _ _ _
    rw [Int.toNat_natCast]
    by_cases hlt : d < x.cps.size
    · rw [if_pos hlt]
      refine wpAny_bind (slice_ok (x := x) (b := d) (e := x.cps.size) hx ?_)
      refine wpAny_bind (push_ok (y := ⟨x.cps.extract d x.cps.size⟩) (by exact L) (by unfold weigh at hw; omega) fun h' L' hk hz => ?_)
      have hlen : (⟨x.cps.extract d x.cps.size⟩ : Str).length ≤ x.cps.size - d := by
        show (x.cps.extract d x.cps.size).size ≤ _
        rw [Array.size_extract]; omega
      refine tail_ok (x := x) (n := n) (by exact L') (by rw [weigh_snoc]; omega) hx fun z t' tk' hz' => ?_
      refine post z t' h' tk' ?_ hk hz
      rw [hz', flat_snoc]
      congr 1
      show (x.cps.extract d x.cps.size).toList = _
      rw [Array.toList_extract]
      exact List.take_of_length_le (by simp)
    · rw [if_neg hlt]
      refine tail_ok (x := x) (n := n) L (by omega) hx fun z t' tk' hz' => ?_
      refine post z t' s.heap tk' ?_ (fun b o _ e => e) rfl
      rw [hz', List.drop_of_length_le (by rw [Array.length_toList]; omega), List.append_nil]
  | @go d b e r hdb hbe hes hf S ih =>
    intro n must ys s P L hw post
    refine codeAny_builtin entry_loop ?_
    unfold Builtin.«re.Pattern.sub.loop»
    refine wpAny_bind (target_ok P ?_)
    refine wpAny_bind (m := reLiteralCannotBeTurned (.str repl tr)) (wpAny_pure ?_)
    refine wpAny_bind (m := reNextFound _ (d : Int).toNat must) ?_
    rw [Int.toNat_natCast]
    refine next_ok hf hx ?_
    intro m hms hmh
    have fin : ∀ (ys' : List Str) (s' : Shared) (A' : Around), PatAt s'.heap pat tup code → PiecesAt s'.heap l ys' → weigh ys' + (repl.length + 1) + 4 * (x.cps.size - e) + 1 ≤ 1048576 →
        (∀ z t' h' tk', z.cps.toList = flat ys' ++ (repl.cps.toList ++ r) → (∀ b o, b ≠ l → s'.heap.get? b = some o → h'.get? b = some o) → h'.objs.size = s'.heap.objs.size → R (.ok (.ret (.str z t'))) { s' with heap := h', toks := tk' }) →
        wpAny (model prog w) A' (do
          let item ← pure (Value.str repl tr)
          if (item != Value.none) = true then do
              updateSeq l fun x => x.push item
              again (Code.builtin "re.Pattern.sub.loop" { pos := [Value.ref pat, Value.str x t, Value.str repl tr, rawInt 0, rawInt 0, rawInt (n + 1), rawInt ↑m.handed, rawInt ↑m.handed, Value.bool (m.handed == b), Value.ref l, Value.bool false] })
            else again (Code.builtin "re.Pattern.sub.loop" { pos := [Value.ref pat, Value.str x t, Value.str repl tr, rawInt 0, rawInt 0, rawInt (n + 1), rawInt ↑m.handed, rawInt ↑m.handed, Value.bool (m.handed == b), Value.ref l, Value.bool false] }))
          (fun fin s' => match fin with | .done f => R (.ok f) s' | .again c' => c'.quiet = true ∧ codeAny (model prog w) A c' R s') (fun e s' => R (.error e) s') s' := by
      intro ys' s' A' P' L' hw' post'
      refine wpAny_bind (wpAny_pure ?_)
      rw [if_pos (by rfl)]
      refine wpAny_bind (push_ok L' (by unfold weigh at hw'; omega) fun h' L'' hk hz => ?_)
      refine wpAny_pure ?_
      refine ⟨plainId_quiet plain_loop _, ?_⟩
      rw [hmh]
      refine ih (n + 1) _ (ys' ++ [repl]) _ (P'.off hk h1 h2) L'' (by rw [weigh_snoc]; omega) fun z t' h'' tk' hz' hk' hz'' => ?_
      refine post' z t' h'' tk' ?_ (fun b o hb q => hk' b o hb (hk b o hb q)) (hz''.trans hz)
      rw [hz', flat_snoc, List.append_assoc]
    show wpAny _ _ (if (d : Int).toNat < m.start then _ else _) _ _ _
    rw [Int.toNat_natCast, hms]
    by_cases hlt : d < b
    · rw [if_pos hlt]
      refine wpAny_bind (slice_ok (x := x) (b := d) (e := b) hx ?_)
      refine wpAny_bind (push_ok (y := ⟨x.cps.extract d b⟩) (by exact L) (by unfold weigh at hw; omega) fun h' L' hk hz => ?_)
      have hlen : (⟨x.cps.extract d b⟩ : Str).length ≤ b - d := by
        show (x.cps.extract d b).size ≤ _
        rw [Array.size_extract]; omega
      refine fin (ys ++ [⟨x.cps.extract d b⟩]) { s with heap := h', toks := s.toks + 1 } _ (P.off hk h1 h2) L' (by rw [weigh_snoc]; omega) fun z t' h'' tk' hz' hk' hz'' => ?_
      refine post z t' h'' tk' ?_ (fun b o hb q => hk' b o hb (hk b o hb q)) (hz''.trans hz)
      rw [hz', flat_snoc, List.append_assoc, List.append_assoc]
      congr 2
      show (x.cps.extract d b).toList = _
      rw [Array.toList_extract]
    · rw [if_neg hlt]
      refine fin ys _ _ P L (by omega) fun z t' h'' tk' hz' hk' hz'' => ?_
      refine post z t' h'' tk' ?_ hk' hz''
      rw [hz', show b - d = 0 by omega, List.take_zero, List.nil_append]
end
end
section
open PySem PySem.Builtin PySem.Builtin.Re PyProof.Rows
set_option maxHeartbeats 4000000
set_option linter.unusedSimpArgs false
theorem attrs_pat : PlainAttrs "re.Pattern" :=
  ⟨⟨"object.__getattribute__", by rw [typeLookup_type, builtinLookup_eq_fast]; kernel_rfl, by decide +kernel⟩, by rw [typeLookup_type, builtinLookup_eq_fast]; kernel_rfl⟩
theorem slot_sub : Slot "re.Pattern" "sub" "re.Pattern.sub" :=
  .of (owner := "re.Pattern") (n := "sub") (by rw [typeLookup_type, builtinLookup_eq_fast]; kernel_rfl) (by decide +kernel) (by decide +kernel) (by decide +kernel)
    (by first | exact .inl (by decide +kernel) | exact .inr (by decide +kernel)) (by rw [isSubtype_type]; kernel_rfl)
theorem type_sub : typeOf (.builtin "re.Pattern.sub") = pure (.type "method_descriptor") := by show builtinType _ = _; rw [builtinType_eq_fast]; kernel_rfl
theorem entry_sub : entryFor table "re.Pattern.sub" = some Builtin.«re.Pattern.sub» := entryFor_of_tree (by kernel_rfl)
theorem args_sub (a b c : Value) : argsOk "re.Pattern.sub" ⟨[a, b, c], []⟩ := by unfold argsOk; kernel_rfl
theorem str_no_call : typeLookup (.type "str") "__call__" = pure none := by rw [typeLookup_type, builtinLookup_eq_fast]; kernel_rfl
section
variable {prog : Program} {w : World} {A : Around} {E : Value → Shared → Prop} {s : Shared}
theorem named_ok (a b : Value) : reNamed "re.Pattern.sub" "sub" ["repl", "string", "count"] 2 [a, b] [] = pure [some a, some b, none] := by
  rfl
theorem getSub {pat tup : Addr} {code : Array Nat} {pl : Sem Bool} {Q : Value × List Value → Shared → Prop} (P : PatAt s.heap pat tup code) (h : Q (.builtin "re.Pattern.sub", [.ref pat]) s) : wpAny (model prog w) A (getMethod (.ref pat) "sub" pl) Q E s := by
  obtain ⟨⟨o, v0, v1, v3, v4, k, ho, hc, hdi, hd⟩, -⟩ := P
  exact getMethod_builtin ⟨o, ho, hc⟩ attrs_pat slot_sub type_sub (fun a e => by cases e; exact ⟨o, ho, hdi⟩) h
theorem sub_call {pat tup : Addr} {code : Array Nat} {x repl : Str} {t tr : Tok} {out : List Nat} {Q : Value → Shared → Prop} (P : PatAt s.heap pat tup code) (hx : 4 * x.cps.size + 1 ≤ 1048576) (hr : repl.length ≤ 2) (hb : repl.cps.contains 92 = false)
    (S : SubR code x.cps repl.cps.toList 0 out)
    (h : ∀ z t' h' tk', z.cps.toList = out → (∀ b o, s.heap.get? b = some o → h'.get? b = some o) → Q (.str z t') { s with heap := h', toks := tk' }) :
    wpAny (model prog w) A (call (.builtin "re.Pattern.sub") [.ref pat, .str repl tr, .str x t]) Q E s := by
  have P' := P
  obtain ⟨⟨o, v0, v1, v3, v4, k, ho, hc, hdi, hd⟩, ⟨o', vs, n, ho', hd', hco⟩⟩ := P'
  have e20 : (2 : Nat) ^ 20 = 1048576 := by decide
  refine wpAny_call (codeAny_call_builtin slot_sub.plain entry_sub (slot_sub.check _ _ _ _ _ _ _ _ ⟨o, ho, hc⟩ (args_sub _ _ _) ?_))
  unfold Builtin.«re.Pattern.sub» reSubstitute
  show wpAny _ _ (reNamed "re.Pattern.sub" "sub" ["repl", "string", "count"] 2 [.str repl tr, .str x t] [] >>= _) _ _ _
  rw [named_ok]
  refine wpAny_bind (wpAny_pure ?_)
  refine wpAny_bind (m := pure (0 : Int)) (wpAny_pure ?_)
  refine wpAny_bind (wpAny_specialOf (typeIs_str s repl tr) str_no_call ?_)
  refine wpAny_bind (m := asStr? (.str repl tr)) (wpAny_pure ?_)
  refine wpAny_bind (m := pure (!repl.cps.contains 92)) (wpAny_pure ?_)
  rw [hb]
  refine wpAny_bind (m := pure (Value.str repl tr, (0 : Int))) (wpAny_pure ?_)
  refine wpAny_bind (wpAny_holding (target_ok P ?_))
  refine wpAny_bind (wpAny_newList (items := []) ?_)
  refine wpAny_pure ⟨plainId_quiet plain_loop _, ?_⟩
  have hk : ∀ b o, s.heap.get? b = some o → (s.heap.push { cls := .type "list", data := .seq #[] }).get? b = some o := fun b o e => Heap.get?_push_of_some _ e
  have n1 : pat ≠ s.heap.objs.size := fun q => absurd (Heap.lt_size ho) (q ▸ Nat.lt_irrefl _)
  have n2 : tup ≠ s.heap.objs.size := fun q => absurd (Heap.lt_size ho') (q ▸ Nat.lt_irrefl _)
  refine loop_ok (x := x) (by omega) hr n1 n2 S 0 false [] _ (P.keeps hk) ⟨_, #[], 0, Heap.get?_push_size _ rfl, rfl, rfl, .nil⟩ (by have : weigh [] = 0 := rfl; omega) fun z t' h' tk' hz hk' _ => ?_
  exact h z t' h' tk' hz fun b o e => hk' b o (fun q => absurd (Heap.lt_size e) (q ▸ Nat.lt_irrefl _)) (hk b o e)
end
end
section
open PySem PySem.W PyProof.Rows PySem.Spec PySem.Calls
/-! a list made turn by turn, whose own variable is kept in a cell -/
section
variable {prog : Program} {w : World} {A : Around} {E : Value → Shared → Prop} {s : Shared} {h₀ : Heap} {L : Addr} {m : Str → Option Value} {env : Env} {news : List (Addr × Obj)}
theorem newEnv_cell {M : Model} {scope : Scope} {globals : Addr} {cl : List (Str × Addr)} {qual : Str} {Q : Env → Shared → Prop}
    (h : Q { scope := scope, locals := s.heap.objs.size, globals := globals, cells := cellsFrom (s.heap.objs.size + 1) scope.names cl, qual := qual, func := none, code := env.code, frame := env.frame, builtins := env.builtins }
      { s with heap := pushCells (s.heap.push { cls := .type "dict", data := .dict #[] }) scope.names }) :
    wpAny M A (newFunctionEnv scope globals cl [] qual none .none (some env)) Q E s := by
  simp only [newFunctionEnv, Option.isSome_some, if_true]
  refine wpAny_bind (wpAny_alloc ?_)
  refine wpAny_bind (wpAny_layCells _ (fun name kind cells => by cases hkc : kind == NameKind.cell <;> simp [hkc]) _ _ _ _ ?_)
  rw [show ({ s with heap := s.heap.push { cls := .type "dict", data := .dict #[] } } : Shared).heap.objs.size = s.heap.objs.size + 1 from Heap.size_push ..]
  refine wpAny_bind ?_
  simp only [List.forIn_nil]
  exact wpAny_pure (wpAny_pure h)
noncomputable def Off4 (I C c D : Addr) (l : List (Addr × Obj)) : Prop := ∀ p ∈ l, p.1 ≠ I ∧ p.1 ≠ C ∧ p.1 ≠ c ∧ p.1 ≠ D
noncomputable def CellEnd (h₀ : Heap) (L : Addr) (m : Str → Option Value) (s : Shared) (I : Addr) (oI : Obj) (C : Addr) (oC : Obj) (c : Addr) (oc : Obj) (D : Addr) (oD : Obj) (J : Value → List (Addr × Obj) → Prop) (y : Value) (s₄ : Shared) : Prop :=
  ∃ h' tk' nw', s₄ = { s with heap := h', toks := tk' } ∧ Fr h₀ L h' m ∧ News h₀ L h' ((I, oI) :: (C, oC) :: (c, oc) :: (D, oD) :: nw') ∧ Off4 I C c D nw' ∧ J y nw'
theorem block_C {elt iter : Expr} {x : Str} {px : Pos} {scope : Scope} {cl : List (Str × Addr)} {pos : Pos} {s₂ : Shared} {I : Addr} {fp : List Addr} {n : Nat} {P : Nat → Value → Prop} {St : Nat → Heap → Prop} {J : Nat → List Value → List (Addr × Obj) → Prop} {RR : Value → Addr → Result → Shared → Prop}
    (W : Walks prog w A I fp [I] n P St) (hsz : n ≤ sizeLine) (hIo : ∀ i h, St i h → ∃ o, h.get? I = some o)
    (hSt : ∀ i j ys h h' o nw, St i h → h.get? I = some o → h'.get? I = some o → (∀ b o, h₀.get? b = some o → h'.get? b = some o) → News h₀ L h' nw → J j ys nw → St i h')
    (hcells : ∀ k, cellsFrom k scope.names cl = (x, k) :: cl) (hpush : ∀ h, pushCells h scope.names = h.push { cls := .type "cell", data := .cell none }) (hkind : scope.kind = .function) (hx : (relabel scope env).names.lookup x = some .cell)
    (hst : St 0 s₂.heap) (hfp : ∀ b ∈ fp, b < s₂.heap.objs.size)
    (F : Fr h₀ L s₂.heap m) (N : News h₀ L s₂.heap news) (hIL : L ≠ I) (hI₀ : h₀.get? I = none) (off : ∀ p ∈ news, p.1 ≠ I) (hJ : J 0 [] news)
    (turn : ∀ i v oI C oC c oc D m₂ h tk ys nw (E' : Value → Shared → Prop), i < n → P i v → J i ys nw → LCg.NsObj oC m₂ → oc.data = .cell (some v) → Fr h₀ L h m → News h₀ L h ((I, oI) :: (C, oC) :: (c, oc) :: (D, LCg.lst ys) :: nw) → Off4 I C c D nw →
      (@Ne Nat I C ∧ @Ne Nat I c ∧ @Ne Nat I D ∧ @Ne Nat C c ∧ @Ne Nat C D ∧ @Ne Nat c D) →
      wpAny (model prog w) A (eval elt (compEnvC scope ((x, c) :: cl) C env)) (CellEnd h₀ L m { s₂ with heap := h, toks := tk } I oI C oC c oc D (LCg.lst ys) fun y nw' => J (i + 1) (ys ++ [y]) nw') E' { s₂ with heap := h, toks := tk })
    (hRR : ∀ D C h tk ys nw m', Fr h₀ L h m → News h₀ L h ((D, LCg.lst ys) :: nw) → (∀ p ∈ nw, p.1 ≠ D) → h.Ns C m' → h₀.get? C = none → C ≠ L → (∀ p ∈ nw, p.1 ≠ C) → C ≠ D → (∀ p ∈ news, p.1 < D) → J n ys nw → RR (.ref D) C (.ok .next) { s₂ with heap := h, toks := tk }) :
    wpAny (model prog w) A (newList []) (fun acc s₃ => wpAny (model prog w) A (newFunctionEnv scope env.globals cl [] env.qual none .none (some env)) (fun cenv s₄ =>
      codeAny (model prog w) A (.compStart (.ListComp elt [⟨.Name x px, iter, [], 0⟩] scope pos) 0 (.ref I) acc { cenv with scope := relabel scope env }) (RR acc cenv.locals) s₄) E s₃) E s₂ := by
  refine wpAny_newObj_type (newEnv_cell ?_)
  dsimp only
  rw [hcells, hpush]
  have z1 : (s₂.heap.push { cls := .type "list", dict := none, data := .seq ([] : List Value).toArray }).objs.size = s₂.heap.objs.size + 1 := Heap.size_push ..
  have z2 : ((s₂.heap.push { cls := .type "list", dict := none, data := .seq ([] : List Value).toArray }).push { cls := .type "dict", data := .dict #[] }).objs.size = s₂.heap.objs.size + 2 := by rw [Heap.size_push, z1]
  have gD : ((((s₂.heap.push { cls := .type "list", dict := none, data := .seq ([] : List Value).toArray }).push { cls := .type "dict", data := .dict #[] }).push { cls := .type "cell", data := .cell none })).get? s₂.heap.objs.size = some (LCg.lst []) :=
    Heap.get?_push_of_some _ (Heap.get?_push_of_some _ (Heap.get?_push_size _ rfl))
  have gC : ((((s₂.heap.push { cls := .type "list", dict := none, data := .seq ([] : List Value).toArray }).push { cls := .type "dict", data := .dict #[] }).push { cls := .type "cell", data := .cell none })).Ns (s₂.heap.objs.size + 1) (fun _ => none) := by
    have := Heap.Ns.new (s₂.heap.push { cls := .type "list", dict := none, data := .seq ([] : List Value).toArray }) (.type "dict")
    rw [z1] at this
    exact this.keeps fun b o e => Heap.get?_push_of_some _ e
  have gc : ((((s₂.heap.push { cls := .type "list", dict := none, data := .seq ([] : List Value).toArray }).push { cls := .type "dict", data := .dict #[] }).push { cls := .type "cell", data := .cell none })).get? (s₂.heap.objs.size + 2) = some { cls := .type "cell", data := .cell none } := by
    have := Heap.get?_push_size ((s₂.heap.push { cls := .type "list", dict := none, data := .seq ([] : List Value).toArray }).push { cls := .type "dict", data := .dict #[] }) (o := { cls := .type "cell", data := .cell none }) rfl
    rw [z2] at this
    exact this
  have old : ∀ b o, s₂.heap.get? b = some o → ((((s₂.heap.push { cls := .type "list", dict := none, data := .seq ([] : List Value).toArray }).push { cls := .type "dict", data := .dict #[] }).push { cls := .type "cell", data := .cell none })).get? b = some o :=
    fun b o e => Heap.get?_push_of_some _ (Heap.get?_push_of_some _ (Heap.get?_push_of_some _ e))
  rw [z1, show s₂.heap.objs.size + 1 + 1 = s₂.heap.objs.size + 2 from rfl]
  generalize (((s₂.heap.push { cls := .type "list", dict := none, data := .seq ([] : List Value).toArray }).push { cls := .type "dict", data := .dict #[] }).push { cls := .type "cell", data := .cell none }) = h₁ at gD gC gc old ⊢
  clear z1 z2
  have fresh : ∀ a, s₂.heap.objs.size ≤ a → h₀.get? a = none := fun a ha => by
    cases e : h₀.get? a with
    | none => rfl
    | some o => exact absurd (Heap.lt_size (F.keep a o e)) (Nat.not_lt.mpr ha)
  have far : ∀ b, b < s₂.heap.objs.size → b ≠ s₂.heap.objs.size ∧ b ≠ s₂.heap.objs.size + 1 ∧ b ≠ s₂.heap.objs.size + 2 := fun b hb => ⟨Nat.ne_of_lt hb, Nat.ne_of_lt (Nat.lt_succ_of_lt hb), Nat.ne_of_lt (Nat.lt_succ_of_lt (Nat.lt_succ_of_lt hb))⟩
  have hIlt : I < s₂.heap.objs.size := hfp I (W.sub I (List.mem_singleton.mpr rfl))
  have hLlt : L < s₂.heap.objs.size := F.ns.lt
  have hst₁ : St 0 h₁ := W.frame _ _ _ hst fun b _ o e => old b o e
  have F₁ : Fr h₀ L h₁ m := F.keeps old
  have N₁ : News h₀ L h₁ news := N.grown old
  have off₁ : Off4 I (s₂.heap.objs.size + 1) (s₂.heap.objs.size + 2) s₂.heap.objs.size news := fun p hp => have f := far _ (Heap.lt_size (N p hp).1); ⟨off p hp, f.2.1, f.2.2, f.1⟩
  have hD0 := fresh _ (Nat.le_refl _)
  have hC0 := fresh (s₂.heap.objs.size + 1) (Nat.le_succ _)
  have hc0 := fresh (s₂.heap.objs.size + 2) (Nat.le_trans (Nat.le_succ _) (Nat.le_succ _))
  have fI := far _ hIlt
  have fL := far _ hLlt
  have hDC : s₂.heap.objs.size ≠ s₂.heap.objs.size + 1 := Nat.ne_of_lt (Nat.lt_succ_self _)
  have hDc : s₂.heap.objs.size ≠ s₂.heap.objs.size + 2 := Nat.ne_of_lt (Nat.lt_succ_of_lt (Nat.lt_succ_self _))
  have hCc : s₂.heap.objs.size + 1 ≠ s₂.heap.objs.size + 2 := Nat.ne_of_lt (Nat.lt_succ_self _)
  have hfpD : s₂.heap.objs.size ∉ fp := fun q => Nat.lt_irrefl _ (hfp _ q)
  have hfpC : s₂.heap.objs.size + 1 ∉ fp := fun q => Nat.lt_irrefl _ (Nat.lt_of_succ_lt (hfp _ q))
  have hfpc : s₂.heap.objs.size + 2 ∉ fp := fun q => Nat.lt_irrefl _ (Nat.lt_of_succ_lt (Nat.lt_of_succ_lt (hfp _ q)))
  have lD : ∀ p ∈ news, p.1 < s₂.heap.objs.size := fun p hp => Heap.lt_size (N p hp).1
  generalize hgD : s₂.heap.objs.size = D at *
  generalize hgC : D + 1 = C at *
  generalize hgc : D + 2 = c at *
  have nsL : ∀ {h h' : Heap} {a : Addr}, Heap.SameBut a h h' → L ≠ a → h₀.get? a = none → Fr h₀ L h m → Fr h₀ L h' m := fun hs hL h0 F => F.change hs (Ne.symm hL) h0
  have loop : ∀ s₃ : Shared, s₃ = { s₂ with heap := h₁ } → codeAny (model prog w) A (.compLoop (.ListComp elt [⟨.Name x px, iter, [], 0⟩] scope pos) 0 (.ref I) (.ref D) (compEnvC scope ((x, c) :: cl) C env)) (RR (.ref D) C) s₃ := by
    rintro s₃ rfl
    refine codeAny_compLoop_tests
      (fun k s' => ∃ h' tk i ys nw v₀, s' = { s₂ with heap := h', toks := tk } ∧ i ≤ n ∧ k = n + 1 - i ∧ ys.length = i ∧ St i h' ∧ Fr h₀ L h' m ∧ h'.Ns C (fun _ => none) ∧ h'.IsCell c v₀ ∧ News h₀ L h' ((D, LCg.lst ys) :: nw) ∧ Off4 I C c D nw ∧ J i ys nw) ?_ (n + 1)
      ⟨h₁, s₂.toks, 0, [], news, none, rfl, Nat.zero_le _, rfl, rfl, hst₁, F₁, gC, ⟨_, gc, rfl⟩, fun p hp => ?_, off₁, hJ⟩
    · rintro k s' ⟨h', tk, i, ys, nw, v₀, rfl, hi, rfl, hyl, hst', F', hn', hcl', N', off', hJ'⟩
      by_cases hlt : i < n
      · refine W.item i _ _ _ hlt hst' fun v h₂ tk₂ hPv hst₂ hk₂ => ?_
        have hk₃ : ∀ b o, b ≠ I → h'.get? b = some o → h₂.get? b = some o := fun b o hb e => hk₂ b o (by simpa using hb) e
        have hcl₂ : h₂.IsCell c v₀ := by obtain ⟨o, e, d⟩ := hcl'; exact ⟨o, hk₃ _ _ (Ne.symm fI.2.2) e, d⟩
        refine wpAny_assign_Name (wpAny_storeName_cell (by simp [compEnvC, relabel, hkind]) hx (by show List.lookup x ((x, c) :: cl) = some c; simp) hcl₂ fun h₃ hc₃ hs₃ => ?_)
        refine wpAny_tests_nil ?_
        simp only [if_true]
        have hst₃ : St (i + 1) h₃ := W.frame _ _ _ hst₂ fun b hb o e => hs₃.extBut b o (fun q => hfpc (by have q' : b = c := q; rw [← q']; exact hb)) e
        obtain ⟨oI, heI⟩ := hIo _ _ hst₃
        obtain ⟨oc, hec, hoc⟩ := id hc₃
        have hn₃ : h₃.Ns C (fun _ => none) := (hn'.at' fun o e => hs₃.extBut _ _ hCc (hk₃ _ _ (Ne.symm fI.2.1) e))
        obtain ⟨oC, heC, hoC⟩ := LCg.ns_obj hn₃
        have F₃ : Fr h₀ L h₃ m := nsL hs₃ fL.2.2 hc0 (LCg.fr_but F' hk₂ hIL hI₀)
        have N₃ : News h₀ L h₃ ((I, oI) :: (C, oC) :: (c, oc) :: (D, LCg.lst ys) :: nw) := fun p hp => by
          rcases List.mem_cons.mp hp with rfl | hp
          · exact ⟨heI, Ne.symm hIL, hI₀⟩
          rcases List.mem_cons.mp hp with rfl | hp
          · exact ⟨heC, Ne.symm fL.2.1, hC0⟩
          rcases List.mem_cons.mp hp with rfl | hp
          · exact ⟨hec, Ne.symm fL.2.2, hc0⟩
          have z := N' p hp
          rcases List.mem_cons.mp hp with rfl | hp
          · exact ⟨hs₃.extBut _ _ hDc (hk₃ _ _ (Ne.symm fI.1) z.1), z.2⟩
          · have q := off' p hp
            exact ⟨hs₃.extBut _ _ q.2.2.1 (hk₃ _ _ q.1 z.1), z.2⟩
        refine wpAny_mono (turn i v oI C oC c oc D _ h₃ _ ys nw _ hlt hPv hJ' hoC hoc F₃ N₃ off' ⟨fI.2.1, fI.2.2, fI.1, hCc, Ne.symm hDC, Ne.symm hDc⟩) (fun y s₄ h₄ => ?_) fun _ _ e => e
        obtain ⟨h₄, tk₄, nw₄, rfl, F₄, N₄, off₄, hJ₄⟩ := h₄
        have zI := (N₄ _ (.head _)).1
        have zC := (N₄ _ (.tail _ (.head _))).1
        have zc := (N₄ _ (.tail _ (.tail _ (.head _)))).1
        have zD := (N₄ _ (.tail _ (.tail _ (.tail _ (.head _))))).1
        have N₅ : News h₀ L h₄ nw₄ := fun p hp => N₄ p (.tail _ (.tail _ (.tail _ (.tail _ hp))))
        have hst₄ : St (i + 1) h₄ := hSt _ _ _ _ _ _ _ hst₃ heI zI F₄.keep N₅ hJ₄
        refine append_at (hsz := by show ys.toArray.size ≤ sizeLine; rw [List.size_toArray, hyl]; exact Nat.le_trans hi hsz) zD fun h₅ hs₅ hD₅ => ?_
        refine ⟨n + 1 - (i + 1), by omega, h₅, tk₄, i + 1, ys ++ [y], nw₄, some v, rfl, hlt, rfl, by rw [List.length_append, List.length_singleton, hyl], W.frame _ _ _ hst₄ fun b hb o e => hs₅.extBut b o (fun q => hfpD (q ▸ hb)) e, nsL hs₅ fL.1 hD0 F₄,
          (hoC.ns zC).sameBut hs₅ (Ne.symm hDC), ⟨oc, hs₅.extBut _ _ (Ne.symm hDc) zc, hoc⟩, fun p hp => ?_, off₄, hJ₄⟩
        rcases List.mem_cons.mp hp with rfl | hp
        · exact ⟨hD₅.trans (congrArg some (LCg.lst_snoc ys y)), Ne.symm fL.1, hD0⟩
        · exact ⟨hs₅.extBut _ _ (off₄ p hp).2.2.2 (N₅ p hp).1, (N₅ p hp).2⟩
      · obtain rfl : i = n := Nat.le_antisymm hi (Nat.not_lt.mp hlt)
        refine W.done _ _ _ hst' fun h₂ tk₂ hk₂ => ?_
        refine hRR D C h₂ tk₂ ys nw _ (LCg.fr_but F' hk₂ hIL hI₀) (LCg.news_but N' hk₂ fun p hp => ?_) (fun p hp => (off' p hp).2.2.2) (hn'.at' fun o e => hk₂ _ o (by simpa using Ne.symm fI.2.1) e) hC0 (Ne.symm fL.2.1) (fun p hp => (off' p hp).2.1) (Ne.symm hDC) lD hJ'
        rcases List.mem_cons.mp hp with rfl | hp
        · exact Ne.symm fI.1
        · exact (off' p hp).1
    · rcases List.mem_cons.mp hp with rfl | hp
      · exact ⟨gD, Ne.symm fL.1, hD0⟩
      · exact N₁ p hp
  exact codeAny_compStart_list (loop _ rfl) (W.self 0 _ _ _ hst₁ (loop _ rfl))
end
end
section
open PySem PySem.W PyProof.Rows PySem.Spec PySem.Calls
section
variable {prog : Program} {w : World} {A : Around} {E : Value → Shared → Prop} {s : Shared} {h₀ : Heap} {L : Addr} {m : Str → Option Value} {env : Env} {news : List (Addr × Obj)}
abbrev Jt := Nat → List Value → List (Addr × Obj) → Prop
noncomputable def TurnC (prog : Program) (w : World) (A : Around) (h₀ : Heap) (L : Addr) (m : Str → Option Value) (env : Env) (elt : Expr) (x : Str) (scope : Scope) (cl : List (Str × Addr)) (s₁ : Shared) (n : Nat) (P : Nat → Value → Prop) (J : Jt) : Prop :=
  ∀ i v I oI C oC c oc D m₂ h tk ys nw (E' : Value → Shared → Prop), i < n → P i v → J i ys nw → LCg.NsObj oC m₂ → oc.data = .cell (some v) → Fr h₀ L h m → News h₀ L h ((I, oI) :: (C, oC) :: (c, oc) :: (D, LCg.lst ys) :: nw) → Off4 I C c D nw →
      (@Ne Nat I C ∧ @Ne Nat I c ∧ @Ne Nat I D ∧ @Ne Nat C c ∧ @Ne Nat C D ∧ @Ne Nat c D) →
      wpAny (model prog w) A (eval elt (compEnvC scope ((x, c) :: cl) C env)) (CellEnd h₀ L m { s₁ with heap := h, toks := tk } I oI C oC c oc D (LCg.lst ys) fun y nw' => J (i + 1) (ys ++ [y]) nw') E' { s₁ with heap := h, toks := tk }
noncomputable def FinC (h₀ : Heap) (L : Addr) (mo : Addr → Str → Option Value) (s₁ : Shared) (news : List (Addr × Obj)) (n : Nat) (J : Jt) (Q : Addr → Shared → Prop) : Prop :=
  ∀ D h tk ys nw, Fr h₀ L h (mo D) → News h₀ L h ((D, LCg.lst ys) :: nw) → (∀ p ∈ nw, p.1 ≠ D) → (∀ p ∈ news, p.1 < D) → J n ys nw → Q D { s₁ with heap := h, toks := tk }
noncomputable def CompC (prog : Program) (w : World) (A : Around) (h₀ : Heap) (L : Addr) (m : Str → Option Value) (env : Env) (elt : Expr) (x : Str) (scope : Scope) (cl : List (Str × Addr)) (mo : Addr → Str → Option Value) (Q : Addr → Shared → Prop) (xv : Value) (s₁ : Shared) : Prop :=
  ∃ (n : Nat) (P : Nat → Value → Prop) (J : Jt) (news : List (Addr × Obj)), A.handled = none ∧ Fr h₀ L s₁.heap m ∧ News h₀ L s₁.heap news ∧ n ≤ sizeLine ∧ J 0 [] news ∧
    ((∃ ax its, xv = .ref ax ∧ its.size = n ∧ P = (fun i v => its[i]? = some v) ∧ ∀ i ys nw, J i ys nw → LCg.SrcAt h₀ ax its nw) ∨
     (∃ r a b t u v, xv = .ref r ∧ IsRange s₁.heap r a b 1 t u v ∧ Builtin.Range.small a b 1 = true ∧ Builtin.Range.rangeSize a b 1 = ((n : Nat) : Int) ∧ P = fun i v => ∃ t, v = .int (a + (i : Int)) t)) ∧
    TurnC prog w A h₀ L m env elt x scope cl s₁ n P J ∧ FinC h₀ L mo s₁ news n J Q
theorem compC_list {elt : Expr} {x : Str} {scope : Scope} {cl : List (Str × Addr)} {mo : Addr → Str → Option Value} {Q : Addr → Shared → Prop} {ax : Addr} {its : Array Value} {k : Nat} (J : Jt) (hh : A.handled = none) (F : Fr h₀ L s.heap m) (N : News h₀ L s.heap news) (hsz : its.size ≤ sizeLine) (h0 : J 0 [] news)
    (hs : ∀ i ys nw, J i ys nw → (ax, ({ cls := .type "list", data := .seq its k } : Obj)) ∈ nw)
    (turn : TurnC prog w A h₀ L m env elt x scope cl s its.size (fun i v => its[i]? = some v) J) (fin : FinC h₀ L mo s news its.size J Q) : CompC prog w A h₀ L m env elt x scope cl mo Q (.ref ax) s :=
  ⟨its.size, _, J, news, hh, F, N, hsz, h0, .inl ⟨ax, its, rfl, rfl, rfl, fun i ys nw h => .inr ⟨_, hs i ys nw h, rfl, _, rfl⟩⟩, turn, fin⟩
theorem compC_range {elt : Expr} {x : Str} {scope : Scope} {cl : List (Str × Addr)} {mo : Addr → Str → Option Value} {Q : Addr → Shared → Prop} {r : Addr} {a b : Int} {t u v : Tok} {n : Nat} (J : Jt) (hh : A.handled = none) (F : Fr h₀ L s.heap m) (N : News h₀ L s.heap news) (hr : IsRange s.heap r a b 1 t u v) (hsm : Builtin.Range.small a b 1 = true) (hn : Builtin.Range.rangeSize a b 1 = ((n : Nat) : Int)) (hsz : n ≤ sizeLine) (h0 : J 0 [] news)
    (turn : TurnC prog w A h₀ L m env elt x scope cl s n (fun i v => ∃ t, v = .int (a + (i : Int)) t) J) (fin : FinC h₀ L mo s news n J Q) : CompC prog w A h₀ L m env elt x scope cl mo Q (.ref r) s :=
  ⟨n, _, J, news, hh, F, N, hsz, h0, .inr ⟨r, a, b, t, u, v, rfl, hr, hsm, hn, rfl⟩, turn, fin⟩
/-- what is left behind the last turn -/
noncomputable def EndC (h₀ : Heap) (L : Addr) (m : Str → Option Value) (s₁ : Shared) (RR : Value → Addr → Result → Shared → Prop) (news : List (Addr × Obj)) (n : Nat) (J : Jt) : Prop :=
  ∀ D C h tk ys nw m', Fr h₀ L h m → News h₀ L h ((D, LCg.lst ys) :: nw) → (∀ p ∈ nw, p.1 ≠ D) → h.Ns C m' → h₀.get? C = none → C ≠ L → (∀ p ∈ nw, p.1 ≠ C) → C ≠ D → (∀ p ∈ news, p.1 < D) → J n ys nw → RR (.ref D) C (.ok .next) { s₁ with heap := h, toks := tk }
theorem comp_core {elt iter : Expr} {x : Str} {px : Pos} {scope : Scope} {cl : List (Str × Addr)} {pos : Pos} {mo : Addr → Str → Option Value} {Q : Addr → Shared → Prop} {RR : Value → Addr → Result → Shared → Prop} {xv : Value} {s₁ : Shared}
    (hcells : ∀ k, cellsFrom k scope.names cl = (x, k) :: cl) (hpush : ∀ h, pushCells h scope.names = h.push { cls := .type "cell", data := .cell none }) (hkind : scope.kind = .function) (hx : (relabel scope env).names.lookup x = some .cell)
    (h₁ : CompC prog w A h₀ L m env elt x scope cl mo Q xv s₁) (hE : ∀ news n J, FinC h₀ L mo s₁ news n J Q → EndC h₀ L m s₁ RR news n J) :
    wpAny (model prog w) A (pyIter xv) (fun it s₂ => wpAny (model prog w) A (newList []) (fun acc s₃ => wpAny (model prog w) A (newFunctionEnv scope env.globals cl [] env.qual none .none (some env)) (fun cenv s₄ =>
      codeAny (model prog w) A (.compStart (.ListComp elt [⟨.Name x px, iter, [], 0⟩] scope pos) 0 it acc { cenv with scope := relabel scope env }) (RR acc cenv.locals) s₄) E s₃) E s₂) E s₁ := by
  obtain ⟨n, P, J, news, hh, F, N, hsz, h0, src, turn, fin⟩ := h₁
  have finish := hE news n J fin
  rcases src with ⟨ax, its, rfl, rfl, rfl, S⟩ | ⟨r, a, b, t, u, v, rfl, hr, hsm, hn, rfl⟩
  · have hl := (S _ _ _ h0).list F.keep N
    have hlt : ax < s₁.heap.objs.size := by obtain ⟨_, e, _⟩ := hl; exact Heap.lt_size e
    refine wpAny_pyIter_list hl ?_
    have up : ∀ b o, s₁.heap.get? b = some o → (s₁.heap.push { cls := .type "list_iterator", data := .fields #[.ref ax, .int 0 0] }).get? b = some o := fun b o e => Heap.get?_push_of_some _ e
    refine block_C (J := J) (Walks.list hh s₁.heap.objs.size ax (Nat.ne_of_lt hlt) its) hsz (fun i h st => by obtain ⟨o, e, _⟩ := st.1; exact ⟨o, e⟩) (fun i j ys h h' o nw st e e' k N' hJ => LCg.list_st i h h' o nw st e e' k N' (S _ _ _ hJ)) hcells hpush hkind hx ⟨⟨_, Heap.get?_push_size _ rfl, rfl, rfl⟩, hl.push _⟩ (fun b hb => ?_)
      (F.keeps up) (N.grown up) (Nat.ne_of_lt F.ns.lt) (next_is_new F) (fun p hp => Nat.ne_of_lt (Heap.lt_size (N p hp).1)) h0 (fun i v oI C oC c oc D m₂ h tk ys nw E' => turn i v _ oI C oC c oc D m₂ h tk ys nw E') finish
    show b < (s₁.heap.push _).objs.size
    rw [Heap.size_push]
    rcases List.mem_cons.mp hb with rfl | hb
    · exact Nat.lt_succ_self _
    · rw [List.mem_singleton.mp hb]; exact Nat.lt_succ_of_lt hlt
  · refine wpAny_pyIter_range hr hsm ?_
    refine block_C (J := J) (LCg.range_walks hh a n) hsz (fun i h st => ⟨_, st⟩) (fun i j ys h h' o nw st e e' k N' _ => LCg.range_st i h h' o nw st e e' k N' trivial) hcells hpush hkind hx (by show IsRangeIter _ _ _ _ _; rw [hn]; simpa using Heap.get?_push_size _ rfl) (fun b hb => ?_)
      (F.keeps fun _ _ e => Heap.get?_push_of_some _ e) (N.grown fun _ _ e => Heap.get?_push_of_some _ e) (Nat.ne_of_lt F.ns.lt) (next_is_new F) (fun p hp => Nat.ne_of_lt (Heap.lt_size (N p hp).1)) h0 (fun i v oI C oC c oc D m₂ h tk ys nw E' => turn i v _ oI C oC c oc D m₂ h tk ys nw E') finish
    rw [List.mem_singleton.mp hb]
    show s₁.heap.objs.size < (s₁.heap.push _).objs.size
    rw [Heap.size_push]; exact Nat.lt_succ_self _
theorem ListComp_C {elt iter : Expr} {x : Str} {px : Pos} {scope : Scope} {cl : List (Str × Addr)} {pos : Pos} {Q : Value → Shared → Prop} (F₀ : Fr h₀ L s.heap m)
    (hclos : closureFor scope env = pure cl) (hcells : ∀ k, cellsFrom k scope.names cl = (x, k) :: cl) (hpush : ∀ h, pushCells h scope.names = h.push { cls := .type "cell", data := .cell none }) (hkind : scope.kind = .function)
    (hnames : ∀ y ∈ scope.names, y.2 = .local → scope.names.lookup y.1 = some .local) (hx : (relabel scope env).names.lookup x = some .cell)
    (h : wpAny (model prog w) A (eval iter env) (CompC prog w A h₀ L m env elt x scope cl (fun _ => m) (fun D => Q (.ref D))) E s)
    (hs : ∀ x, foldedSetIterable iter env x = pure x := by intro _; rfl) :
    wpAny (model prog w) A (eval (.ListComp elt [⟨.Name x px, iter, [], 0⟩] scope pos) env) Q E s := by
  rw [eval_ListComp]
  refine wpAny_comprehension_free (use := none) rfl hs hclos hkind hnames (wpAny_mono h (fun xv s₁ h₁ => comp_core hcells hpush hkind hx h₁ ?_) fun _ _ e => e)
  intro news n J fin D C h tk ys nw m' F' N' o1 hn hC₀ hCL offC hCD hlt hJ
  refine ⟨m', hn, fun h'' hs'' => fin D h'' tk ys nw (F'.change hs'' hCL hC₀) (fun p hp => ?_) o1 hlt hJ⟩
  refine ⟨hs''.extBut _ _ ?_ (N' p hp).1, (N' p hp).2⟩
  rcases List.mem_cons.mp hp with rfl | hp
  · exact Ne.symm hCD
  · exact offC p hp
theorem Assign_ListComp_C {elt iter : Expr} {x y : Str} {px py : Pos} {scope : Scope} {cl : List (Str × Addr)} {pos spos : Pos} {Q : Flow → Shared → Prop} (F₀ : Fr h₀ L s.heap m) (hLe : env.locals = L)
    (hsw : swapsWith (.ListComp elt [⟨.Name x px, iter, [], 0⟩] scope pos) (some (.Name y py)) spos.line env = pure true)
    (hclos : closureFor scope env = pure cl) (hcells : ∀ k, cellsFrom k scope.names cl = (x, k) :: cl) (hpush : ∀ h, pushCells h scope.names = h.push { cls := .type "cell", data := .cell none }) (hkind : scope.kind = .function)
    (hnames : ∀ y ∈ scope.names, y.2 = .local → scope.names.lookup y.1 = some .local) (hx : (relabel scope env).names.lookup x = some .cell)
    (hy : env.kindOf y = some .local) (hp : (env.scope.kind == .class || (env.scope.kind == .module && env.locals != env.globals)) = false)
    (h : wpAny (model prog w) A (eval iter env) (CompC prog w A h₀ L m env elt x scope cl (fun D z => if z = y then some (.ref D) else m z) (fun _ => Q .next)) E s)
    (hs : ∀ x, foldedSetIterable iter env x = pure x := by intro _; rfl) :
    wpAny (model prog w) A (exec (.Assign [.Name y py] (.ListComp elt [⟨.Name x px, iter, [], 0⟩] scope pos) spos) env) Q E s := by
  subst hLe
  rw [exec_Assign_Name_used _ _ _ _ hsw]
  refine wpAny_bind (wpAny_standAt (wpAny_bind ?_))
  show wpAny _ A (do let _ ← comprehension (.ListComp elt [⟨.Name x px, iter, [], 0⟩] scope pos) scope env _ (newList []) false (eval iter env) (some (assign (.Name y py) env))) _ _ s
  refine wpAny_bind (wpAny_mono (wpAny_comprehension_free (use := some (assign (.Name y py) env)) (Q := fun _ s' => Q .next s') rfl hs hclos hkind hnames
    (wpAny_mono h (fun xv s₁ h₁ => comp_core hcells hpush hkind hx h₁ ?_) fun _ _ e => e)) (fun _ s' hq => wpAny_pure (wpAny_pure hq)) fun _ _ e => e)
  intro news n J fin D C h tk ys nw m' F' N' o1 hn hC₀ hCL offC hCD hlt hJ
  show wpAny _ A (assign (.Name y py) env (.ref D)) _ _ _
  refine wpAny_assign_Name (wpAny_storeName_local hy F'.ns (fun h₂ hn₂ hs₂ => ?_) hp)
  have hL₀ : h₀.get? env.locals = none := Heap.get?_none_of_le F'.above
  have F₂ : Fr h₀ env.locals h₂ (fun z => if z = y then some (.ref D) else m z) := ⟨hn₂, fun b o e => hs₂.extBut b o (fun q => by rw [q, hL₀] at e; cases e) (F'.keep b o e), F'.above⟩
  refine ⟨m', hn.sameBut hs₂ hCL, fun h'' hs'' => fin D h'' _ ys nw (F₂.change hs'' hCL hC₀) (fun p hp => ?_) o1 hlt hJ⟩
  have z : h₂.get? p.1 = some p.2 := hs₂.extBut _ _ (N' p hp).2.1 (N' p hp).1
  refine ⟨hs''.extBut _ _ ?_ z, (N' p hp).2⟩
  rcases List.mem_cons.mp hp with rfl | hp
  · exact Ne.symm hCD
  · exact offC p hp
/-- the same for a name that is no cell: what the turns make -/
theorem rest_J {elt : Expr} {x : Str} {scope : Scope} {cl : List (Str × Addr)} {S : List (Addr × Obj) → Prop} {P : Nat → Value → Prop} {Fin : List Value → List (Addr × Obj) → Prop} {n : Nat} (J : Jt) (hS : ∀ i ys nw, J i ys nw → S nw)
    (turn : ∀ i v I oI C oC D m₂ h tk ys nw (E' : Value → Shared → Prop), i < n → P i v → J i ys nw → LCg.NsObj oC m₂ → m₂ x = some v → Fr h₀ L h m → News h₀ L h ((I, oI) :: (C, oC) :: (D, LCg.lst ys) :: nw) → LCg.Off3 I C D nw → ((@Ne Nat I C) ∧ (@Ne Nat I D) ∧ (@Ne Nat C D)) →
      wpAny (model prog w) A (eval elt (compEnvC scope cl C env)) (LCg.CompEnd h₀ L m { s with heap := h, toks := tk } I oI C oC D (LCg.lst ys) S (fun y nw' => J (i + 1) (ys ++ [y]) nw')) E' { s with heap := h, toks := tk })
    (fin : ∀ ys nw, J n ys nw → Fin ys nw) (h0 : J 0 [] news) : LCg.CompRest prog w A h₀ L m env elt x scope cl s S P Fin n 0 [] news := by
  have key : ∀ (j i : Nat) (ys : List Value) (nw : List (Addr × Obj)), i + j = n → J i ys nw → LCg.CompRest prog w A h₀ L m env elt x scope cl s S P Fin j i ys nw := by
    intro j
    induction j with
    | zero =>
      intro i ys nw hi hJ
      obtain rfl : i = n := hi
      exact LCg.CompRest.zero (fin ys nw hJ)
    | succ j ih =>
      intro i ys nw hi hJ
      refine LCg.CompRest.succ ?_
      intro v I oI C oC D m₂ h tk E' hv hC hx F N off ne
      refine wpAny_mono (turn i v I oI C oC D m₂ h tk ys nw E' (by omega) hv hJ hC hx F N off ne) (fun y s₂ hq => ?_) fun _ _ e => e
      obtain ⟨h', tk', nw', e, F', N', off', hS', hJ'⟩ := hq
      exact ⟨h', tk', nw', e, F', N', off', hS', ih (i + 1) _ _ (by omega) hJ'⟩
  exact key n 0 [] news (by omega) h0
end
end
section
open PySem PySem.W PyProof.Rows PySem.Spec PySem.Calls
section
variable {prog : Program} {w : World} {A : Around} {E : Value → Shared → Prop} {s : Shared} {h₀ : Heap} {L : Addr} {m : Str → Option Value} {env : Env} {news : List (Addr × Obj)}
theorem ints_of {ys : List Value} {n : Nat} {G : Nat → Int} (hl : ys.length = n) (h : ∀ (j : Nat) (y : Value), ys[j]? = some y → ∃ t, y = Value.int (G j) t) : IntsAre ys ((List.range n).map G) := by
  induction ys generalizing n G with
  | nil =>
    subst hl
    exact .nil
  | cons y ys ih =>
    obtain ⟨t, rfl⟩ := h 0 y rfl
    subst hl
    rw [List.length_cons, List.range_succ_eq_map, List.map_cons, List.map_map]
    exact .cons _ _ (ih (G := fun j => G (j + 1)) rfl fun j y hj => h (j + 1) y hj)
theorem ints_of_list {α : Type} {ys : List Value} {l : List α} {f : α → Int} (hl : ys.length = l.length) (h : ∀ (j : Nat) (y : Value), ys[j]? = some y → ∃ t k, l[j]? = some k ∧ y = Value.int (f k) t) : IntsAre ys (l.map f) := by
  induction ys generalizing l with
  | nil =>
    cases l with
    | nil => exact .nil
    | cons a l => cases hl
  | cons y ys ih =>
    cases l with
    | nil => cases hl
    | cons a l =>
      obtain ⟨t, k, hk, rfl⟩ := h 0 y rfl
      obtain rfl : a = k := Option.some.inj hk
      exact .cons _ _ (ih (Nat.succ.inj hl) fun j y hj => h (j + 1) y hj)
noncomputable def FixJ (news : List (Addr × Obj)) (R : Nat → Value → Prop) : Jt := fun i ys nw => nw = news ∧ ys.length = i ∧ ∀ j y, ys[j]? = some y → R j y
theorem fixJ_snoc {R : Nat → Value → Prop} {i : Nat} {ys : List Value} {y : Value} {nw : List (Addr × Obj)} (h : FixJ news R i ys nw) (hy : R i y) : FixJ news R (i + 1) (ys ++ [y]) nw := by
  obtain ⟨h1, h2, h3⟩ := h
  refine ⟨h1, by rw [List.length_append, h2]; rfl, fun j z hj => ?_⟩
  by_cases hlt : j < ys.length
  · rw [List.getElem?_append_left hlt] at hj
    exact h3 j z hj
  · rw [List.getElem?_append_right (Nat.not_lt.mp hlt)] at hj
    have h0 : j - ys.length = 0 := by
      cases q : j - ys.length with
      | zero => rfl
      | succ k => rw [q] at hj; cases hj
    rw [h0] at hj
    obtain rfl : j = i := by omega
    exact (Option.some.inj hj) ▸ hy
noncomputable def PostE (h₀ : Heap) (L : Addr) (m : Str → Option Value) (s₁ : Shared) (led : List (Addr × Obj)) (R : Value → Prop) (y : Value) (s₄ : Shared) : Prop := ∃ h' tk', s₄ = { s₁ with heap := h', toks := tk' } ∧ Fr h₀ L h' m ∧ News h₀ L h' led ∧ R y
theorem postE {s₁ : Shared} {led : List (Addr × Obj)} {R : Value → Prop} {y : Value} {h' : Heap} {tk' : Nat} (F : Fr h₀ L h' m) (N : News h₀ L h' led) (h : R y) : PostE h₀ L m s₁ led R y { s₁ with heap := h', toks := tk' } := ⟨h', tk', rfl, F, N, h⟩
/-- an element that leaves the ledger as it found it -/
noncomputable def EltC (prog : Program) (w : World) (A : Around) (h₀ : Heap) (L : Addr) (m : Str → Option Value) (env : Env) (elt : Expr) (x : Str) (scope : Scope) (cl : List (Str × Addr)) (s₁ : Shared) (news : List (Addr × Obj)) (n : Nat) (P : Nat → Value → Prop) (R : Nat → Value → Prop) : Prop :=
  ∀ i v I oI C oC c oc D m₂ h tk ys (E' : Value → Shared → Prop), i < n → P i v → LCg.NsObj oC m₂ → oc.data = .cell (some v) → Fr h₀ L h m → News h₀ L h ((I, oI) :: (C, oC) :: (c, oc) :: (D, LCg.lst ys) :: news) → Off4 I C c D news →
      (@Ne Nat I C ∧ @Ne Nat I c ∧ @Ne Nat I D ∧ @Ne Nat C c ∧ @Ne Nat C D ∧ @Ne Nat c D) →
      wpAny (model prog w) A (eval elt (compEnvC scope ((x, c) :: cl) C env)) (PostE h₀ L m s₁ ((I, oI) :: (C, oC) :: (c, oc) :: (D, LCg.lst ys) :: news) (R i)) E' { s₁ with heap := h, toks := tk }
theorem fix_turn {elt : Expr} {x : Str} {scope : Scope} {cl : List (Str × Addr)} {n : Nat} {P R : Nat → Value → Prop} (H : EltC prog w A h₀ L m env elt x scope cl s news n P R) : TurnC prog w A h₀ L m env elt x scope cl s n P (FixJ news R) := by
  intro i v I oI C oC c oc D m₂ h tk ys nw E' hi hv hJ hC hc F N off ne
  obtain rfl := hJ.1
  refine wpAny_mono (H i v I oI C oC c oc D m₂ h tk ys E' hi hv hC hc F N off ne) (fun y s₄ hq => ?_) fun _ _ e => e
  obtain ⟨h', tk', e, F', N', hy⟩ := hq
  exact ⟨h', tk', _, e, F', N', off, fixJ_snoc hJ hy⟩
theorem fixC_list {elt : Expr} {x : Str} {scope : Scope} {cl : List (Str × Addr)} {mo : Addr → Str → Option Value} {Q : Addr → Shared → Prop} {ax : Addr} {its : Array Value} {k : Nat} (R : Nat → Value → Prop) (hh : A.handled = none) (F : Fr h₀ L s.heap m) (N : News h₀ L s.heap news) (hsz : its.size ≤ sizeLine)
    (hs : (ax, ({ cls := .type "list", data := .seq its k } : Obj)) ∈ news) (H : EltC prog w A h₀ L m env elt x scope cl s news its.size (fun i v => its[i]? = some v) R)
    (fin : ∀ D h tk ys, Fr h₀ L h (mo D) → News h₀ L h ((D, LCg.lst ys) :: news) → (∀ p ∈ news, p.1 < D) → ys.length = its.size → (∀ j y, ys[j]? = some y → R j y) → Q D { s with heap := h, toks := tk }) : CompC prog w A h₀ L m env elt x scope cl mo Q (.ref ax) s :=
  compC_list (FixJ news R) hh F N hsz ⟨rfl, rfl, fun j y h => by cases h⟩ (fun i ys nw h => h.1 ▸ hs) (fix_turn H) fun D h tk ys nw F N o1 lt hJ => fin D h tk ys F (hJ.1 ▸ N) lt hJ.2.1 hJ.2.2
theorem fixC_range {elt : Expr} {x : Str} {scope : Scope} {cl : List (Str × Addr)} {mo : Addr → Str → Option Value} {Q : Addr → Shared → Prop} {r : Addr} {a b : Int} {t u v : Tok} {n : Nat} (R : Nat → Value → Prop) (hh : A.handled = none) (F : Fr h₀ L s.heap m) (N : News h₀ L s.heap news) (hr : IsRange s.heap r a b 1 t u v) (hsm : Builtin.Range.small a b 1 = true) (hn : Builtin.Range.rangeSize a b 1 = ((n : Nat) : Int)) (hsz : n ≤ sizeLine)
    (H : EltC prog w A h₀ L m env elt x scope cl s news n (fun i v => ∃ t, v = .int (a + (i : Int)) t) R)
    (fin : ∀ D h tk ys, Fr h₀ L h (mo D) → News h₀ L h ((D, LCg.lst ys) :: news) → (∀ p ∈ news, p.1 < D) → ys.length = n → (∀ j y, ys[j]? = some y → R j y) → Q D { s with heap := h, toks := tk }) : CompC prog w A h₀ L m env elt x scope cl mo Q (.ref r) s :=
  compC_range (FixJ news R) hh F N hr hsm hn hsz ⟨rfl, rfl, fun j y h => by cases h⟩ (fix_turn H) fun D h tk ys nw F N o1 lt hJ => fin D h tk ys F (hJ.1 ▸ N) lt hJ.2.1 hJ.2.2
/-- the same, the name kept in the block's own dict -/
noncomputable def EltL (prog : Program) (w : World) (A : Around) (h₀ : Heap) (L : Addr) (m : Str → Option Value) (env : Env) (elt : Expr) (x : Str) (scope : Scope) (cl : List (Str × Addr)) (s₁ : Shared) (news : List (Addr × Obj)) (n : Nat) (P : Nat → Value → Prop) (R : Nat → Value → Prop) : Prop :=
  ∀ i v I oI C oC D m₂ h tk ys (E' : Value → Shared → Prop), i < n → P i v → LCg.NsObj oC m₂ → m₂ x = some v → Fr h₀ L h m → News h₀ L h ((I, oI) :: (C, oC) :: (D, LCg.lst ys) :: news) → LCg.Off3 I C D news →
      (@Ne Nat I C ∧ @Ne Nat I D ∧ @Ne Nat C D) →
      wpAny (model prog w) A (eval elt (compEnvC scope cl C env)) (PostE h₀ L m s₁ ((I, oI) :: (C, oC) :: (D, LCg.lst ys) :: news) (R i)) E' { s₁ with heap := h, toks := tk }
theorem fix_rest {elt : Expr} {x : Str} {scope : Scope} {cl : List (Str × Addr)} {n : Nat} {P R : Nat → Value → Prop} {S : List (Addr × Obj) → Prop} {Fin : List Value → List (Addr × Obj) → Prop} (hS : S news) (H : EltL prog w A h₀ L m env elt x scope cl s news n P R)
    (fin : ∀ ys, ys.length = n → (∀ j y, ys[j]? = some y → R j y) → Fin ys news) : LCg.CompRest prog w A h₀ L m env elt x scope cl s S P Fin n 0 [] news := by
  refine rest_J (FixJ news R) (fun i ys nw h => h.1 ▸ hS) ?_ (fun ys nw h => h.1 ▸ fin ys h.2.1 h.2.2) ⟨rfl, rfl, fun j y h => by cases h⟩
  intro i v I oI C oC D m₂ h tk ys nw E' hi hv hJ hC hx F N off ne
  obtain rfl := hJ.1
  refine wpAny_mono (H i v I oI C oC D m₂ h tk ys E' hi hv hC hx F N off ne) (fun y s₄ hq => ?_) fun _ _ e => e
  obtain ⟨h', tk', e, F', N', hy⟩ := hq
  exact ⟨h', tk', _, e, F', N', off, hS, fixJ_snoc hJ hy⟩
theorem fixL_list {elt : Expr} {x : Str} {scope : Scope} {cl : List (Str × Addr)} {Fin : Shared → List Value → List (Addr × Obj) → Prop} {ax : Addr} {its : Array Value} {k : Nat} (R : Nat → Value → Prop) (hh : A.handled = none) (F : Fr h₀ L s.heap m) (N : News h₀ L s.heap news) (hsz : its.size ≤ sizeLine)
    (hs : (ax, ({ cls := .type "list", data := .seq its k } : Obj)) ∈ news) (H : ∀ g, EltL prog w A h₀ L m env elt x scope cl { s with heap := g } news its.size (fun i v => its[i]? = some v) R)
    (fin : ∀ g ys, ys.length = its.size → (∀ j y, ys[j]? = some y → R j y) → Fin { s with heap := g } ys news) : LCg.CompSrc prog w A h₀ L m env elt x scope cl Fin (.ref ax) s :=
  LCg.CompSrc.ledger hh F N hs hsz fun g => fix_rest (.inr ⟨_, hs, rfl, _, rfl⟩) (H g) (fin g)
theorem fixL_range {elt : Expr} {x : Str} {scope : Scope} {cl : List (Str × Addr)} {Fin : Shared → List Value → List (Addr × Obj) → Prop} {r : Addr} {a b : Int} {t u v : Tok} {n : Nat} (R : Nat → Value → Prop) (hh : A.handled = none) (F : Fr h₀ L s.heap m) (N : News h₀ L s.heap news) (hr : IsRange s.heap r a b 1 t u v) (hsm : Builtin.Range.small a b 1 = true) (hn : Builtin.Range.rangeSize a b 1 = ((n : Nat) : Int)) (hsz : n ≤ sizeLine)
    (H : ∀ g, EltL prog w A h₀ L m env elt x scope cl { s with heap := g } news n (fun i v => ∃ t, v = .int (a + (i : Int)) t) R)
    (fin : ∀ g ys, ys.length = n → (∀ j y, ys[j]? = some y → R j y) → Fin { s with heap := g } ys news) : LCg.CompSrc prog w A h₀ L m env elt x scope cl Fin (.ref r) s :=
  LCg.CompSrc.range hh F N hr hsm hn hsz fun g => fix_rest trivial (H g) (fin g)
noncomputable def EltT (prog : Program) (w : World) (A : Around) (h₀ : Heap) (L : Addr) (m : Str → Option Value) (env : Env) (ct elt : Expr) (x : Str) (scope : Scope) (cl : List (Str × Addr)) (s₁ : Shared) (news : List (Addr × Obj)) (ks : List Int) (f : Int → Bool) : Prop :=
  ∀ k t I oI C oC D m₂ h tk ys (E' : Value → Shared → Prop), k ∈ ks → LCg.NsObj oC m₂ → m₂ x = some (.int k t) → Fr h₀ L h m → News h₀ L h ((I, oI) :: (C, oC) :: (D, LCg.lst ys) :: news) → LCg.Off3 I C D news →
      (@Ne Nat I C ∧ @Ne Nat I D ∧ @Ne Nat C D) →
      wpAny (model prog w) A (isTrue ct (compEnvC scope cl C env) (eval ct (compEnvC scope cl C env))) (fun ok s' => if ok = true then
        wpAny (model prog w) A (eval elt (compEnvC scope cl C env)) (PostE h₀ L m s₁ ((I, oI) :: (C, oC) :: (D, LCg.lst ys) :: news) (fun y => f k = true ∧ ∃ t, y = .int k t)) E' s'
        else PostE h₀ L m s₁ ((I, oI) :: (C, oC) :: (D, LCg.lst ys) :: news) (fun _ => f k = false) Value.none s') E' { s₁ with heap := h, toks := tk }
theorem ints_snoc' {vs : List Value} {ns : List Int} {x : Int} {u : Tok} (h : IntsAre vs ns) : IntsAre (vs ++ [Value.int x u]) (ns ++ [x]) := by
  induction h with
  | nil => exact .cons _ _ .nil
  | cons i t h ih => exact .cons _ _ ih
theorem ints_at' : ∀ {vs : List Value} {ns : List Int}, IntsAre vs ns → ∀ {i : Nat} {v : Value}, vs[i]? = some v → ∃ n t, ns[i]? = some n ∧ v = .int n t
  | _, _, .nil, i, v, h => by cases i <;> cases h
  | _, _, .cons n t _, 0, v, h => ⟨n, t, rfl, (Option.some.inj h).symm⟩
  | _, _, .cons _ _ r, i + 1, v, h => ints_at' r (i := i) h
theorem fixT_list {ct elt : Expr} {x : Str} {scope : Scope} {cl : List (Str × Addr)} {Fin : Shared → List Value → List (Addr × Obj) → Prop} {ax : Addr} {vs : List Value} {ks : List Int} {k : Nat} (f : Int → Bool) (hi : IntsAre vs ks) (hh : A.handled = none) (F : Fr h₀ L s.heap m) (N : News h₀ L s.heap news) (hsz : vs.toArray.size ≤ sizeLine)
    (hs : (ax, ({ cls := .type "list", data := .seq vs.toArray k } : Obj)) ∈ news) (H : ∀ g, EltT prog w A h₀ L m env ct elt x scope cl { s with heap := g } news ks f)
    (fin : ∀ g ys, IntsAre ys (ks.filter f) → Fin { s with heap := g } ys news) : LCt.CompSrcT prog w A h₀ L m env ct elt x scope cl Fin (.ref ax) s := by
  refine LCt.CompSrcT.ledger hh F N hs hsz fun g => ?_
  have hS : LCg.SrcAt h₀ ax vs.toArray news := .inr ⟨_, hs, rfl, _, rfl⟩
  have key : ∀ (j i : Nat) (ys : List Value), i + j = vs.toArray.size → IntsAre ys ((ks.take i).filter f) → LCt.CompRestT prog w A h₀ L m env ct elt x scope cl { s with heap := g } (LCg.SrcAt h₀ ax vs.toArray) (fun i v => vs.toArray[i]? = some v) (Fin { s with heap := g }) j i ys news := by
    intro j
    induction j with
    | zero =>
      intro i ys e hy
      have : ks.take i = ks := List.take_of_length_le (by rw [← hi.length, ← List.size_toArray]; exact Nat.le_of_eq e.symm)
      rw [this] at hy
      exact LCt.CompRestT.zero (fin g ys hy)
    | succ j ih =>
      intro i ys e hy
      refine LCt.CompRestT.succ ?_
      intro v I oI C oC D m₂ h tk E' hv hC hx F N off ne
      obtain ⟨n, t, hn, rfl⟩ := ints_at' hi (i := i) (v := v) (by simpa using hv)
      have take1 : ks.take (i + 1) = ks.take i ++ [n] := by rw [List.take_add_one, hn]; rfl
      refine wpAny_mono (H g n t I oI C oC D m₂ h tk ys E' (List.mem_of_getElem? hn) hC hx F N off ne) (fun ok s' hq => ?_) fun _ _ e => e
      cases ok with
      | true =>
        simp only [if_true] at hq ⊢
        refine wpAny_mono hq (fun y s₄ hp => ?_) fun _ _ e => e
        obtain ⟨h', tk', e1, F', N', hf, t', rfl⟩ := hp
        refine ⟨h', tk', news, e1, F', N', off, hS, ih (i + 1) _ (by omega) ?_⟩
        rw [take1, List.filter_append, List.filter_cons_of_pos hf]
        exact ints_snoc' hy
      | false =>
        simp only [Bool.false_eq_true, if_false] at hq ⊢
        obtain ⟨h', tk', e1, F', N', hf⟩ := hq
        refine ⟨h', tk', news, e1, F', N', off, hS, ih (i + 1) _ (by omega) ?_⟩
        rw [take1, List.filter_append, List.filter_cons_of_neg (by rw [hf]; decide), List.filter_nil, List.append_nil]
        exact hy
  exact key vs.toArray.size 0 [] (by omega) .nil
end
end
section
open PySem PySem.W PyProof.Rows PySem.Spec PySem.Calls
/-! the text of a mail, as lists of signs -/
abbrev Line := List Nat × List Nat
noncomputable def flatL (l : List Line) : List Nat := (l.map fun p => p.1 ++ p.2).flatten
noncomputable def noEol (c : List Nat) : Prop := ∀ k ∈ c, eol k = false
noncomputable def isEol (e : List Nat) : Prop := e = [13] ∨ e = [10] ∨ e = [13, 10]
theorem flatL_cons (p : Line) (l : List Line) : flatL (p :: l) = p.1 ++ (p.2 ++ flatL l) := by simp [flatL]
theorem getD_app {l r : List Nat} {i : Nat} : (l ++ r).toArray.getD (l.length + i) 0 = r.getD i 0 := by
  simp [Array.getD, List.getD, Array.getElem?_eq_getElem]
  split
  · rename_i h
    rw [List.getElem?_eq_getElem h]; rfl
  · rename_i h
    rw [List.getElem?_eq_none (by omega)]; rfl
theorem getD_at {l : List Nat} {i : Nat} : l.toArray.getD i 0 = l.getD i 0 := by
  have := getD_app (l := []) (r := l) (i := i)
  simpa using this
theorem sub2 : ∀ (rows : List Line) (pre : List Nat), (∀ p ∈ rows, noEol p.1 ∧ isEol p.2 ∧ p.1 ≠ []) →
    SubR P2 (pre ++ flatL rows).toArray [13, 10] pre.length (flatL (rows.map fun p => (p.1, [13, 10])))
  | [], pre, _ => by
    have := SubR.stop (code := P2) (text := (pre ++ flatL []).toArray) (repl := [13, 10]) (d := pre.length) (by simp) (finds2_none fun i h1 h2 => by simp [flatL] at h2; omega)
    simpa [flatL] using this
  | (c, e) :: rows, pre, h => by
    obtain ⟨hc, he, hne⟩ := h (c, e) (.head _)
    have hr := fun p hp => h p (List.mem_cons_of_mem _ hp)
    have txt : pre ++ flatL ((c, e) :: rows) = pre ++ (c ++ (e ++ flatL rows)) := by rw [flatL_cons]
    rw [txt]
    have sz : (pre ++ (c ++ (e ++ flatL rows))).toArray.size = pre.length + c.length + e.length + (flatL rows).length := by simp; omega
    have at1 : ∀ i, (pre ++ (c ++ (e ++ flatL rows))).toArray.getD (pre.length + i) 0 = (c ++ (e ++ flatL rows)).getD i 0 := fun i => getD_app
    have at2 : ∀ i, (pre ++ (c ++ (e ++ flatL rows))).toArray.getD (pre.length + c.length + i) 0 = (e ++ flatL rows).getD i 0 := fun i => by
      have := getD_app (l := pre ++ c) (r := e ++ flatL rows) (i := i)
      simpa [List.length_append, List.append_assoc] using this
    have e1 : 1 ≤ e.length ∧ eol ((e ++ flatL rows).getD 0 0) = true := by
      rcases he with rfl | rfl | rfl <;> exact ⟨by simp, rfl⟩
    have hit : eol ((pre ++ (c ++ (e ++ flatL rows))).toArray.getD (pre.length + c.length) 0) = true := by
      have := at2 0
      rw [Nat.add_zero] at this
      rw [this]; exact e1.2
    have hend : eend (pre ++ (c ++ (e ++ flatL rows))).toArray (pre ++ (c ++ (e ++ flatL rows))).toArray.size (pre.length + c.length) = pre.length + c.length + e.length := by
      have q0 := at2 0
      have q1 := at2 1
      rw [Nat.add_zero] at q0
      unfold eend
      rw [q0, q1, sz]
      rcases he with rfl | rfl | rfl
      · cases hrw : rows with
        | nil => simp [flatL]
        | cons r rs =>
          obtain ⟨h1, -, h3⟩ := hr r (hrw ▸ .head _)
          obtain ⟨r1, r2⟩ := r
          cases hr1 : r1 with
          | nil => exact absurd hr1 h3
          | cons k ks =>
            have hk : eol k = false := h1 k (by show k ∈ r1; rw [hr1]; exact .head _)
            have : k ≠ 10 := by rintro rfl; cases hk
            simp [flatL, this]
      · simp
      · simp
        omega
    have step := SubR.go (code := P2) (text := (pre ++ (c ++ (e ++ flatL rows))).toArray) (repl := [13, 10]) (d := pre.length) (b := pre.length + c.length) (e := pre.length + c.length + e.length) (r := flatL (rows.map fun p => (p.1, [13, 10]))) (Nat.le_add_right _ _) (by omega) (by rw [sz]; omega) ?_ ?_
    · have cut : ((pre ++ (c ++ (e ++ flatL rows))).toArray.toList.drop pre.length).take (pre.length + c.length - pre.length) = c := by
        rw [Nat.add_sub_cancel_left]
        simp
      rw [cut] at step
      have : flatL (((c, e) :: rows).map fun p => (p.1, [13, 10])) = c ++ [13, 10] ++ flatL (rows.map fun p => (p.1, [13, 10])) := by
        rw [List.map_cons, flatL_cons]; simp
      rw [this]; exact step
    · have := finds2_hit (text := (pre ++ (c ++ (e ++ flatL rows))).toArray) (s := pre.length) (p := pre.length + c.length) (Nat.le_add_right _ _) (by rw [sz]; omega) hit (fun i h1 h2 => by
        obtain ⟨j, rfl⟩ := Nat.exists_eq_add_of_le h1
        rw [at1 j]
        have hj : j < c.length := by omega
        rw [List.getD_eq_getElem?_getD, List.getElem?_append_left hj, List.getElem?_eq_getElem hj]
        exact hc _ (List.getElem_mem hj))
      rw [hend] at this
      exact this
    · have := sub2 rows (pre ++ c ++ e) hr
      simpa [List.append_assoc, Nat.add_assoc] using this
end
section
open PySem PySem.W PyProof.Rows PySem.Spec PySem.Calls
noncomputable def hitL (l : List Nat) (i : Nat) : Prop := (i = 0 ∨ l.getD (i - 1) 0 = 10) ∧ l.getD i 0 = 46
theorem hit1_L {l r : List Nat} {i : Nat} (h : i < l.length) : hit1 (l ++ r).toArray i = false ↔ ¬ hitL l i := by
  have e1 : (l ++ r).toArray.getD i 0 = l.getD i 0 := by
    rw [getD_at, List.getD_eq_getElem?_getD, List.getElem?_append_left h, ← List.getD_eq_getElem?_getD]
  have e2 : (l ++ r).toArray.getD (i - 1) 0 = l.getD (i - 1) 0 := by
    rw [getD_at, List.getD_eq_getElem?_getD, List.getElem?_append_left (by omega), ← List.getD_eq_getElem?_getD]
  unfold hit1 bol hitL
  rw [e1, e2]
  simp only [Bool.and_eq_false_iff, Bool.or_eq_false_iff, beq_eq_false_iff_ne, ne_eq]
  constructor
  · rintro (⟨h1, h2⟩ | h1) ⟨h3, h4⟩
    · rcases h3 with h3 | h3
      · exact h1 h3
      · exact h2 h3
    · exact h1 h4
  · intro hn
    by_cases h4 : l.getD i 0 = 46
    · left
      exact ⟨fun q => hn ⟨.inl q, h4⟩, fun q => hn ⟨.inr q, h4⟩⟩
    · exact .inr h4
theorem getD_app' {l r : List Nat} {i : Nat} : (l ++ r).getD (l.length + i) 0 = r.getD i 0 := by
  rw [← getD_at, getD_app]
theorem no_hit {l q : List Nat} (h1 : ∀ j, j + 1 < q.length → q.getD j 0 ≠ 10) (h2 : q.getD 0 0 ≠ 46 ∨ (l ≠ [] ∧ l.getD (l.length - 1) 0 ≠ 10)) : ∀ j, j < q.length → ¬ hitL (l ++ q) (l.length + j) := by
  rintro j hj ⟨h3, h4⟩
  rw [getD_app'] at h4
  cases j with
  | zero =>
    rcases h2 with h2 | ⟨hl, h2⟩
    · exact h2 h4
    · have hp : 0 < l.length := List.length_pos_iff.mpr hl
      rcases h3 with h3 | h3
      · omega
      · rw [Nat.add_zero, List.getD_eq_getElem?_getD, List.getElem?_append_left (by omega), ← List.getD_eq_getElem?_getD] at h3
        exact h2 h3
  | succ j =>
    rcases h3 with h3 | h3
    · omega
    · rw [show l.length + (j + 1) - 1 = l.length + j by omega, getD_app'] at h3
      exact h1 j hj h3
abbrev Row := Nat × List Nat
noncomputable def rowL (p : Row) : List Nat := List.replicate p.1 46 ++ p.2
noncomputable def flatD (l : List Row) : List Nat := flatL (l.map fun p => (rowL p, [13, 10]))
noncomputable def moreD (p : Row) : Row := (if p.1 = 0 then 0 else p.1 + 1, p.2)
theorem flatD_cons (p : Row) (l : List Row) : flatD (p :: l) = rowL p ++ ([13, 10] ++ flatD l) := by unfold flatD; rw [List.map_cons, flatL_cons]
theorem q_inner {d : Nat} {b : List Nat} (hb : ∀ k ∈ b, k ≠ 46 ∧ k ≠ 10) : ∀ j, j + 1 < (List.replicate d 46 ++ (b ++ [13, 10])).length → (List.replicate d 46 ++ (b ++ [13, 10])).getD j 0 ≠ 10 := by
  intro j hj
  simp only [List.length_append, List.length_replicate, List.length_cons, List.length_nil] at hj
  rw [List.getD_eq_getElem?_getD]
  by_cases h1 : j < d
  · rw [List.getElem?_append_left (by simpa using h1), List.getElem?_replicate, if_pos h1]
    simp
  · rw [List.getElem?_append_right (by simpa using Nat.not_lt.mp h1), List.length_replicate]
    by_cases h2 : j - d < b.length
    · rw [List.getElem?_append_left h2, List.getElem?_eq_getElem h2]
      exact (hb _ (List.getElem_mem h2)).2
    · rw [List.getElem?_append_right (Nat.not_lt.mp h2), show j - d - b.length = 0 by omega]
      simp
theorem last10 (l : List Nat) : (l ++ [13, 10]).getD ((l ++ [13, 10]).length - 1) 0 = 10 := by
  have e : (l ++ [13, 10]).length - 1 = l.length + 1 := by rw [List.length_append]; rfl
  rw [e, getD_app']
  rfl
theorem sub1 : ∀ (rows : List Row) (pre mid : List Nat), (∀ p ∈ rows, p.2 ≠ [] ∧ ∀ k ∈ p.2, k ≠ 46 ∧ k ≠ 10) → (pre ++ mid = [] ∨ (pre ++ mid).getD ((pre ++ mid).length - 1) 0 = 10) →
    (∀ i, pre.length ≤ i → i < (pre ++ mid).length → ¬ hitL (pre ++ mid) i) →
    SubR P1 ((pre ++ mid) ++ flatD rows).toArray [46, 46] pre.length (mid ++ flatD (rows.map moreD))
  | [], pre, mid, _, _, hm => by
    have := SubR.stop (code := P1) (text := ((pre ++ mid) ++ flatD []).toArray) (repl := [46, 46]) (d := pre.length) (by simp) (finds1_none (by simp) fun i h1 h2 => (hit1_L (by simpa [flatD, flatL] using h2)).mpr (hm i h1 (by simpa [flatD, flatL] using h2)))
    simpa [flatD, flatL] using this
  | (0, b) :: rows, pre, mid, h, hl, hm => by
    obtain ⟨hne, hb⟩ := h (0, b) (.head _)
    have hq := q_inner (d := 0) hb
    have hnh := no_hit (l := pre ++ mid) (q := b ++ [13, 10]) (by simpa using hq) (.inl (by
      cases b with
      | nil => exact absurd rfl hne
      | cons k ks => exact (hb k (.head _)).1))
    have ih := sub1 rows pre (mid ++ (b ++ [13, 10])) (fun p hp => h p (.tail _ hp)) (.inr (by
      rw [show pre ++ (mid ++ (b ++ [13, 10])) = (pre ++ mid ++ b) ++ [13, 10] by simp]
      exact last10 _)) (fun i h1 h2 => by
      by_cases hi : i < (pre ++ mid).length
      · have := hm i h1 hi
        rintro ⟨h3, h4⟩
        refine this ⟨h3.imp id fun q => ?_, ?_⟩
        · rw [← q, ← List.append_assoc, List.getD_eq_getElem?_getD, List.getD_eq_getElem?_getD, List.getElem?_append_left (l₁ := pre ++ mid) (by omega)]
        · rw [← h4, ← List.append_assoc, List.getD_eq_getElem?_getD, List.getD_eq_getElem?_getD, List.getElem?_append_left (l₁ := pre ++ mid) hi]
      · obtain ⟨j, rfl⟩ := Nat.exists_eq_add_of_le (Nat.not_lt.mp hi)
        have := hnh j (by simp at h2 ⊢; omega)
        rw [← List.append_assoc]
        exact this)
    have e1 : pre ++ (mid ++ (b ++ [13, 10])) ++ flatD rows = pre ++ mid ++ flatD ((0, b) :: rows) := by
      rw [flatD_cons]; simp [rowL]
    have e2 : mid ++ (b ++ [13, 10]) ++ flatD (rows.map moreD) = mid ++ flatD (((0, b) :: rows).map moreD) := by
      rw [List.map_cons, flatD_cons]; simp [rowL, moreD]
    rw [e1, e2] at ih
    exact ih
  | (d + 1, b) :: rows, pre, mid, h, hl, hm => by
    obtain ⟨hne, hb⟩ := h (d + 1, b) (.head _)
    have txt : pre ++ mid ++ flatD ((d + 1, b) :: rows) = (pre ++ mid ++ [46]) ++ ((List.replicate d 46 ++ (b ++ [13, 10])) ++ flatD rows) := by
      rw [flatD_cons]; simp [rowL, List.replicate_succ]
    have hhit : hitL (pre ++ mid ++ [46]) (pre ++ mid).length := by
      refine ⟨?_, by rw [List.getD_eq_getElem?_getD]; simp⟩
      rcases hl with hl | hl
      · left; rw [hl]; rfl
      · by_cases h0 : pre ++ mid = []
        · left; rw [h0]; rfl
        · right
          have hp : 0 < (pre ++ mid).length := List.length_pos_iff.mpr h0
          rw [← hl, List.getD_eq_getElem?_getD, List.getElem?_append_left (by omega), ← List.getD_eq_getElem?_getD]
    have ih := sub1 rows (pre ++ mid ++ [46]) (List.replicate d 46 ++ (b ++ [13, 10])) (fun p hp => h p (.tail _ hp)) (.inr (by
      rw [show pre ++ mid ++ [46] ++ (List.replicate d 46 ++ (b ++ [13, 10])) = (pre ++ mid ++ [46] ++ List.replicate d 46 ++ b) ++ [13, 10] by simp]
      exact last10 _)) (fun i h1 h2 => by
        obtain ⟨j, rfl⟩ := Nat.exists_eq_add_of_le h1
        refine no_hit (q_inner hb) (.inr ⟨by simp, by rw [List.getD_eq_getElem?_getD]; simp⟩) j ?_
        simp only [List.length_append] at h2 ⊢
        omega)
    have e1 : (pre ++ mid ++ [46]) ++ (List.replicate d 46 ++ (b ++ [13, 10])) ++ flatD rows = pre ++ mid ++ flatD ((d + 1, b) :: rows) := by rw [txt]; simp
    rw [e1] at ih
    have hlt : (pre ++ mid).length < (pre ++ mid ++ flatD ((d + 1, b) :: rows)).toArray.size := by rw [txt]; simp only [List.size_toArray, List.length_append, List.length_cons]; omega
    have step := SubR.go (code := P1) (text := (pre ++ mid ++ flatD ((d + 1, b) :: rows)).toArray) (repl := [46, 46]) (d := pre.length) (b := (pre ++ mid).length) (e := (pre ++ mid).length + 1) (by simp) (Nat.lt_succ_self _) hlt
      (finds1_hit (by simp) hlt (by
        rw [txt]
        have := (not_congr (hit1_L (l := pre ++ mid ++ [46]) (r := (List.replicate d 46 ++ (b ++ [13, 10])) ++ flatD rows) (i := (pre ++ mid).length) (by simp))).mpr (fun q => q hhit)
        simpa using this) (fun i h1 h2 => by
        rw [show pre ++ mid ++ flatD ((d + 1, b) :: rows) = (pre ++ mid) ++ flatD ((d + 1, b) :: rows) from rfl]
        exact (hit1_L h2).mpr (hm i h1 h2))) (by
        have q : (pre ++ mid ++ [46]).length = (pre ++ mid).length + 1 := List.length_append
        rw [← q]; exact ih)
    have cut : ((pre ++ mid ++ flatD ((d + 1, b) :: rows)).toArray.toList.drop pre.length).take ((pre ++ mid).length - pre.length) = mid := by
      simp [List.append_assoc]
    rw [cut] at step
    have e2 : mid ++ [46, 46] ++ ((List.replicate d 46 ++ (b ++ [13, 10])) ++ flatD (rows.map moreD)) = mid ++ flatD (((d + 1, b) :: rows).map moreD) := by
      rw [List.map_cons, flatD_cons]; simp [rowL, moreD, List.replicate_succ]
    rw [← e2]
    exact step
end
section
open PySem PySem.W PyProof.Rows PySem.Spec PySem.Calls
local macro_rules | `(tactic| walk_at $s:str) => `(tactic| k_extra $s)
theorem kw_S1_0 : True := by
  k_with_none
  k_with "my enter" => ((refine' code_def ?k1 ?k2 ?k3 ?k4 ?k5 ?kA ?kF ?kK ?k6 ?k7 ?k8 ?k9 ?kB ?_ ?c2 ?c3 ?c4 ?c5; (case kA => exact rfl); (case kF => exact rfl); (case kK => first | exact rfl | assumption); (case k1 => k_asm); (case k2 => k_asm); (case k3 => k_asm); (case k4 => k_asm); (case k5 => k_asm); (case k6 => k_is); (case k7 => k_is); (case k8 => ktr_room); (case k9 => exact BindsTo.of_eq rfl); (case c5 => decide); (case kB => exact locs rfl); (case c2 => exact rfl); (case c3 => exact rfl); (case c4 => exact rfl); k_whole; intro g'ₓ L'ₓ h'ₓ FG'ₓ F'ₓ N'ₓ B'ₓ X'ₓ T'ₓ; (try dsimp only); (try k_lift B'ₓ); (try k_fold)))
  k_with "call ref" => ((k_here; (with_reducible show wpAny _ _ (PySem.call (Value.ref _) _ _) _ _ _); (refine wpAny_call ?_); k_dflt (walk_at "my enter")))
  k_with "my asm" => (((case k1 => k_asm); (case k2 => k_asm); (case k3 => k_asm); (case k4 => k_asm); (case k5 => k_asm); (case kK => first | exact rfl | assumption); (case kd => ktr_room); (case ku => ktr_units)))
  k_with "execs cons" => (refine wpAny_execs_cons ?_)
  k_with "execs nil" => (refine wpAny_execs_nil ?_)
  k_with "execs cons" => ((refine gen_toks (X := _ + 1 + 1 + 1 + 1) ?_; intro tkₓ htkₓ; (try dsimp only at htkₓ)))
  k_with "execs nil" => ((refine gen_toks (X := _ + 1 + 1 + 1 + 1) ?_; intro tkₓ htkₓ; (try dsimp only at htkₓ)))
  k_with "execs cons" => ((refine' gen_norm ?kS ?kF ?kE ?_; (case kS => with_reducible assumption); (case kF => with_reducible assumption); (case kE => exact rfl); intro tkₓ htkₓ; (try dsimp only at htkₓ)))
  k_with "execs nil" => ((refine' gen_norm ?kS ?kF ?kE ?_; (case kS => with_reducible assumption); (case kF => with_reducible assumption); (case kE => exact rfl); intro tkₓ htkₓ; (try dsimp only at htkₓ)))
  trivial
variable {w : World} {p : Program} {loose : List Str} {mean : ExcName → Option Value} {mg mb : Str → Option Value} {dp un : Nat} {gd : Option (List Code)} {cn : Str} {cs : Scope} {a : Addr} {ccd : Value} {cl : List (Str × Addr)} {outer : List Env} {A₀ : Around} {base h₀ : Heap} {L : Addr} {m : Str → Option Value} {s : Shared} {Q E : Value → Shared → Prop} {news : List (Addr × Obj)}
theorem filled_S1 : (K91 = K91) ∧ (PySem.Challenge.rw_wn0091_01.most = some 63) := by
  k_fill
  exact ⟨rfl, rfl⟩
section
variable {prog : Program} {A : Around} {env : Env} {R : Result → Shared → Prop} {g₀ : Heap}
noncomputable def fsOf (l : List Env) : List Addr := l.filterMap (·.frame)
noncomputable def BackS (A₀ : Around) (base : Heap) (outer : List Env) (env : Env) (h₀ : Heap) (L : Addr) (m : Str → Option Value) (g : Heap) (R : Result → Shared → Prop) (v : Value) (s' : Shared) : Prop :=
  ∃ g' L' m' news', KtsTurn (fsOf (env :: outer)) g g' ∧ Fr g' L' s'.heap m' ∧ News g' L' s'.heap news' ∧
    ∀ h₁, KtsTurn (fsOf outer) h₀ h₁ → Fr h₁ L s'.heap m → News h₁ L s'.heap news' → Below A₀ base outer h₁ → KtsDicts (fsOf outer) h₁ → R (.ok (.ret v)) s'
theorem up_of_turn {fs : List Addr} {g g' h : Heap} {L' : Addr} {m' : Str → Option Value} (T : KtsTurn fs g g') (F : Fr g' L' h m') : g.UpToSlots h := fun b o e _ => by
  obtain ⟨sl, q⟩ := T.up e
  exact ⟨sl, F.keep _ _ q⟩
theorem backS (B : Below A₀ base outer h₀) (F : Fr h₀ L s.heap m) (D : KtsDicts (fsOf outer) h₀) (hf : env.frame = some L) {g : Heap} (FG : Fr h₀ L g m) {v : Value} {s' : Shared}
    (K : BackS A₀ base outer env h₀ L m g R v s') : R (.ok (.ret v)) s' := by
  obtain ⟨g', L', m', news', T, F', N', k⟩ := K
  have hL : h₀.get? L = none := kts_self F
  have up := up_of_turn T F'
  have far : ∀ b o, h₀.get? b = some o → b ∉ fsOf outer → b ∉ fsOf (env :: outer) := fun b o e q z => by
    obtain ⟨en, he, hb⟩ := List.mem_filterMap.mp z
    rcases List.mem_cons.mp he with rfl | he
    · rw [hf] at hb
      obtain rfl : L = b := Option.some.inj hb
      rw [hL] at e
      cases e
    · exact q (List.mem_filterMap.mpr ⟨en, he, hb⟩)
  obtain ⟨T₁, S₁⟩ := kts_turn_at (fs := fsOf outer) (g := h₀) (h := s'.heap) (fun b hb => by
      obtain ⟨o, _, _, ho, _⟩ := D b hb
      exact ⟨o, ho⟩)
    (fun b o e q => F'.keep b o (T.other b o (FG.keep b o e) (far b o e q)))
    (fun b o e _ => by
      obtain ⟨sl, q⟩ := T.up (FG.keep b o e)
      exact ⟨sl, F'.keep _ _ q⟩)
  refine k _ T₁ ⟨up.ns FG.ns, S₁, by rw [T₁.size]; exact F.above⟩ (fun p hp => ⟨(N' p hp).1, fun q => ?_, T₁.none_ _ ?_⟩) ⟨B.stack, fun b o e => T₁.other b o (B.stays b o e) fun q => ?_, B.frames.of_keeps fun b o e _ => ?_⟩ (D.turn T₁)
  · obtain ⟨o, _, _, ho, _⟩ := FG.ns
    obtain ⟨sl, z⟩ := T.up ho
    have := (N' p hp).2.2
    rw [q, z] at this
    cases this
  · cases q : h₀.get? p.1 with
    | none => rfl
    | some o =>
      obtain ⟨sl, z⟩ := T.up (FG.keep _ _ q)
      have := (N' p hp).2.2
      rw [z] at this
      cases this
  · rw [(B.frames.mem q).1] at e
    cases e
  · obtain ⟨sl, z⟩ := T₁.up e
    exact ⟨_, z, rfl⟩
theorem dicts_push (D : KtsDicts (fsOf outer) h₀) (hf : env.frame = some L) {g : Heap} (FG : Fr h₀ L g m) : KtsDicts (fsOf (env :: outer)) g := fun b hb => by
  obtain ⟨en, he, hq⟩ := List.mem_filterMap.mp hb
  rcases List.mem_cons.mp he with rfl | he
  · rw [hf] at hq
    obtain rfl : L = b := Option.some.inj hq
    obtain ⟨o, es, n, ho, hd, _⟩ := FG.ns
    exact ⟨o, es, n, ho, hd⟩
  · obtain ⟨o, es, n, ho, hd⟩ := D b (List.mem_filterMap.mpr ⟨en, he, hq⟩)
    exact ⟨o, es, n, FG.keep _ _ ho, hd⟩
variable {K : Frag} {name qual : Str} {params : Arguments} {body : List Stmt} {scope : Scope} {dV kV doc pm cdv ct oc : Value} {an od : Option Addr} {osl : Array (Option Value)} {f : Addr} {args : Args} {binds : List (Str × Value)}
theorem code_S (B : Below A₀ base outer h₀) (F : Fr h₀ L s.heap m) (X₀ : K.In h₀) (N : News h₀ L s.heap news) (T : Top p loose mean mg mb h₀) (D : KtsDicts (fsOf outer) h₀) (hA : A.frames = some (env :: outer)) (hf : env.frame = some L) (hke : env.scope.kind = .function)
    (ho : K.lookup f = some ⟨oc, od, .func (fnOf name qual params body scope dV kV doc pm an cdv ct), osl⟩) (hcd : codeIn K cdv qual = true) (hroom : A.depth < recursionLimit)
    (hbind : BindsTo s (fnOf name qual params body scope dV kV doc pm an cdv ct) args binds) (hloc : ∀ y ∈ binds, scope.names.lookup y.1 = some .local)
    (h : ∀ g L' h₁, Fr h₀ L g m → Fr g L' h₁ (fun y => binds.reverse.lookup y) → News g L' h₁ news → Below A base (env :: outer) g → K.In g → Top p loose mean mg mb g → KtsDicts (fsOf (env :: outer)) g →
      wpAny (model prog w) (A.deeper (envOf qual scope L' f cdv)) (execs body (envOf qual scope L' f cdv))
        (fun fl s' => BackS A₀ base outer env h₀ L m g R (match fl with | .ret v => v | _ => .none) s')
        (fun e s' => wpAny (model prog w) (A.deeper (envOf qual scope L' f cdv)) (leaving (envOf qual scope L' f cdv) e) (fun _ s'' => R (.error e) s'') (fun e' s'' => R (.error e') s'') s')
        { s with heap := h₁, toks := s.toks + binds.length })
    (hco : scope.isCoroutine = false) (hgen : scope.isGenerator = false) (hk : scope.kind = .function)
    (hcell : ∀ x ∈ scope.names, x.2 ≠ .cell) : codeAny (model prog w) A (.call (.ref f) args) R s := by
  obtain ⟨FG, BG, st, -⟩ := groundX (R := R) B F N hA hf hke
  refine codeAny_call_def (fd := fnOf name qual params body scope dV kV doc pm an cdv ct) (body := body) (binds := binds) hroom ((X₀.keeps F.keep) _ _ ho) rfl (T.nolimit.keeps F.keep) (codeRec_of (X₀.keeps F.keep) hcd) rfl hbind hcell hloc (fun h₁ hns hk₁ => ?_) hco hgen hk
  exact wpAny_mono (h _ s.heap.objs.size h₁ FG ⟨hns, fun b o e => hk₁ b o (of_hideAll _ e), Nat.le_of_eq (hideAll_size _ _)⟩
    (fun p hp => ⟨hk₁ _ _ (N p hp).1, Nat.ne_of_lt (Heap.lt_size (N p hp).1), hideAll_none _ (List.mem_map_of_mem hp)⟩) BG (X₀.keeps st) (T.keeps st) (dicts_push D hf FG)) (fun fl s' hl => backS B F D hf FG hl) fun _ _ y => y
theorem code_SC (B : Below A₀ base outer h₀) (F : Fr h₀ L s.heap m) (X₀ : K.In h₀) (N : News h₀ L s.heap news) (T : Top p loose mean mg mb h₀) (D : KtsDicts (fsOf outer) h₀) (hA : A.frames = some (env :: outer)) (hf : env.frame = some L) (hke : env.scope.kind = .function)
    (ho : K.lookup f = some ⟨oc, od, .func (fnOf name qual params body scope dV kV doc pm an cdv ct), osl⟩) (hcd : codeIn K cdv qual = true) (hroom : A.depth < recursionLimit)
    (hbind : BindsTo s (fnOf name qual params body scope dV kV doc pm an cdv ct) args binds) (hkind : (binds.all fun y => scope.names.lookup y.1 == some .local || scope.names.lookup y.1 == some .cell) = true)
    (hnd : ((cellsFrom 0 scope.names []).map (·.1)).Nodup)
    (h : ∀ g L' h₁ tk cells, Fr h₀ L g m → Fr g L' h₁ (bindL (envOfC qual scope L' f cdv).kindOf binds fun _ => none) → News g L' h₁ (cells ++ news) →
      CellsAre (bindC (envOfC qual scope L' f cdv).kindOf binds fun _ => none) (cellsFrom (L' + 1) scope.names []) cells → Below A base (env :: outer) g → K.In g → Top p loose mean mg mb g → KtsDicts (fsOf (env :: outer)) g → (∀ p ∈ news, p.1 < L') →
      wpAny (model prog w) (A.deeper (envOfC qual scope L' f cdv)) (execs body (envOfC qual scope L' f cdv))
        (fun fl s' => BackS A₀ base outer env h₀ L m g R (match fl with | .ret v => v | _ => .none) s')
        (fun e s' => wpAny (model prog w) (A.deeper (envOfC qual scope L' f cdv)) (leaving (envOfC qual scope L' f cdv) e) (fun _ s'' => R (.error e) s'') (fun e' s'' => R (.error e') s'') s')
        { s with heap := h₁, toks := tk })
    (hco : scope.isCoroutine = false) (hgen : scope.isGenerator = false) (hk : scope.kind = .function) : codeAny (model prog w) A (.call (.ref f) args) R s := by
  obtain ⟨FG, BG, st, -⟩ := groundX (R := R) B F N hA hf hke
  refine codeAny_call_function hroom ((X₀.keeps F.keep) _ _ ho) rfl hco hgen rfl (codeRec_of (X₀.keeps F.keep) hcd) (hbind _ _ _ _ ?_)
  refine wpAny_newFunctionEnv_cells hk (kindsX hkind _) fun en he s₁ x => ?_
  subst he
  refine ⟨(T.nolimit.keeps F.keep).keeps x.toInCall.keep, codeAny_func ?_⟩
  obtain ⟨h₁, tk, rfl, _⟩ := x.done
  have kp := x.toInCall.keep
  obtain ⟨cells, NC, Y⟩ := Cl.news (h₀ := s.heap) (Nat.le_refl _) fun n c hm => ⟨x.cell n c (lookup_of_mem_nodup (cellsFrom_names scope.names 0 (s.heap.objs.size + 1) [] [] rfl ▸ hnd) hm), x.above n c hm⟩
  have old : ∀ b, s.heap.get? b = none → (hideAll s.heap (news.map (·.1))).get? b = none := fun b q => by
    cases z : (hideAll s.heap (news.map (·.1))).get? b with
    | none => rfl
    | some o => rw [of_hideAll _ z] at q; cases q
  refine wpAny_mono (h _ s.heap.objs.size h₁ tk cells FG ⟨x.toInCall.ns, fun b o e => kp b o (of_hideAll _ e), Nat.le_of_eq (hideAll_size _ _)⟩ (fun p hp => ?_) Y BG (X₀.keeps st) (T.keeps st) (dicts_push D hf FG) fun p hp => Heap.lt_size (N p hp).1) (fun fl s' hl => backS B F D hf FG hl) fun _ _ y => y
  rcases List.mem_append.mp hp with hp | hp
  · exact ⟨(NC p hp).1, (NC p hp).2.1, old _ (NC p hp).2.2⟩
  · exact ⟨kp _ _ (N p hp).1, Nat.ne_of_lt (Heap.lt_size (N p hp).1), hideAll_none _ (List.mem_map_of_mem hp)⟩
end
end
section
open PySem PySem.W PyProof.Rows PySem.Spec PySem.Calls
local macro_rules | `(tactic| walk_at $s:str) => `(tactic| k_extra $s)
theorem kw_S2_0 : True := by
  k_with_none
  k_with "my enter" => ((refine' code_def ?k1 ?k2 ?k3 ?k4 ?k5 ?kA ?kF ?kK ?k6 ?k7 ?k8 ?k9 ?kB ?_ ?c2 ?c3 ?c4 ?c5; (case kA => exact rfl); (case kF => exact rfl); (case kK => first | exact rfl | assumption); (case k1 => k_asm); (case k2 => k_asm); (case k3 => k_asm); (case k4 => k_asm); (case k5 => k_asm); (case k6 => k_is); (case k7 => k_is); (case k8 => ktr_room); (case k9 => exact BindsTo.of_eq rfl); (case c5 => decide); (case kB => exact locs rfl); (case c2 => exact rfl); (case c3 => exact rfl); (case c4 => exact rfl); k_whole; intro g'ₓ L'ₓ h'ₓ FG'ₓ F'ₓ N'ₓ B'ₓ X'ₓ T'ₓ; (try dsimp only); (try k_lift B'ₓ); (try k_fold)))
  k_with "call ref" => ((k_here; (with_reducible show wpAny _ _ (PySem.call (Value.ref _) _ _) _ _ _); (refine wpAny_call ?_); k_dflt (walk_at "my enter")))
  k_with "my asm" => (((case k1 => k_asm); (case k2 => k_asm); (case k3 => k_asm); (case k4 => k_asm); (case k5 => k_asm); (case kK => first | exact rfl | assumption); (case kd => ktr_room); (case ku => ktr_units)))
  k_with "execs cons" => (refine wpAny_execs_cons ?_)
  k_with "execs nil" => (refine wpAny_execs_nil ?_)
  k_with "execs cons" => ((refine gen_toks (X := _ + 1 + 1 + 1 + 1) ?_; intro tkₓ htkₓ; (try dsimp only at htkₓ)))
  k_with "execs nil" => ((refine gen_toks (X := _ + 1 + 1 + 1 + 1) ?_; intro tkₓ htkₓ; (try dsimp only at htkₓ)))
  k_with "execs cons" => ((refine' gen_norm ?kS ?kF ?kE ?_; (case kS => with_reducible assumption); (case kF => with_reducible assumption); (case kE => exact rfl); intro tkₓ htkₓ; (try dsimp only at htkₓ)))
  k_with "execs nil" => ((refine' gen_norm ?kS ?kF ?kE ?_; (case kS => with_reducible assumption); (case kF => with_reducible assumption); (case kE => exact rfl); intro tkₓ htkₓ; (try dsimp only at htkₓ)))
  trivial
variable {w : World} {p : Program} {loose : List Str} {mean : ExcName → Option Value} {mg mb : Str → Option Value} {dp un : Nat} {gd : Option (List Code)} {cn : Str} {cs : Scope} {a : Addr} {ccd : Value} {cl : List (Str × Addr)} {outer : List Env} {A₀ : Around} {base h₀ : Heap} {L : Addr} {m : Str → Option Value} {s : Shared} {Q E : Value → Shared → Prop} {news : List (Addr × Obj)}
theorem filled_S2 : (K91 = K91) ∧ (PySem.Challenge.rw_wn0091_01.most = some 63) := by
  k_fill
  exact ⟨rfl, rfl⟩
noncomputable def Stop (p : Prop) : Prop := p
theorem stop_ {p : Prop} (h : Stop p) : p := h
theorem go_ {p : Prop} (h : p) : Stop p := h
noncomputable def TurnG (Gd : Heap → Prop) (L it : Addr) (o : Obj) (T : Nat) (P : List (Addr × Obj) → (Str → Option Value) → Prop) (s : Shared) (R : Result → Shared → Prop) (f : Flow) (s' : Shared) : Prop := match f with
  | .next | .cont => ∃ g h' tk' m' nw, s' = { s with heap := h', toks := tk' } ∧ T ≤ tk' ∧ Gd g ∧ Fr g L h' m' ∧ News g L h' ((it, o) :: nw) ∧ P nw m'
  | .brk => R (.ok .next) s'
  | .ret v => R (.ok (.ret v)) s'
section
variable {A : Around} {env : Env} {name : Str} {px : Pos} {body : List Stmt} {R : Result → Shared → Prop} {it l : Addr} {vs : List Value} {g : Heap} {nw : List (Addr × Obj)}
theorem loop_list (T : Nat) (Gd : Heap → Prop) (P : Nat → List (Addr × Obj) → (Str → Option Value) → Prop)
    (hh : A.handled = none) (hx : env.kindOf name = some .local) (hk : env.scope.kind = .function)
    (hl : ∀ i nw m, P i nw m → ∃ n, (l, listOf vs.toArray n) ∈ nw) (hP : ∀ i nw m p, P i nw m → p ∈ nw → p.1 ≠ it ∨ p.2.cls ≠ .type "list_iterator")
    (G0 : Gd g) (F : Fr g env.locals s.heap m) {o : Obj} (N : News g env.locals s.heap ((it, o) :: nw)) (hI : Heap.IsListIter s.heap it l 0) (hT : T ≤ s.toks) (h0 : P 0 nw m)
    (turn : ∀ i v g h tk m nw o, vs[i]? = some v → T ≤ tk → Gd g → Fr g env.locals h (fun y => if y = name then some v else m y) → News g env.locals h ((it, o) :: nw) → P i nw m → (∀ q ∈ nw, q.1 ≠ it) →
      wpAny (Mo w) A (execs body env) (TurnG Gd env.locals it o T (P (i + 1)) s R) (notedBy (Mo w) A env fun e s' => R (.error e) s') { s with heap := h, toks := tk + 1 })
    (done : ∀ g h tk m nw, T ≤ tk → Gd g → Fr g env.locals h m → News g env.locals h nw → P vs.length nw m → R (.ok .next) { s with heap := h, toks := tk }) :
    codeAny (Mo w) A (.forLoop (.Name name px) (.ref it) body [] env) R s := by
  refine codeAny_forLoop (fun k s' => ∃ i g h tk m' nw o, s' = { s with heap := h, toks := tk } ∧ T ≤ tk ∧ Gd g ∧ Fr g env.locals h m' ∧ News g env.locals h ((it, o) :: nw) ∧ Heap.IsListIter h it l i ∧ P i nw m' ∧ i ≤ vs.length ∧ k = vs.length + 1 - i) ?_ (vs.length + 1)
    ⟨0, g, s.heap, s.toks, m, nw, o, rfl, hT, G0, F, N, hI, h0, Nat.zero_le _, rfl⟩
  rintro k s' ⟨i, g, h, tk, m', nw, o, rfl, hT', G', F', N', hI', hp, hi, rfl⟩
  obtain ⟨oi, hoi, hoc, hod⟩ := id hI'
  have hio : o = oi := Option.some.inj ((N' _ (.head _)).1.symm.trans hoi)
  subst hio
  have hne : ∀ p ∈ nw, p.1 ≠ it := fun p hm q => by
    rcases hP i nw m' p hp hm with z | z
    · exact z q
    · have := (N' p (.tail _ hm)).1
      rw [q, hoi] at this
      exact z ((Option.some.inj this) ▸ hoc)
  have hL : it ≠ env.locals := (N' _ (.head _)).2.1
  have hf : g.get? it = none := (N' _ (.head _)).2.2
  obtain ⟨n, hln⟩ := hl i nw m' hp
  have hlist : h.IsList l vs.toArray := ⟨_, (N' _ (.tail _ hln)).1, rfl, n, rfl⟩
  cases hc : vs[i]? with
  | none =>
    have hsz : i = vs.length := Nat.le_antisymm hi (by simpa using hc)
    subst hsz
    refine wpAny_pyNext_list_end hh hI' hlist (by simp) fun h' he => wpAny_execs_nil ?_
    exact done g h' tk m' nw hT' G' (fr_extBut F' he hL hf) (news_extBut (fun p hm => N' p (.tail _ hm)) he hne) hp
  | some v =>
    have hlt : i < vs.length := (List.getElem?_eq_some_iff.mp hc).1
    refine wpAny_pyNext_list_item hI' hlist (by simpa using hc) fun h' hI'' hs => ?_
    obtain ⟨o', ho', hoc', hod'⟩ := hI''
    have F₁ := fr_sameBut F' hs hL hf
    have N₁ : News g env.locals h' nw := news_sameBut (fun p hm => N' p (.tail _ hm)) hs hne
    refine wpAny_assign_Name (wpAny_storeName_local hx F₁.ns (fun h₂ hn₂ hs₂ => ?_) (by rw [hk]; rfl))
    have F₂ := F₁.set hn₂ hs₂
    have N₂ : News g env.locals h₂ ((it, o') :: nw) := by
      intro p hp
      rcases List.mem_cons.mp hp with rfl | hp
      · exact ⟨(hs₂.2 it hL).trans ho', hL, hf⟩
      · exact N₁.set hs₂ p hp
    refine wpAny_mono (turn i v g h₂ tk m' nw o' hc hT' G' F₂ N₂ hp hne) (fun f s₃ h₃ => ?_) fun _ _ e => e
    have fin : (∃ g h' tk' m' nw, s₃ = { s with heap := h', toks := tk' } ∧ T ≤ tk' ∧ Gd g ∧ Fr g env.locals h' m' ∧ News g env.locals h' ((it, o') :: nw) ∧ P (i + 1) nw m') →
        ∃ k', k' < vs.length + 1 - i ∧ ∃ i' g h tk m' nw o, s₃ = { s with heap := h, toks := tk } ∧ T ≤ tk ∧ Gd g ∧ Fr g env.locals h m' ∧ News g env.locals h ((it, o) :: nw) ∧ Heap.IsListIter h it l i' ∧ P i' nw m' ∧ i' ≤ vs.length ∧ k' = vs.length + 1 - i' := by
      rintro ⟨g₄, h₄, tk₄, m₄, nw₄, rfl, hT₄, G₄, F₄, N₄, hJ₄⟩
      exact ⟨vs.length + 1 - (i + 1), by omega, i + 1, g₄, h₄, tk₄, m₄, nw₄, o', rfl, hT₄, G₄, F₄, N₄, ⟨o', (N₄ _ (.head _)).1, hoc', hod'⟩, hJ₄, hlt, rfl⟩
    cases f with
    | next => exact fin h₃
    | cont => exact fin h₃
    | brk => exact h₃
    | ret v => exact h₃
theorem for_list (T : Nat) (Gd : Heap → Prop) (P : Nat → List (Addr × Obj) → (Str → Option Value) → Prop) {nl : Nat}
    (hh : A.handled = none) (hx : env.kindOf name = some .local) (hk : env.scope.kind = .function)
    (hl : ∀ i nw m, P i nw m → ∃ n, (l, listOf vs.toArray n) ∈ nw)
    (hP : ∀ i nw m p, P i nw m → p ∈ nw → p ∈ news ∨ p.2.cls ≠ .type "list_iterator")
    (G0 : Gd g) (F : Fr g env.locals s.heap m) (N : News g env.locals s.heap nw) (N0 : News g env.locals s.heap news) (hln : (l, listOf vs.toArray nl) ∈ nw) (hT : T ≤ s.toks) (h0 : P 0 nw m)
    (turn : ∀ it i v g h tk m nw o, (∀ p ∈ news, p.1 < it) → vs[i]? = some v → T ≤ tk → Gd g → Fr g env.locals h (fun y => if y = name then some v else m y) → News g env.locals h ((it, o) :: nw) → P i nw m → (∀ q ∈ nw, q.1 ≠ it) →
      wpAny (Mo w) A (execs body env) (TurnG Gd env.locals it o T (P (i + 1)) s R) (notedBy (Mo w) A env fun e s' => R (.error e) s') { s with heap := h, toks := tk + 1 })
    (done : ∀ g h tk m nw, T ≤ tk → Gd g → Fr g env.locals h m → News g env.locals h nw → P vs.length nw m → R (.ok .next) { s with heap := h, toks := tk }) :
    wpAny (Mo w) A (pyIter (.ref l)) (fun it s₂ => codeAny (Mo w) A (.forLoop (.Name name px) it body [] env) R s₂) E s := by
  refine wpAny_pyIter_list ⟨_, (N _ hln).1, rfl, nl, rfl⟩ ?_
  have lt0 : ∀ p ∈ news, p.1 < s.heap.objs.size := fun p hp => Heap.lt_size (N0 p hp).1
  refine loop_list (s := { s with heap := _, toks := _ }) T Gd P hh hx hk hl (fun i nw m p a b => (hP i nw m p a b).imp (fun q => Nat.ne_of_lt (lt0 p q)) id) G0 (F.push _) (News.push F N _) ⟨_, Heap.get?_push_size _ rfl, rfl, rfl⟩ hT h0 ?_ ?_
  · exact fun i v g h tk m nw o a b c d e f q => turn _ i v g h tk m nw o lt0 a b c d e f q
  · exact done
end
end
section
open PySem PySem.W PyProof.Rows PySem.Spec PySem.Calls
local macro_rules | `(tactic| walk_at $s:str) => `(tactic| k_extra $s)
section
open PySem PySem.W PyProof.Rows PySem.Spec PySem.Calls
theorem kw_Ccnt_0 : True := by
  k_with_none
  k_with "my enter" => ((refine' code_def ?k1 ?k2 ?k3 ?k4 ?k5 ?kA ?kF ?kK ?k6 ?k7 ?k8 ?k9 ?kB ?_ ?c2 ?c3 ?c4 ?c5; (case kA => exact rfl); (case kF => exact rfl); (case kK => first | exact rfl | assumption); (case k1 => k_asm); (case k2 => k_asm); (case k3 => k_asm); (case k4 => k_asm); (case k5 => k_asm); (case k6 => k_is); (case k7 => k_is); (case k8 => ktr_room); (case k9 => exact BindsTo.of_eq rfl); (case c5 => decide); (case kB => exact locs rfl); (case c2 => exact rfl); (case c3 => exact rfl); (case c4 => exact rfl); k_whole; intro g'ₓ L'ₓ h'ₓ FG'ₓ F'ₓ N'ₓ B'ₓ X'ₓ T'ₓ; (try dsimp only); (try k_lift B'ₓ); (try k_fold)))
  k_with "call ref" => ((k_here; (with_reducible show wpAny _ _ (PySem.call (Value.ref _) _ _) _ _ _); (refine wpAny_call ?_); k_dflt (walk_at "my enter")))
  k_with "my asm" => (((case k1 => k_asm); (case k2 => k_asm); (case k3 => k_asm); (case k4 => k_asm); (case k5 => k_asm); (case kK => first | exact rfl | assumption); (case kd => ktr_room); (case ku => ktr_units)))
  k_with "execs cons" => (refine wpAny_execs_cons ?_)
  k_with "execs nil" => (refine wpAny_execs_nil ?_)
  k_with "execs cons" => ((refine gen_toks (X := _ + 1 + 1 + 1 + 1) ?_; intro tkₓ htkₓ; (try dsimp only at htkₓ)))
  k_with "execs nil" => ((refine gen_toks (X := _ + 1 + 1 + 1 + 1) ?_; intro tkₓ htkₓ; (try dsimp only at htkₓ)))
  k_with "execs cons" => ((refine' gen_norm ?kS ?kF ?kE ?_; (case kS => with_reducible assumption); (case kF => with_reducible assumption); (case kE => exact rfl); intro tkₓ htkₓ; (try dsimp only at htkₓ)))
  k_with "execs nil" => ((refine' gen_norm ?kS ?kF ?kE ?_; (case kS => with_reducible assumption); (case kF => with_reducible assumption); (case kE => exact rfl); intro tkₓ htkₓ; (try dsimp only at htkₓ)))
  trivial
variable {w : World} {p : Program} {loose : List Str} {mean : ExcName → Option Value} {mg mb : Str → Option Value} {dp un : Nat} {gd : Option (List Code)} {cn : Str} {cs : Scope} {a : Addr} {ccd : Value} {cl : List (Str × Addr)} {outer : List Env} {A₀ : Around} {base h₀ : Heap} {L : Addr} {m : Str → Option Value} {s : Shared} {Q E : Value → Shared → Prop} {news : List (Addr × Obj)}
theorem filled_cnt : (K91 = K91) ∧ (PySem.Challenge.rw_wn0091_01.most = some 63) := by
  k_fill
  exact ⟨rfl, rfl⟩
section
theorem kw_Ccnt_1 : True := by
  k_with "exec For Name Name cons nil" => (with_unfolding_all refine wpAny_For ?_)
  k_with "compareOp Is str str" => ((refine is_str (P := World.params _) (Frag.In.keeps (by k_asm) (Fr.keep (by k_asm))) ?kt ?ku ?kv ?_; (case kt => omega); (case ku => omega); (case kv => omega); intro bₓ hbₓ))
  trivial
theorem cnt_ok {x : Str} {t : Tok} {t2 : Nat} (B : Below A₀ base outer h₀) (F : Fr h₀ L s.heap m) (X : (K91 w.params).In h₀) (N : News h₀ L s.heap news) (T : Top p loose mean mg mb h₀) (hk : cs.kind = .function) (hd : dp + 9 < recursionLimit) (hu : un + 100 < cLine)
   (ha : x.cps.all (· < 128) = true) (ht : t2 ≠ 0) (ht2 : t2 < s.toks)
   (ret : ∀ t' h' tk', Fr h₀ L h' m → News h₀ L h' news → Q (.int (x.cps.toList.count 46 : Nat) t') { s with heap := h', toks := tk' }) :
   wpAny (Mo w) (ktrTop dp un gd cn cs L a ccd cl outer) (call (.ref 145) [.str x t, .str (Str.ofString ".") t2] []) Q E s := by
  have hS : St s.gens s.drawn s.os := trivial
  refine wpAny_call (code_def (K := K91 w.params) (binds := [(Str.ofString "a", .str x t), (Str.ofString "b", .str (Str.ofString ".") t2)]) B F X N T rfl rfl hk (by k_is) (by k_is) (by ktr_room) (BindsTo.of_eq rfl) (locs rfl) (fun g' L' h' FG F' N' B' X' T' => ?_) rfl rfl rfl (by decide))
  refine gen_toks ?_
  intro tk0 htk0
  simp only [List.length_cons, List.length_nil] at htk0
  k_fold
  k_steps
  rename_i h2 F2 N2
  refine for_str (news := news) s.toks (fun i m => ∃ tc u, m = fun y => if y = Str.ofString "i" then u else if y = Str.ofString "count" then some (.int ((x.cps.toList.take i).count 46 : Nat) tc) else if y = Str.ofString "b" then some (.str (Str.ofString ".") t2) else if y = Str.ofString "a" then some (.str x t) else none) rfl rfl rfl ha F2 N2 ?_ ?_ ?_ ?_
  · show s.toks ≤ _
    dsimp only
    omega
  · refine ⟨tk0, none, ?_⟩
    funext y
    by_cases h1 : y = Str.ofString "i"
    · subst h1; rfl
    · rw [if_neg h1]
      by_cases h2 : y = Str.ofString "count"
      · subst h2; rfl
      · rw [if_neg h2, if_neg h2]
        by_cases h3 : y = Str.ofString "b"
        · subst h3; rfl
        · rw [if_neg h3]
          by_cases h4 : y = Str.ofString "a"
          · subst h4; rfl
          · rw [if_neg h4]
            have e3 : (y == Str.ofString "b") = false := by simp [h3]
            have e4 : (y == Str.ofString "a") = false := by simp [h4]
            simp only [List.reverse_cons, List.reverse_nil, List.nil_append, List.cons_append, List.lookup_cons, List.lookup_nil, e3, e4]
  · rintro i c _ h tk o it hc ⟨tc, u, rfl⟩ hT F3 N3
    have hT2 : t2 < tk := by omega
    try dsimp only
    k_steps
    all_goals (have hcnt := take_count (k := 46) hc)
    · rename_i hb1 h4 F4 N4
      have h46 : c = 46 := (dot_str (z := ".") (by decide +kernel)).mp (Classical.byContradiction fun q => by have := hbₓ q; rw [this] at hb1; cases hb1)
      rw [if_pos h46] at hcnt
      refine ⟨_, _, _, rfl, ?_, F4, N4, ?tc, ?u, ?e⟩
      case e => rw [hcnt]; exact two_ifs (a := Str.ofString "i") (b := Str.ofString "count") (by decide)
      omega
    · rename_i hb1 hb2 h4 F4 N4
      have h46 : c = 46 := (dot_str (z := ".") (by decide +kernel)).mp (by simpa using hb2)
      rw [if_pos h46] at hcnt
      refine ⟨_, _, _, rfl, ?_, F4, N4, ?tc, ?u, ?e⟩
      case e => rw [hcnt]; exact two_ifs (a := Str.ofString "i") (b := Str.ofString "count") (by decide)
      omega
    · rename_i hb1 hb2
      have h46 : ¬ c = 46 := fun q => by rw [(dot_str (z := ".") (by decide +kernel)).mpr q] at hb2; simp at hb2
      rw [if_neg h46] at hcnt
      refine ⟨_, _, _, rfl, ?_, F3, N3, tc, some (.str ⟨#[c]⟩ tk), ?e⟩
      case e => rw [hcnt, Nat.add_zero]; funext y; by_cases h : y = Str.ofString "i" <;> simp [h]
      show _ ≤ tk + 2
      omega
  · rintro _ h tk ⟨tc, u, rfl⟩ hT F3 N3
    try dsimp only
    k_steps
    have e : x.cps.toList.take x.cps.size = x.cps.toList := List.take_of_length_le (by simp)
    rw [e]
    exact ret _ _ _ (by k_asm) (by k_asm)
end
end
section
open PySem PySem.W PyProof.Rows PySem.Spec PySem.Calls
theorem kw_Cfix_0 : True := by
  k_with_none
  k_with "my enter" => ((refine' code_def ?k1 ?k2 ?k3 ?k4 ?k5 ?kA ?kF ?kK ?k6 ?k7 ?k8 ?k9 ?kB ?_ ?c2 ?c3 ?c4 ?c5; (case kA => exact rfl); (case kF => exact rfl); (case kK => first | exact rfl | assumption); (case k1 => k_asm); (case k2 => k_asm); (case k3 => k_asm); (case k4 => k_asm); (case k5 => k_asm); (case k6 => k_is); (case k7 => k_is); (case k8 => ktr_room); (case k9 => exact BindsTo.of_eq rfl); (case c5 => decide); (case kB => exact locs rfl); (case c2 => exact rfl); (case c3 => exact rfl); (case c4 => exact rfl); k_whole; intro g'ₓ L'ₓ h'ₓ FG'ₓ F'ₓ N'ₓ B'ₓ X'ₓ T'ₓ; (try dsimp only); (try k_lift B'ₓ); (try k_fold)))
  k_with "call ref" => ((k_here; (with_reducible show wpAny _ _ (PySem.call (Value.ref _) _ _) _ _ _); (refine wpAny_call ?_); k_dflt (walk_at "my enter")))
  k_with "my asm" => (((case k1 => k_asm); (case k2 => k_asm); (case k3 => k_asm); (case k4 => k_asm); (case k5 => k_asm); (case kK => first | exact rfl | assumption); (case kd => ktr_room); (case ku => ktr_units)))
  k_with "execs cons" => (refine wpAny_execs_cons ?_)
  k_with "execs nil" => (refine wpAny_execs_nil ?_)
  k_with "execs cons" => ((refine gen_toks (X := _ + 1 + 1 + 1 + 1) ?_; intro tkₓ htkₓ; (try dsimp only at htkₓ)))
  k_with "execs nil" => ((refine gen_toks (X := _ + 1 + 1 + 1 + 1) ?_; intro tkₓ htkₓ; (try dsimp only at htkₓ)))
  k_with "execs cons" => ((refine' gen_norm ?kS ?kF ?kE ?_; (case kS => with_reducible assumption); (case kF => with_reducible assumption); (case kE => exact rfl); intro tkₓ htkₓ; (try dsimp only at htkₓ)))
  k_with "execs nil" => ((refine' gen_norm ?kS ?kF ?kE ?_; (case kS => with_reducible assumption); (case kF => with_reducible assumption); (case kE => exact rfl); intro tkₓ htkₓ; (try dsimp only at htkₓ)))
  trivial
variable {w : World} {p : Program} {loose : List Str} {mean : ExcName → Option Value} {mg mb : Str → Option Value} {dp un : Nat} {gd : Option (List Code)} {cn : Str} {cs : Scope} {a : Addr} {ccd : Value} {cl : List (Str × Addr)} {outer : List Env} {A₀ : Around} {base h₀ : Heap} {L : Addr} {m : Str → Option Value} {s : Shared} {Q E : Value → Shared → Prop} {news : List (Addr × Obj)}
theorem filled_Cfix : (K91 = K91) ∧ (PySem.Challenge.rw_wn0091_01.most = some 63) := by
  k_fill
  exact ⟨rfl, rfl⟩
theorem pat1_K {P : Params} {h : Heap} (X : (K91 P).In h) : PatAt h 171 170 P1 :=
  ⟨⟨_, _, _, _, _, _, X 171 _ rfl, rfl, rfl, rfl⟩, ⟨_, _, _, X 170 _ rfl, rfl, by decide +kernel⟩⟩
theorem pat2_K {P : Params} {h : Heap} (X : (K91 P).In h) : PatAt h 176 175 P2 :=
  ⟨⟨_, _, _, _, _, _, X 176 _ rfl, rfl, rfl, rfl⟩, ⟨_, _, _, X 175 _ rfl, rfl, by decide +kernel⟩⟩
theorem fr_keeps {h₀ h h' : Heap} {L : Addr} {m : Str → Option Value} (F : Fr h₀ L h m) (hk : ∀ b o, h.get? b = some o → h'.get? b = some o) : Fr h₀ L h' m :=
  ⟨F.ns.keeps hk, fun b o e => hk b o (F.keep b o e), F.above⟩
theorem news_keeps {h₀ h h' : Heap} {L : Addr} {news : List (Addr × Obj)} (N : News h₀ L h news) (hk : ∀ b o, h.get? b = some o → h'.get? b = some o) : News h₀ L h' news :=
  fun p hp => ⟨hk _ _ (N p hp).1, (N p hp).2⟩
theorem sub_K {A : Around} {pat tup : Addr} {code : Array Nat} {x repl : Str} {t tr : Tok} {out : List Nat} (F : Fr h₀ L s.heap m) (N : News h₀ L s.heap news) (P : PatAt s.heap pat tup code) (hx : 4 * x.cps.size + 1 ≤ 1048576) (hr : repl.length ≤ 2) (hb : repl.cps.contains 92 = false)
    (S : SubR code x.cps repl.cps.toList 0 out)
    (h : ∀ z t' h' tk', z.cps.toList = out → Fr h₀ L h' m → News h₀ L h' news → Q (.str z t') { s with heap := h', toks := tk' }) :
    wpAny (Mo w) A (call (.builtin "re.Pattern.sub") [.ref pat, .str repl tr, .str x t]) Q E s :=
  sub_call P hx hr hb S fun z t' h' tk' hz hk => h z t' h' tk' hz (fr_keeps F hk) (news_keeps N hk)
section
theorem kw_Cfix_1 : True := by
  k_with "getMethod ref" => (first | refine getSub (pat1_K (P := World.params _) (Frag.In.keeps (by k_asm) (Fr.keep (by k_asm)))) ?_ | refine getSub (pat2_K (P := World.params _) (Frag.In.keeps (by k_asm) (Fr.keep (by k_asm)))) ?_)
  trivial
theorem fix_ok {x : Str} {t : Tok} {out : List Nat} (B : Below A₀ base outer h₀) (F : Fr h₀ L s.heap m) (X : (K91 w.params).In h₀) (N : News h₀ L s.heap news) (T : Top p loose mean mg mb h₀) (hk : cs.kind = .function) (hd : dp + 9 < recursionLimit) (hu : un + 100 < cLine)
   (hx : 4 * x.cps.size + 1 ≤ 1048576) (S : SubR P2 x.cps [13, 10] 0 out)
   (ret : ∀ z t' h' tk', z.cps.toList = out → Fr h₀ L h' m → News h₀ L h' news → Q (.str z t') { s with heap := h', toks := tk' }) :
   wpAny (Mo w) (ktrTop dp un gd cn cs L a ccd cl outer) (call (.ref 190) [.str x t] []) Q E s := by
  have hS : St s.gens s.drawn s.os := trivial
  refine wpAny_call (code_def (K := K91 w.params) (binds := [(Str.ofString "data", .str x t)]) B F X N T rfl rfl hk (by k_is) (by k_is) (by ktr_room) (BindsTo.of_eq rfl) (locs rfl) (fun g' L' h' FG F' N' B' X' T' => ?_) rfl rfl rfl (by decide))
  k_fold
  k_steps
  refine sub_K F' N' (pat2_K (P := w.params) (Frag.In.keeps X' F'.keep)) hx (by decide +kernel) (by decide +kernel) S ?_
  intro z t' h2 tk2 hz F2 N2
  dsimp only
  k_steps
  exact ret _ _ _ _ hz (by k_asm) (by k_asm)

theorem quote_ok {x : Str} {t : Tok} {o2 out : List Nat} (B : Below A₀ base outer h₀) (F : Fr h₀ L s.heap m) (X : (K91 w.params).In h₀) (N : News h₀ L s.heap news) (T : Top p loose mean mg mb h₀) (hk : cs.kind = .function) (hd : dp + 9 < recursionLimit) (hu : un + 100 < cLine)
   (hx : 4 * x.cps.size + 1 ≤ 1048576) (S : SubR P2 x.cps [13, 10] 0 o2) (hx2 : 4 * o2.length + 1 ≤ 1048576) (S' : SubR P1 o2.toArray [46, 46] 0 out)
   (ret : ∀ z t' h' tk', z.cps.toList = out → Fr h₀ L h' m → News h₀ L h' news → Q (.str z t') { s with heap := h', toks := tk' }) :
   wpAny (Mo w) (ktrTop dp un gd cn cs L a ccd cl outer) (call (.ref 183) [.str x t] []) Q E s := by
  have hS : St s.gens s.drawn s.os := trivial
  refine wpAny_call (code_def (K := K91 w.params) (binds := [(Str.ofString "data", .str x t)]) B F X N T rfl rfl hk (by k_is) (by k_is) (by ktr_room) (BindsTo.of_eq rfl) (locs rfl) (fun g' L' h' FG F' N' B' X' T' => ?_) rfl rfl rfl (by decide))
  k_fold
  k_steps
  refine sub_K F' N' (pat2_K (P := w.params) (Frag.In.keeps X' F'.keep)) hx (by decide +kernel) (by decide +kernel) S ?_
  intro z t' h2 tk2 hz F2 N2
  dsimp only
  have ez : z.cps = o2.toArray := by rw [← hz]
  k_steps
  refine sub_K F2 N2 (pat1_K (P := w.params) (Frag.In.keeps X' F2.keep)) (by rw [ez, List.size_toArray]; exact hx2) (by decide +kernel) (by decide +kernel) (by rw [ez]; exact S') ?_
  intro z' t'' h3 tk3 hz' F3 N3
  dsimp only
  k_steps
  exact ret _ _ _ _ hz' (by k_asm) (by k_asm)
end
end
section
open PySem PySem.W PyProof.Rows PySem.Spec PySem.Calls
theorem kw_Cidx_0 : True := by
  k_with_none
  k_with "my enter" => ((refine' code_def ?k1 ?k2 ?k3 ?k4 ?k5 ?kA ?kF ?kK ?k6 ?k7 ?k8 ?k9 ?kB ?_ ?c2 ?c3 ?c4 ?c5; (case kA => exact rfl); (case kF => exact rfl); (case kK => first | exact rfl | assumption); (case k1 => k_asm); (case k2 => k_asm); (case k3 => k_asm); (case k4 => k_asm); (case k5 => k_asm); (case k6 => k_is); (case k7 => k_is); (case k8 => ktr_room); (case k9 => exact BindsTo.of_eq rfl); (case c5 => decide); (case kB => exact locs rfl); (case c2 => exact rfl); (case c3 => exact rfl); (case c4 => exact rfl); k_whole; intro g'ₓ L'ₓ h'ₓ FG'ₓ F'ₓ N'ₓ B'ₓ X'ₓ T'ₓ; (try dsimp only); (try k_lift B'ₓ); (try k_fold)))
  k_with "call ref" => ((k_here; (with_reducible show wpAny _ _ (PySem.call (Value.ref _) _ _) _ _ _); (refine wpAny_call ?_); k_dflt (walk_at "my enter")))
  k_with "my asm" => (((case k1 => k_asm); (case k2 => k_asm); (case k3 => k_asm); (case k4 => k_asm); (case k5 => k_asm); (case kK => first | exact rfl | assumption); (case kd => ktr_room); (case ku => ktr_units)))
  k_with "execs cons" => (refine wpAny_execs_cons ?_)
  k_with "execs nil" => (refine wpAny_execs_nil ?_)
  k_with "execs cons" => ((refine gen_toks (X := _ + 1 + 1 + 1 + 1) ?_; intro tkₓ htkₓ; (try dsimp only at htkₓ)))
  k_with "execs nil" => ((refine gen_toks (X := _ + 1 + 1 + 1 + 1) ?_; intro tkₓ htkₓ; (try dsimp only at htkₓ)))
  k_with "execs cons" => ((refine' gen_norm ?kS ?kF ?kE ?_; (case kS => with_reducible assumption); (case kF => with_reducible assumption); (case kE => exact rfl); intro tkₓ htkₓ; (try dsimp only at htkₓ)))
  k_with "execs nil" => ((refine' gen_norm ?kS ?kF ?kE ?_; (case kS => with_reducible assumption); (case kF => with_reducible assumption); (case kE => exact rfl); intro tkₓ htkₓ; (try dsimp only at htkₓ)))
  trivial
variable {w : World} {p : Program} {loose : List Str} {mean : ExcName → Option Value} {mg mb : Str → Option Value} {dp un : Nat} {gd : Option (List Code)} {cn : Str} {cs : Scope} {a : Addr} {ccd : Value} {cl : List (Str × Addr)} {outer : List Env} {A₀ : Around} {base h₀ : Heap} {L : Addr} {m : Str → Option Value} {s : Shared} {Q E : Value → Shared → Prop} {news : List (Addr × Obj)}
theorem filled_Cidx : (K91 = K91) ∧ (PySem.Challenge.rw_wn0091_01.most = some 63) := by
  k_fill
  exact ⟨rfl, rfl⟩
theorem enum_item {A : Around} {e it : Addr} {x : Str} {t : Tok} {i c : Nat} {old : Value} {Q : Option Value → Shared → Prop} (he : IsEnum s.heap e it i old) (hit : s.heap.IsStrIter it "str_ascii_iterator" x t i) (hx : x.cps[i]? = some c) (hne : e ≠ it)
    (hQ : ∀ h', IsEnumOut h' e it ((i : Int) + 1) (.str ⟨#[c]⟩ s.toks) s.heap.objs.size → h'.IsStrIter it "str_ascii_iterator" x t (i + 1) →
      h'.get? s.heap.objs.size = some { cls := .type "tuple", data := .seq #[.int i (s.toks + 1), .str ⟨#[c]⟩ s.toks] } → h'.objs.size = s.heap.objs.size + 1 →
      (∀ b o, b ≠ e → b ≠ it → s.heap.get? b = some o → h'.get? b = some o) → Q (some (.ref s.heap.objs.size)) { s with heap := h', toks := s.toks + 2 }) :
    wpAny (Mo w) A (pyNext (.ref e)) Q E s := by
  have hT : s.TypeIs (.ref e) "enumerate" := ⟨_, he, rfl⟩
  obtain ⟨H, g, d, tk, os⟩ := s
  unfold pyNext
  refine wpAny_bind (wpAny_attempt (wpAny_callSpecial?_slot (name := Str.ofString "__next__") hT F.slot_enumerate_next
    (wpAny_call_entry F.slot_enumerate_next hT F.entry_enumerate_next ?_ (F.args_enumerate_next_1 _))))
  have leH : e < H.objs.size := Heap.lt_size he
  have hne' : H.objs.size ≠ e := Nat.ne_of_gt leH
  -- what the iterator below hands out
  show wpAny _ _ (field (.ref e) 2 >>= _) _ _ _
  refine wpAny_bind (wpAny_field he rfl (x := .ref it) rfl ?_)
  refine wpAny_bind (wpAny_nextOf_ascii_item hit hx fun h1 it1 k1 => ?_)
  have e1 : IsEnum h1 e it i old := (k1.2 e hne).trans he
  -- the number
  show wpAny _ _ (field (.ref e) 3 >>= _) _ _ ⟨h1, g, d, tk + 1, os⟩
  refine wpAny_bind (wpAny_field e1 rfl (x := rawInt i) rfl ?_)
  refine wpAny_bind (m := field (.ref e) 4) (wpAny_field e1 rfl (x := .none) rfl ?_)
  refine wpAny_bind (m := mkInt i) (wpAny_mkInt ?_)
  refine wpAny_bind (m := setField (.ref e) 3 (rawInt ((i : Int) + 1))) (wpAny_setField_rec e1 (by simp) fun h2 e2 k2 => ?_)
  refine wpAny_bind (m := setField (.ref e) 4 .none) (wpAny_setField_rec e2 (by simp) fun h3 e3 k3 => ?_)
  replace e3 : IsEnum h3 e it ((i : Int) + 1) old := e3
  replace k2 : Heap.SameBut e h1 h2 := k2
  replace k3 : Heap.SameBut e h2 h3 := k3
  replace k1 : Heap.SameBut it H h1 := k1
  -- the pair
  refine wpAny_bind (m := newTuple [.int i (tk + 1), .str ⟨#[c]⟩ tk]) (wpAny_newTuple ?_)
  have hz3 : h3.objs.size = H.objs.size := by rw [k3.1, k2.1, k1.1]
  show wpAny _ _ (Builtin.SmallTypes.ownedTupleIsFree (.ref e) >>= _) _ _ ⟨h3.push _, g, d, tk + 1 + 1, os⟩
  rw [show ([Value.int i (tk + 1), Value.str ⟨#[c]⟩ tk]).toArray = #[.int i (tk + 1), .str ⟨#[c]⟩ tk] from rfl]
  have t4 := Heap.get?_push_size h3 (o := { cls := .type "tuple", data := .seq #[.int i (tk + 1), .str ⟨#[c]⟩ tk] }) rfl
  have z4 := Heap.size_push h3 { cls := .type "tuple", data := .seq #[.int i (tk + 1), .str ⟨#[c]⟩ tk] }
  have p4 : ∀ b o, h3.get? b = some o → (h3.push { cls := .type "tuple", data := .seq #[.int i (tk + 1), .str ⟨#[c]⟩ tk] }).get? b = some o := fun b o q => Heap.get?_push_of_some _ q
  generalize h3.push { cls := .type "tuple", data := .seq #[.int i (tk + 1), .str ⟨#[c]⟩ tk] } = h4 at t4 z4 p4
  rw [hz3] at t4 z4
  have e4 : IsEnum h4 e it ((i : Int) + 1) old := p4 _ _ e3
  have it4 : h4.IsStrIter it "str_ascii_iterator" x t (i + 1) := by
    obtain ⟨o, ho, r⟩ := it1
    exact ⟨o, p4 _ _ ((k3.2 it (Ne.symm hne)).trans ((k2.2 it (Ne.symm hne)).trans ho)), r⟩
  have old4 : ∀ b o, b ≠ e → b ≠ it → H.get? b = some o → h4.get? b = some o := fun b o q1 q2 q => p4 _ _ ((k3.2 b q1).trans ((k2.2 b q1).trans ((k1.2 b q2).trans q)))
  rw [hz3]
  refine wpAny_bind ?_
  unfold Builtin.SmallTypes.ownedTupleIsFree
  refine wpAny_bind (wpAny_field e4 rfl (x := .none) rfl (wpAny_pure ?_))
  simp only [if_true]
  refine wpAny_bind (wpAny_rule ?_)
  refine wpAny_bind (wpAny_field e4 rfl (x := old) rfl ?_)
  refine wpAny_bind (wpAny_setField_rec e4 (by simp) fun h5 e5 k5 => ?_)
  replace e5 : IsEnum h5 e it ((i : Int) + 1) (.str ⟨#[c]⟩ tk) := e5
  refine wpAny_bind (m := Builtin.SmallTypes.ownedTupleHandOut (.ref e) (.ref H.objs.size)) ?_
  unfold Builtin.SmallTypes.ownedTupleHandOut
  refine wpAny_bind (wpAny_setField_rec e5 (by simp) fun h6 e6 k6 => ?_)
  replace e6 : IsEnumOut h6 e it ((i : Int) + 1) (.str ⟨#[c]⟩ tk) H.objs.size := e6
  refine wpAny_setField_rec e6 (by simp) fun h7 e7 k7 => ?_
  replace e7 : IsEnumOut h7 e it ((i : Int) + 1) (.str ⟨#[c]⟩ tk) H.objs.size := e7
  replace k5 : Heap.SameBut e h4 h5 := k5
  replace k6 : Heap.SameBut e h5 h6 := k6
  replace k7 : Heap.SameBut e h6 h7 := k7
  have all : ∀ b o, b ≠ e → h4.get? b = some o → h7.get? b = some o := fun b o q1 q => (k7.2 b q1).trans ((k6.2 b q1).trans ((k5.2 b q1).trans q))
  refine wpAny_bind (wpAny_letGo (wpAny_pure ⟨_, rfl, wpAny_pure (hQ h7 e7 ?_ (all _ _ hne' t4) ?_ fun b o q1 q2 q => all b o q1 (old4 b o q1 q2 q))⟩))
  · obtain ⟨o, ho, r⟩ := it4
    exact ⟨o, all it o (Ne.symm hne) ho, r⟩
  · rw [k7.1, k6.1, k5.1, z4]

theorem fr_keeps0 {h₀ h h' : Heap} {L : Addr} {m : Str → Option Value} (F : Fr h₀ L h m) (hk : ∀ b o, h.get? b = some o → h'.get? b = some o) : Fr h₀ L h' m :=
  ⟨F.ns.keeps hk, fun b o e => hk b o (F.keep b o e), F.above⟩
theorem news_keeps0 {h₀ h h' : Heap} {L : Addr} {news : List (Addr × Obj)} (N : News h₀ L h news) (hk : ∀ b o, h.get? b = some o → h'.get? b = some o) : News h₀ L h' news :=
  fun p hp => ⟨hk _ _ (N p hp).1, (N p hp).2⟩
theorem News.get' {h₀ h : Heap} {L : Addr} {news : List (Addr × Obj)} (N : News h₀ L h news) {p : Addr × Obj} (hp : p ∈ news) : h.get? p.1 = some p.2 ∧ p.1 ≠ L ∧ h₀.get? p.1 = none := N p hp
theorem loop_enum {A : Around} {env : Env} {x ni nj : Str} {t : Tok} {pi pj pt : Pos} {x1 : Nat} {body orelse : List Stmt} {R : Result → Shared → Prop} {it e : Addr} (T : Nat) (J : Nat → (Str → Option Value) → Prop)
    (hh : A.handled = none) (hxi : env.kindOf ni = some .local) (hxj : env.kindOf nj = some .local) (hk : env.scope.kind = .function)
    (F : Fr h₀ env.locals s.heap m) (N : News h₀ env.locals s.heap news) (hn : ∀ p ∈ news, p.1 ≠ it ∧ p.1 ≠ e) (hI : Heap.IsStrIter s.heap it "str_ascii_iterator" x t 0) (hE : IsEnum s.heap e it 0 .none) (hne : e ≠ it)
    (hL : it ≠ env.locals) (hLe : e ≠ env.locals) (hf : h₀.get? it = none) (hfe : h₀.get? e = none) (hT : T ≤ s.toks) (h0 : J 0 m) (hJ : ∀ i m, J i m → i < x.cps.size)
    (turn : ∀ i c m₁ h tk o oe, x.cps[i]? = some c → J i m₁ → T ≤ tk → Fr h₀ env.locals h (fun y => if y = nj then some (.str ⟨#[c]⟩ tk) else if y = ni then some (.int i (tk + 1)) else m₁ y) → News h₀ env.locals h ((it, o) :: (e, oe) :: news) →
      wpAny (Mo w) A (execs body env) (TurnEnd h₀ env.locals T (J (i + 1)) ((it, o) :: (e, oe) :: news) s R) (notedBy (Mo w) A env fun e s' => R (.error e) s') { s with heap := h, toks := tk + 4 }) :
    codeAny (Mo w) A (.forLoop (.Tuple [.Name ni pi, .Name nj pj] x1 pt) (.ref e) body orelse env) R s := by
  refine codeAny_forLoop_any (fun k s' => ∃ i h tk m' old, s' = { s with heap := h, toks := tk } ∧ T ≤ tk ∧ Fr h₀ env.locals h m' ∧ News h₀ env.locals h news ∧ Heap.IsStrIter h it "str_ascii_iterator" x t i ∧ IsEnum h e it (i : Nat) old ∧ J i m' ∧ k = x.cps.size + 1 - i) ?_ (x.cps.size + 1)
    ⟨0, s.heap, s.toks, m, .none, rfl, hT, F, N, hI, hE, h0, rfl⟩
  rintro k s' ⟨i, h, tk, m', old, rfl, hT', F', N', hI', hE', hJ', rfl⟩
  have hlt := hJ i m' hJ'
  obtain ⟨c, hc⟩ : ∃ c, x.cps[i]? = some c := ⟨_, Array.getElem?_eq_getElem hlt⟩
  refine enum_item hE' hI' hc hne fun h1 e1 i1 t1 z1 k1 => ?_
  have leH : e < h.objs.size := Heap.lt_size hE'
  have liH : it < h.objs.size := by obtain ⟨o, ho, -⟩ := hI'; exact Heap.lt_size ho
  have lLH : env.locals < h.objs.size := F'.ns.lt
  refine wpAny_letOwnedTupleGo_enum e1 fun h2 e2 k2 => ?_
  replace k2 : Heap.SameBut e h1 h2 := k2
  replace z1 : h1.objs.size = h.objs.size + 1 := z1
  have t2 : h2.IsTuple h.objs.size #[.int i (tk + 1), .str ⟨#[c]⟩ tk] := ⟨_, (k2.2 _ (Nat.ne_of_gt leH)).trans t1, rfl, _, rfl⟩
  refine wpAny_assign_Tuple hh t2 rfl rfl fun h3 k3 => ?_
  replace k3 : Heap.ExtBut h2.objs.size h2 h3 := k3
  have z2 : h2.objs.size = h.objs.size + 1 := k2.1.trans z1
  have old3 : ∀ b o, b ≠ e → b ≠ it → h.get? b = some o → h3.get? b = some o := fun b o q1 q2 q =>
    k3 b o (by rw [z2]; exact Nat.ne_of_lt (Nat.lt_succ_of_lt (Heap.lt_size q))) ((k2.2 b q1).trans (k1 b o q1 q2 q))
  have F3 : Fr h₀ env.locals h3 m' := ⟨F'.ns.at fun o q => old3 _ o (Ne.symm hLe) (Ne.symm hL) q, fun b o q => old3 b o (fun z => by rw [z, hfe] at q; cases q) (fun z => by rw [z, hf] at q; cases q) (F'.keep b o q), F'.above⟩
  have N3 : News h₀ env.locals h3 news := fun p hp => ⟨old3 _ _ (hn p hp).2 (hn p hp).1 (N' p hp).1, (N' p hp).2⟩
  obtain ⟨oi, hoi, hic, hid⟩ := i1
  have i3 : h3.get? it = some oi := k3 _ _ (by rw [z2]; exact Nat.ne_of_lt (Nat.lt_succ_of_lt liH)) ((k2.2 it (Ne.symm hne)).trans hoi)
  have e3 : IsEnum h3 e it ((i : Int) + 1) (.str ⟨#[c]⟩ tk) := k3 _ _ (by rw [z2]; exact Nat.ne_of_lt (Nat.lt_succ_of_lt leH)) e2
  show wpAny _ A (do holding [Value.str ⟨#[c]⟩ tk] (assign (.Name ni pi) env (.int i (tk + 1))); do holding [] (assign (.Name nj pj) env (Value.str ⟨#[c]⟩ tk)); pure ()) _ _ _
  refine wpAny_bind (wpAny_holding (wpAny_assign_Name (wpAny_storeName_local hxi F3.ns (fun h4 n4 k4 => ?_) (by rw [hk]; rfl))))
  have F4 := F3.set n4 k4
  refine wpAny_bind (wpAny_holding (wpAny_assign_Name (wpAny_storeName_local hxj F4.ns (fun h5 n5 k5 => wpAny_pure ?_) (by rw [hk]; rfl))))
  have F5 := F4.set n5 k5
  have N5 : News h₀ env.locals h5 ((it, oi) :: (e, { cls := .type "enumerate", dict := none, data := .fields #[.none, .bool false, .ref it, rawInt ((i : Int) + 1), .none, .str ⟨#[c]⟩ tk], slots := #[] }) :: news) := by
    intro p hp
    rcases List.mem_cons.mp hp with rfl | hp
    · exact ⟨(k5.2 it hL).trans ((k4.2 it hL).trans i3), hL, hf⟩
    · rcases List.mem_cons.mp hp with rfl | hp
      · exact ⟨(k5.2 e hLe).trans ((k4.2 e hLe).trans e3), hLe, hfe⟩
      · exact (N3.set k4).set k5 p hp
  refine wpAny_mono (turn i c m' h5 tk oi _ hc hJ' hT' F5 N5) (fun f s₃ h₃ => ?_) fun _ _ e => e
  have fin : (∃ h' tk' m', s₃ = { s with heap := h', toks := tk' } ∧ T ≤ tk' ∧ Fr h₀ env.locals h' m' ∧ News h₀ env.locals h' ((it, oi) :: (e, { cls := .type "enumerate", dict := none, data := .fields #[.none, .bool false, .ref it, rawInt ((i : Int) + 1), .none, .str ⟨#[c]⟩ tk], slots := #[] }) :: news) ∧ J (i + 1) m') →
      ∃ k', k' < x.cps.size + 1 - i ∧ ∃ i' h tk m' old, s₃ = { s with heap := h, toks := tk } ∧ T ≤ tk ∧ Fr h₀ env.locals h m' ∧ News h₀ env.locals h news ∧ Heap.IsStrIter h it "str_ascii_iterator" x t i' ∧ IsEnum h e it (i' : Nat) old ∧ J i' m' ∧ k' = x.cps.size + 1 - i' := by
    rintro ⟨h₄, tk₄, m₄, rfl, hT₄, F₄, N₄, hJ₄⟩
    refine ⟨x.cps.size + 1 - (i + 1), by omega, i + 1, h₄, tk₄, m₄, .str ⟨#[c]⟩ tk, rfl, hT₄, F₄, fun p hp => N₄ p (.tail _ (.tail _ hp)), ⟨oi, (N₄ _ (.head _)).1, hic, hid⟩, ?_, hJ₄, rfl⟩
    have := (N₄ _ (.tail _ (.head _))).1
    rw [show ((i + 1 : Nat) : Int) = (i : Int) + 1 by push_cast; rfl]
    exact this
  cases f with
  | next => exact fin h₃
  | cont => exact fin h₃
  | brk => exact h₃
  | ret v => exact h₃

section
theorem kw_Cidx_1 : True := by
  k_with "call type:enumerate" => ((refine call_enumerate_str ?_; intro h1 e1 i1 z1 k1))
  k_with "exec For Tuple" => (with_unfolding_all refine wpAny_For ?_)
  k_with "compareOp Is str str" => ((refine is_str (P := World.params _) (Frag.In.keeps (by k_asm) (Fr.keep (by k_asm))) ?kt ?ku ?kv ?_; (case kt => omega); (case ku => omega); (case kv => omega); intro bₓ hbₓ))
  trivial
theorem idx_ok {x : Str} {t : Tok} {t2 : Nat} {k : Nat} (B : Below A₀ base outer h₀) (F : Fr h₀ L s.heap m) (X : (K91 w.params).In h₀) (N : News h₀ L s.heap news) (T : Top p loose mean mg mb h₀) (hk : cs.kind = .function) (hd : dp + 9 < recursionLimit) (hu : un + 100 < cLine)
   (ha : x.cps.all (· < 128) = true) (ht : t2 ≠ 0) (ht2 : t2 < s.toks) (hk1 : x.cps[k]? = some 40) (hk0 : ∀ i, i < k → x.cps[i]? ≠ some 40)
   (ret : ∀ t' h' tk', Fr h₀ L h' m → News h₀ L h' news → Q (.int k t') { s with heap := h', toks := tk' }) :
   wpAny (Mo w) (ktrTop dp un gd cn cs L a ccd cl outer) (call (.ref 159) [.str x t, .str (Str.ofString "(") t2] []) Q E s := by
  have hS : St s.gens s.drawn s.os := trivial
  refine wpAny_call (code_def (K := K91 w.params) (binds := [(Str.ofString "a", .str x t), (Str.ofString "b", .str (Str.ofString "(") t2)]) B F X N T rfl rfl hk (by k_is) (by k_is) (by ktr_room) (BindsTo.of_eq rfl) (locs rfl) (fun g' L' h' FG F' N' B' X' T' => ?_) rfl rfl rfl (by decide))
  refine gen_toks ?_
  intro tk0 htk0
  simp only [List.length_cons, List.length_nil] at htk0
  k_fold
  k_steps
  replace z1 : h1.objs.size = h'.objs.size + 2 := z1
  replace k1 : ∀ b o, h'.get? b = some o → h1.get? b = some o := k1
  replace e1 : IsEnum h1 (h'.objs.size + 1) h'.objs.size 0 .none := e1
  replace i1 : h1.IsStrIter h'.objs.size "str_ascii_iterator" x t 0 := by
    have : strIterType x = "str_ascii_iterator" := by unfold strIterType; rw [ha]; rfl
    rw [this] at i1; exact i1
  refine wpAny_pyIter_enum e1 ?_
  have F1 := fr_keeps0 F' k1
  have N1 := news_keeps0 N' k1
  have hfree : ∀ b, h'.objs.size ≤ b → h'.get? b = none := fun b hb => by
    cases q : h'.get? b with
    | none => rfl
    | some o => exact absurd (Heap.lt_size q) (Nat.not_lt.mpr hb)
  have hg : ∀ b, h'.objs.size ≤ b → g'.get? b = none := fun b hb => by
    cases q : g'.get? b with
    | none => rfl
    | some o => have := F'.keep b o q; rw [hfree b hb] at this; cases this
  have lL : L' < h'.objs.size := F'.ns.lt
  refine loop_enum (x := x) (t := t) (s := { s with heap := h1, toks := tk0 }) (news := news) s.toks (fun i m => i ≤ k ∧ ∃ ui uj, m = fun y => if y = Str.ofString "j" then uj else if y = Str.ofString "i" then ui else if y = Str.ofString "b" then some (.str (Str.ofString "(") t2) else if y = Str.ofString "a" then some (.str x t) else none) rfl rfl rfl rfl F1 N1 ?_ i1 e1 (Nat.succ_ne_self _) (Nat.ne_of_gt lL) (Nat.ne_of_gt (Nat.lt_succ_of_lt lL)) (hg _ (Nat.le_refl _)) (hg _ (Nat.le_succ _)) ?_ ?_ ?_ ?_
  · exact fun p hp => ⟨Nat.ne_of_lt (Heap.lt_size (N' p hp).1), Nat.ne_of_lt (Nat.lt_succ_of_lt (Heap.lt_size (N' p hp).1))⟩
  · show s.toks ≤ tk0
    omega
  · refine ⟨Nat.zero_le _, none, none, ?_⟩
    funext y
    by_cases h1 : y = Str.ofString "j"
    · subst h1; rfl
    · rw [if_neg h1]
      by_cases h2 : y = Str.ofString "i"
      · subst h2; rfl
      · rw [if_neg h2]
        by_cases h3 : y = Str.ofString "b"
        · subst h3; rfl
        · rw [if_neg h3]
          by_cases h4 : y = Str.ofString "a"
          · subst h4; rfl
          · rw [if_neg h4]
            have e3 : (y == Str.ofString "b") = false := by simp [h3]
            have e4 : (y == Str.ofString "a") = false := by simp [h4]
            simp only [List.reverse_cons, List.reverse_nil, List.nil_append, List.cons_append, List.lookup_cons, List.lookup_nil, e3, e4]
  · rintro i m ⟨hi, -⟩
    have := (Array.getElem?_eq_some_iff.mp hk1).1
    omega
  · rintro i c _ h tk o oe hc ⟨hi, ui, uj, rfl⟩ hT F3 N3
    have hT2 : t2 < tk := by omega
    try dsimp only
    k_steps
    · rename_i hb1
      have h40 : c = 40 := (dot_str (z := "(") (by decide +kernel)).mp (Classical.byContradiction fun q => by have := hbₓ q; rw [this] at hb1; cases hb1)
      have hik : i = k := by
        by_cases q : i < k
        · exact absurd (h40 ▸ hc) (hk0 i q)
        · omega
      subst hik
      change qk (Flow.ret (Value.int (i : Nat) (tk + 1))) _
      k_steps
      exact ret _ _ _ (by k_asm) (fun p hp => News.get' (by assumption) (.tail _ (.tail _ hp)))
    · rename_i hb1 hb2
      have h40 : c = 40 := (dot_str (z := "(") (by decide +kernel)).mp (by simpa using hb2)
      have hik : i = k := by
        by_cases q : i < k
        · exact absurd (h40 ▸ hc) (hk0 i q)
        · omega
      subst hik
      change qk (Flow.ret (Value.int (i : Nat) (tk + 1))) _
      k_steps
      exact ret _ _ _ (by k_asm) (fun p hp => News.get' (by assumption) (.tail _ (.tail _ hp)))
    · rename_i hb1 hb2
      have h40 : ¬ c = 40 := fun q => by rw [(dot_str (z := "(") (by decide +kernel)).mpr q] at hb2; simp at hb2
      have hik : i ≠ k := fun q => h40 (by rw [q, hk1] at hc; exact (Option.some.inj hc).symm)
      refine ⟨_, _, _, rfl, ?_, F3, N3, by omega, some (.int (i : Nat) (tk + 1)), some (.str ⟨#[c]⟩ tk), ?_⟩
      · show _ ≤ tkₓ
        omega
      · funext y
        by_cases h1 : y = Str.ofString "j" <;> by_cases h2 : y = Str.ofString "i" <;> simp [h1, h2]
end
end
section
open PySem PySem.W PyProof.Rows PySem.Spec PySem.Calls
theorem kw_Cpar_0 : True := by
  k_with_none
  k_with "my enter" => ((refine' code_def ?k1 ?k2 ?k3 ?k4 ?k5 ?kA ?kF ?kK ?k6 ?k7 ?k8 ?k9 ?kB ?_ ?c2 ?c3 ?c4 ?c5; (case kA => exact rfl); (case kF => exact rfl); (case kK => first | exact rfl | assumption); (case k1 => k_asm); (case k2 => k_asm); (case k3 => k_asm); (case k4 => k_asm); (case k5 => k_asm); (case k6 => k_is); (case k7 => k_is); (case k8 => ktr_room); (case k9 => exact BindsTo.of_eq rfl); (case c5 => decide); (case kB => exact locs rfl); (case c2 => exact rfl); (case c3 => exact rfl); (case c4 => exact rfl); k_whole; intro g'ₓ L'ₓ h'ₓ FG'ₓ F'ₓ N'ₓ B'ₓ X'ₓ T'ₓ; (try dsimp only); (try k_lift B'ₓ); (try k_fold)))
  k_with "call ref" => ((k_here; (with_reducible show wpAny _ _ (PySem.call (Value.ref _) _ _) _ _ _); (refine wpAny_call ?_); k_dflt (walk_at "my enter")))
  k_with "my asm" => (((case k1 => k_asm); (case k2 => k_asm); (case k3 => k_asm); (case k4 => k_asm); (case k5 => k_asm); (case kK => first | exact rfl | assumption); (case kd => ktr_room); (case ku => ktr_units)))
  k_with "execs cons" => (refine wpAny_execs_cons ?_)
  k_with "execs nil" => (refine wpAny_execs_nil ?_)
  k_with "execs cons" => ((refine gen_toks (X := _ + 1 + 1 + 1 + 1) ?_; intro tkₓ htkₓ; (try dsimp only at htkₓ)))
  k_with "execs nil" => ((refine gen_toks (X := _ + 1 + 1 + 1 + 1) ?_; intro tkₓ htkₓ; (try dsimp only at htkₓ)))
  k_with "execs cons" => ((refine' gen_norm ?kS ?kF ?kE ?_; (case kS => with_reducible assumption); (case kF => with_reducible assumption); (case kE => exact rfl); intro tkₓ htkₓ; (try dsimp only at htkₓ)))
  k_with "execs nil" => ((refine' gen_norm ?kS ?kF ?kE ?_; (case kS => with_reducible assumption); (case kF => with_reducible assumption); (case kE => exact rfl); intro tkₓ htkₓ; (try dsimp only at htkₓ)))
  trivial
variable {w : World} {p : Program} {loose : List Str} {mean : ExcName → Option Value} {mg mb : Str → Option Value} {dp un : Nat} {gd : Option (List Code)} {cn : Str} {cs : Scope} {a : Addr} {ccd : Value} {cl : List (Str × Addr)} {outer : List Env} {A₀ : Around} {base h₀ : Heap} {L : Addr} {m : Str → Option Value} {s : Shared} {Q E : Value → Shared → Prop} {news : List (Addr × Obj)}
theorem filled_Cpar : (K91 = K91) ∧ (PySem.Challenge.rw_wn0091_01.most = some 63) := by
  k_fill
  exact ⟨rfl, rfl⟩
section
variable {A : Around} {x y : Str} {t u v : Tok} {i k : Int}
theorem find_eq (e : Txt.find x y = k) (h : ∀ t' k', Q (.int k t') { s with toks := k' }) : wpAny (Mo w) A (call (.builtin "str.find") [.str x t, .str y u]) Q E s := SC.find (by rw [e]; exact h _ _)
theorem find3_eq (e : Txt.find3 x y i = k) (h : ∀ t' k', Q (.int k t') { s with toks := k' }) : wpAny (Mo w) A (call (.builtin "str.find") [.str x t, .str y u, .int i v]) Q E s := SC.find3 (by rw [e]; exact h _ _)
theorem item_eq {value slice : Expr} {c : Nat} (e : Txt.charAt x i = some c) (hi : -100 ≤ i ∧ i ≤ 100) (h : ∀ t' k', Q (.str ⟨#[c]⟩ t') { s with toks := k' })
    (hs : subscripted slice false (.str x t) (.int i u) = operate [.str x t, .int i u] (getItem (.str x t) (.int i u)) := by with_unfolding_all rfl)
    (ht : ∀ r, letTemporaryGo value (.str x t) r = pure () := by intro _; with_unfolding_all rfl) :
    wpAny (Mo w) A (subscriptTail value slice (.str x t) (.int i u)) Q E s :=
  tail_of_ItemOn (SB.item (fitsSsize_of (N := 9223372036854775808) (by omega) (by omega) (Int.le_refl _)) (by rw [e]; rfl) (by
    have : Txt.item x i = ⟨#[c]⟩ := by unfold Txt.item; rw [e]; rfl
    rw [this]; exact h _ _)) hs ht
theorem split_eq {ps qs : List Str} {h₀ : Heap} {L : Addr} {m : Str → Option Value} {news : List (Addr × Obj)} (e : Txt.split x y = ps ∨ Txt.split x y = qs) (hy : (y.length == 0) = false) (F : Fr h₀ L s.heap m) (N : News h₀ L s.heap news) (hsz : x.length + 2 ≤ sizeLine)
    (h : ∀ D l h' k, (Txt.split x y = ps ∧ l.map (·.1) = ps ∨ Txt.split x y = qs ∧ l.map (·.1) = qs) → Fr h₀ L h' m → News h₀ L h' ((D, listOf (strValues l).toArray 0) :: news) → (∀ p ∈ news, p.1 < D) → Q (.ref D) { s with heap := h', toks := k }) :
    wpAny (Mo w) A (call (.builtin "str.split") [.str x t, .str y u]) Q E s :=
  KSpl.split1 (x := x) (y := y) F N hy (fun D l h' k e1 _ F' N' lt => h D l h' k (e.imp (fun e => ⟨e, e1.trans e⟩) fun e => ⟨e, e1.trans e⟩) F' N' lt) hsz
end
theorem allLt_mem {d : Addr} {l : List (Addr × Obj)} (h : AllLt d l) : ∀ p ∈ l, p.1 < d := by
  induction l with
  | nil => intro p hp; cases hp
  | cons a l ih =>
    intro p hp
    rcases List.mem_cons.mp hp with rfl | hp
    · exact h.1
    · exact ih h.2 p hp
theorem raisedS_sub {base G : Heap} {l : List Env} {e t : Addr} {cls : Value} {vs : List Value} {news news' : List (Addr × Obj)} {h : Heap} (R : RaisedS base G l e cls t vs news h) (hs : ∀ q ∈ news', q ∈ news) : RaisedS base G l e cls t vs news' h := by
  obtain ⟨⟨B, h1, h2, h3, h4⟩, h5⟩ := R
  exact ⟨⟨B, h1, h2, fun q hq => h3 q (hs q hq), h4⟩, h5⟩
theorem of_bne {a b : Str} (h : (a != b) = false) : a = b := by simpa using h
theorem ne_one {c d : Nat} (h : ((⟨#[c]⟩ : Str) != ⟨#[d]⟩) = true) : c ≠ d := fun q => by subst q; simp at h
theorem eq_one {c d : Nat} (h : ((⟨#[c]⟩ : Str) != ⟨#[d]⟩) = false) : c = d := by simpa using h
noncomputable def ParEnd (E : Value → Shared → Prop) (base h₀ : Heap) (env : Env) (outer : List Env) (L : Addr) (m : Str → Option Value) (news : List (Addr × Obj)) (C : Addr) (vs : List Value) (s : Shared) : Prop :=
  ∀ e t' h' G tk', Fr h₀ L G m → RaisedS base G (env :: outer) e (.ref C) t' vs news h' → G.UpToSlots h' → E (.ref e) { s with heap := h', toks := tk' }
section
theorem kw_Cpar_1 : True := by
  k_with "call builtin:str.find" => (first
    | (refine find_eq (by with_reducible assumption) ?_; intro _ _)
    | (refine find3_eq (by with_reducible assumption) ?_; intro _ _))
  k_with "subscriptTail" => (((with_reducible show wpAny _ _ (subscriptTail _ _ (Value.str _ _) (Value.int _ _)) _ _ _); refine item_eq (by with_reducible assumption) (by omega) ?_; intro _ _))
  k_with "call builtin:str.split" => ((refine split_eq (by with_reducible assumption) rfl (by k_asm) (by k_asm) (Nat.le_trans (Nat.add_le_add_right (Nat.le_trans (Txt.slice_le _ _ _) (by assumption)) 2) (by decide)) ?_; intro D'ₓ l'ₓ h'ₓ k'ₓ e'ₓ F'ₓ N'ₓ l1ₓ; (try k_lt l1ₓ); rcases e'ₓ with ⟨hs'ₓ, e'ₓ⟩ | ⟨hs'ₓ, e'ₓ⟩ <;> (kspl_open e'ₓ; simp only [strValues, List.map_cons, List.map_nil] at N'ₓ)))
  k_with "call type:int" => ((refine KIN.call_text (by with_reducible assumption) (Nat.le_trans (by assumption) (by decide)) ?_))
  k_with "leaving ref" => ((k_here; (refine leave_raiseS (by assumption) (by assumption) (by assumption) (by k_asm) ?_); intro h'ₓ t'ₓ S'ₓ R'ₓ U'ₓ))
  trivial
theorem par_ok {x : Str} {t : Tok} {D : Addr} {d : Int} {t2 t3 : Tok} {c c2 : Nat} {r q : Int} {p0 p1 p2 p3 p4 p5 : Str} (B : Below A₀ base outer h₀) (F : Fr h₀ L s.heap m) (X : (K91 w.params).In h₀) (N : News h₀ L s.heap ((D, { cls := .type "tuple", data := .seq #[.int d t2, .int 21 t3] }) :: news)) (T : Top p loose mean mg mb h₀) (hk : cs.kind = .function) (hd : dp + 9 < recursionLimit) (hu : un + 100 < cLine)
   (hx : x.length ≤ 100) (hl : Txt.find x (Str.ofString "(") = 4) (hr : Txt.find3 x (Str.ofString ")") (4 + 1) = r) (h0 : 0 ≤ r) (h1 : r ≤ 100) (hc1 : Txt.charAt x (4 + 1) = some c) (hc2 : Txt.charAt x (r - 1) = some c2)
   (hs : Txt.split (Txt.slice x (some (4 + 1)) (some r)) ⟨#[c]⟩ = [p0, p1, p2, p5] ∨ Txt.split (Txt.slice x (some (4 + 1)) (some r)) ⟨#[c]⟩ = [p0, p1, p2, p3, p4]) (hi : PySem.intText? p3 = some q) (h3 : p3.length ≤ 100)
   (rc : Txt.slice x none (some 3) ≠ Str.ofString "229" → ParEnd E base h₀ (envX cn cs L a ccd cl) outer L m ((D, { cls := .type "tuple", data := .seq #[.int d t2, .int 21 t3] }) :: news) 54 [.str x t] s)
   (rm : Txt.slice x none (some 3) = Str.ofString "229" → (c ≠ c2 ∨ Txt.split (Txt.slice x (some (4 + 1)) (some r)) ⟨#[c]⟩ = [p0, p1, p2, p5]) → ParEnd E base h₀ (envX cn cs L a ccd cl) outer L m ((D, { cls := .type "tuple", data := .seq #[.int d t2, .int 21 t3] }) :: news) 66 [.str x t] s)
   (ro : Txt.slice x none (some 3) = Str.ofString "229" → c = c2 → Txt.split (Txt.slice x (some (4 + 1)) (some r)) ⟨#[c]⟩ = [p0, p1, p2, p3, p4] → ∀ D' t4 t5 h' tk', Fr h₀ L h' m → News h₀ L h' ((D', { cls := .type "tuple", data := .seq #[.int d t4, .int q t5] }) :: (D, { cls := .type "tuple", data := .seq #[.int d t2, .int 21 t3] }) :: news) → (∀ p ∈ (D, ({ cls := .type "tuple", data := .seq #[.int d t2, .int 21 t3] } : Obj)) :: news, p.1 < D') → Q (.ref D') { s with heap := h', toks := tk' }) :
   wpAny (Mo w) (ktrTop dp un gd cn cs L a ccd cl outer) (call (.ref 75) [.str x t, .ref D] []) Q E s := by
  have hS : St s.gens s.drawn s.os := trivial
  refine wpAny_call (code_def (K := K91 w.params) (binds := [(Str.ofString "resp", .str x t), (Str.ofString "peer", .ref D)]) B F X N T rfl rfl hk (by k_is) (by k_is) (by ktr_room) (BindsTo.of_eq rfl) (locs rfl) (fun g' L' h' FG F' N' B' X' T' => ?_) rfl rfl rfl (by decide))
  k_fold
  k_steps
  · exact rc (bne_iff_ne.mp (by assumption)) _ _ _ _ _ FG (by assumption) (by assumption)
  · exact rm (of_bne (by assumption)) (.inl (ne_one (by assumption))) _ _ _ _ _ FG (by assumption) (by assumption)
  · exact rm (of_bne (by assumption)) (.inr (by assumption)) _ _ _ _ _ FG (raisedS_sub (by assumption) fun q hq => .tail _ hq) (by assumption)
  · exact ro (of_bne (by assumption)) (eq_one (by assumption)) (by assumption) _ _ _ _ _ (by assumption) (fun p hp => News.get' (by assumption) (by
      rcases List.mem_cons.mp hp with rfl | hp
      · exact .head _
      · exact .tail _ (.tail _ hp))) (fun p hp => by
      with_reducible rename @LT.lt Nat _ _ _ ∧ @LT.lt Nat _ _ _ ∧ AllLt _ _ => hl
      rcases List.mem_cons.mp hp with rfl | hp
      · exact hl.2.1
      · exact allLt_mem hl.2.2 p hp)
end

noncomputable def ParOk (x : Str) (d : Nat) (num : Int) (ev : Ev) : Prop :=
  ∃ (c c2 : Nat) (r q : Int) (p0 p1 p2 p3 p4 p5 : Str), x.length ≤ 100 ∧ Txt.find x (Str.ofString "(") = 4 ∧ Txt.find3 x (Str.ofString ")") (4 + 1) = r ∧ 0 ≤ r ∧ r ≤ 100 ∧ Txt.charAt x (4 + 1) = some c ∧ Txt.charAt x (r - 1) = some c2 ∧
    (Txt.split (Txt.slice x (some (4 + 1)) (some r)) ⟨#[c]⟩ = [p0, p1, p2, p5] ∨ Txt.split (Txt.slice x (some (4 + 1)) (some r)) ⟨#[c]⟩ = [p0, p1, p2, p3, p4]) ∧ PySem.intText? p3 = some q ∧ p3.length ≤ 100 ∧
    (Txt.slice x none (some 3) ≠ Str.ofString "229" → ev = .code) ∧
    (Txt.slice x none (some 3) = Str.ofString "229" → (c ≠ c2 ∨ Txt.split (Txt.slice x (some (4 + 1)) (some r)) ⟨#[c]⟩ = [p0, p1, p2, p5]) → ev = .marks) ∧
    (Txt.slice x none (some 3) = Str.ofString "229" → c = c2 → Txt.split (Txt.slice x (some (4 + 1)) (some r)) ⟨#[c]⟩ = [p0, p1, p2, p3, p4] → ∃ pl, ev = .ok num pl ∧ ((d : Int) + q).fmod 3 = (pl : Int) ∧ (pl = 0 ∨ pl = 1 ∨ pl = 2))
theorem par_row {x : Str} {t : Tok} {D : Addr} {d : Nat} {num : Int} {ev : Ev} {t2 t3 : Tok} (B : Below A₀ base outer h₀) (F : Fr h₀ L s.heap m) (X : (K91 w.params).In h₀) (N : News h₀ L s.heap ((D, { cls := .type "tuple", data := .seq #[.int (d : Int) t2, .int 21 t3] }) :: news)) (T : Top p loose mean mg mb h₀) (hk : cs.kind = .function) (hd : dp + 9 < recursionLimit) (hu : un + 100 < cLine)
   (hp : ParOk x d num ev)
   (rc : ev = .code → ParEnd E base h₀ (envX cn cs L a ccd cl) outer L m ((D, { cls := .type "tuple", data := .seq #[.int (d : Int) t2, .int 21 t3] }) :: news) 54 [.str x t] s)
   (rm : ev = .marks → ParEnd E base h₀ (envX cn cs L a ccd cl) outer L m ((D, { cls := .type "tuple", data := .seq #[.int (d : Int) t2, .int 21 t3] }) :: news) 66 [.str x t] s)
   (ro : ∀ (pl : Nat) (q : Int), ev = .ok num pl → Hide (((d : Int) + q).fmod 3 = (pl : Int)) → pl ≤ 2 → ∀ D' t4 t5 h' tk', Fr h₀ L h' m → News h₀ L h' ((D', { cls := .type "tuple", data := .seq #[.int (d : Int) t4, .int q t5] }) :: (D, { cls := .type "tuple", data := .seq #[.int (d : Int) t2, .int 21 t3] }) :: news) → (∀ p ∈ (D, ({ cls := .type "tuple", data := .seq #[.int (d : Int) t2, .int 21 t3] } : Obj)) :: news, p.1 < D') → Q (.ref D') { s with heap := h', toks := tk' }) :
   wpAny (Mo w) (ktrTop dp un gd cn cs L a ccd cl outer) (call (.ref 75) [.str x t, .ref D] []) Q E s := by
  obtain ⟨c, c2, r, q, p0, p1, p2, p3, p4, p5, hx, hl, hr, h0, h1, hc1, hc2, hs, hi, h3, ec, em, eo⟩ := hp
  refine par_ok B F X N T hk hd hu hx hl hr h0 h1 hc1 hc2 hs hi h3 (fun a => rc (ec a)) (fun a b => rm (em a b)) fun a b c D' t4 t5 h' tk' F' N' l1 => ?_
  obtain ⟨pl, e1, e2, e3⟩ := eo a b c
  exact ro pl q e1 e2 (by omega) D' t4 t5 h' tk' F' N' l1
end
section
open PySem PySem.W PyProof.Rows PySem.Spec PySem.Calls
theorem kw_Crow_0 : True := by
  k_with_none
  k_with "my enter" => ((refine' code_def ?k1 ?k2 ?k3 ?k4 ?k5 ?kA ?kF ?kK ?k6 ?k7 ?k8 ?k9 ?kB ?_ ?c2 ?c3 ?c4 ?c5; (case kA => exact rfl); (case kF => exact rfl); (case kK => first | exact rfl | assumption); (case k1 => k_asm); (case k2 => k_asm); (case k3 => k_asm); (case k4 => k_asm); (case k5 => k_asm); (case k6 => k_is); (case k7 => k_is); (case k8 => ktr_room); (case k9 => exact BindsTo.of_eq rfl); (case c5 => decide); (case kB => exact locs rfl); (case c2 => exact rfl); (case c3 => exact rfl); (case c4 => exact rfl); k_whole; intro g'ₓ L'ₓ h'ₓ FG'ₓ F'ₓ N'ₓ B'ₓ X'ₓ T'ₓ; (try dsimp only); (try k_lift B'ₓ); (try k_fold)))
  k_with "call ref" => ((k_here; (with_reducible show wpAny _ _ (PySem.call (Value.ref _) _ _) _ _ _); (refine wpAny_call ?_); k_dflt (walk_at "my enter")))
  k_with "my asm" => (((case k1 => k_asm); (case k2 => k_asm); (case k3 => k_asm); (case k4 => k_asm); (case k5 => k_asm); (case kK => first | exact rfl | assumption); (case kd => ktr_room); (case ku => ktr_units)))
  k_with "execs cons" => (refine wpAny_execs_cons ?_)
  k_with "execs nil" => (refine wpAny_execs_nil ?_)
  k_with "execs cons" => ((refine gen_toks (X := _ + 1 + 1 + 1 + 1) ?_; intro tkₓ htkₓ; (try dsimp only at htkₓ)))
  k_with "execs nil" => ((refine gen_toks (X := _ + 1 + 1 + 1 + 1) ?_; intro tkₓ htkₓ; (try dsimp only at htkₓ)))
  k_with "execs cons" => ((refine' gen_norm ?kS ?kF ?kE ?_; (case kS => with_reducible assumption); (case kF => with_reducible assumption); (case kE => exact rfl); intro tkₓ htkₓ; (try dsimp only at htkₓ)))
  k_with "execs nil" => ((refine' gen_norm ?kS ?kF ?kE ?_; (case kS => with_reducible assumption); (case kF => with_reducible assumption); (case kE => exact rfl); intro tkₓ htkₓ; (try dsimp only at htkₓ)))
  trivial
variable {w : World} {p : Program} {loose : List Str} {mean : ExcName → Option Value} {mg mb : Str → Option Value} {dp un : Nat} {gd : Option (List Code)} {cn : Str} {cs : Scope} {a : Addr} {ccd : Value} {cl : List (Str × Addr)} {outer : List Env} {A₀ : Around} {base h₀ : Heap} {L : Addr} {m : Str → Option Value} {s : Shared} {Q E : Value → Shared → Prop} {news : List (Addr × Obj)}
theorem filled_Crow : (K91 = K91) ∧ (PySem.Challenge.rw_wn0091_01.most = some 63) := by
  k_fill
  exact ⟨rfl, rfl⟩
section
variable {A : Around} {x y : Str} {t u v : Tok} {i k : Int}
theorem add_le {n k : Nat} (hx : x.length ≤ n) (hy : y.length ≤ k) (hn : n + k ≤ 1000) (h : ∀ z t' tk, z = x ++ y → z.length ≤ n + k → Q (.str z t') { s with toks := tk }) : wpAny (Mo w) A (binaryOp .Add (.str x t) (.str y u)) Q E s :=
  PyProof.Rows.add_str (fun t' tk => h _ _ _ rfl (by
    have : (x ++ y).length = x.length + y.length := Array.size_append
    omega)) (by
    have : (2000 : Nat) ≤ sizeLine := by decide
    omega)
end
noncomputable def rowRaw (v c : Nat) : Str := Txt.mul (Str.ofString ".") (((v : Int).fdiv 72).fmod 3) ++ (if (v : Int).fmod 8 = 5 then Str.ofString "228 (" else Str.ofString "229 (") ++ (if (v : Int).fmod 8 = 6 then (⟨#[c]⟩ : Str) ++ ⟨#[c]⟩ else (⟨#[c]⟩ : Str) ++ ⟨#[c]⟩ ++ ⟨#[c]⟩) ++ Str.ofString (toString (((v : Int).fdiv 216).fmod 100)) ++ (if (v : Int).fmod 8 = 7 then (⟨#[c]⟩ : Str) ++ Str.ofString ":" else ⟨#[c]⟩) ++ Str.ofString ")"
section
theorem kw_Crow_1 : True := by
  k_with "subscriptTail" => (((with_reducible show wpAny _ _ (subscriptTail _ _ (Value.str _ _) (Value.int _ _)) _ _ _); refine item_eq (by with_reducible assumption) (by omega) ?_; intro _ _))
  k_with "binaryOp Add str str" => ((refine add_le (by first | (with_reducible assumption) | exact Nat.le_of_ble_eq_true (n := 8) rfl) (by first | (with_reducible assumption) | exact Nat.le_of_ble_eq_true (n := 8) rfl) (by decide) ?_; intro zₓ t'ₓ tkₓ hzₓ hzlₓ))
  trivial
theorem ite_join {A : Around} {c : Prop} {_ : Decidable c} {t e : Sem Value} {X1 X2 : Str} {n : Nat}
    (h1 : wpAny (Mo w) A t (fun y s' => ∃ u k, y = Value.str X1 u ∧ s' = { s with toks := k }) (fun _ _ => False) s)
    (h2 : wpAny (Mo w) A e (fun y s' => ∃ u k, y = Value.str X2 u ∧ s' = { s with toks := k }) (fun _ _ => False) s) (l1 : X1.length ≤ n) (l2 : X2.length ≤ n)
    (h : ∀ z u k, z = (if c then X1 else X2) → z.length ≤ n → Q (.str z u) { s with toks := k }) : if c then wpAny (Mo w) A t Q E s else wpAny (Mo w) A e Q E s := by
  by_cases hc : c
  · rw [if_pos hc]
    refine wpAny_mono h1 (fun y s' h' => ?_) fun _ _ h' => h'.elim
    obtain ⟨u, k, rfl, rfl⟩ := h'
    exact h _ _ _ (if_pos hc).symm l1
  · rw [if_neg hc]
    refine wpAny_mono h2 (fun y s' h' => ?_) fun _ _ h' => h'.elim
    obtain ⟨u, k, rfl, rfl⟩ := h'
    exact h _ _ _ (if_neg hc).symm l2
theorem kw_Crow_2 : True := by
  k_with "ite" => (refine stop_ ?_)
  trivial
theorem row_raw {v : Nat} {t : Tok} {c : Nat} (B : Below A₀ base outer h₀) (F : Fr h₀ L s.heap m) (X : (K91 w.params).In h₀) (N : News h₀ L s.heap news) (T : Top p loose mean mg mb h₀) (hk : cs.kind = .function) (hd : dp + 9 < recursionLimit) (hu : un + 100 < cLine)
   (h1 : v < 1000000) (hm : Txt.charAt (Str.ofString "&|-") (((v : Int).fdiv 8).fmod 3) = some c) (hm0 : -100 ≤ ((v : Int).fdiv 8).fmod 3 ∧ ((v : Int).fdiv 8).fmod 3 ≤ 100)
   (hcl : (⟨#[c]⟩ : Str).length ≤ 1)
   (hpl : (Str.ofString (toString (((v : Int).fdiv 216).fmod 100))).length ≤ 2) (hdl : (Txt.mul (Str.ofString ".") (((v : Int).fdiv 72).fmod 3)).length ≤ 2)
   (ret : ∀ y t' h' tk', y = rowRaw v c → Fr h₀ L h' m → News h₀ L h' news → Q (.str y t') { s with heap := h', toks := tk' }) :
   wpAny (Mo w) (ktrTop dp un gd cn cs L a ccd cl outer) (call (.ref 207) [.int v t] []) Q E s := by
  have hS : St s.gens s.drawn s.os := trivial
  refine wpAny_call (code_def (K := K91 w.params) (binds := [(Str.ofString "v", .int v t)]) B F X N T rfl rfl hk (by k_is) (by k_is) (by ktr_room) (BindsTo.of_eq rfl) (locs rfl) (fun g' L' h' FG F' N' B' X' T' => ?_) rfl rfl rfl (by decide))
  k_fold
  k_steps
  refine go_ ?_
  refine ite_join (X1 := Str.ofString "228 (") (X2 := Str.ofString "229 (") (n := 5) ?a1 ?b1 (by decide +kernel) (by decide +kernel) ?_
  case a1 => k_steps
  case b1 => k_steps
  intro z1 u1 k1 hz1 hl1
  k_steps
  refine go_ ?_
  refine ite_join (X1 := ⟨#[c]⟩ ++ ⟨#[c]⟩) (X2 := ⟨#[c]⟩ ++ ⟨#[c]⟩ ++ ⟨#[c]⟩) (n := 3) ?a2 ?b2 ?d2 ?e2 ?_
  case a2 => k_steps; all_goals (subst_vars; rfl)
  case b2 => k_steps; all_goals (subst_vars; rfl)
  case d2 => exact Nat.le_of_ble_eq_true rfl
  case e2 => exact Nat.le_of_ble_eq_true rfl
  intro z2 u2 k2 hz2 hl2
  k_steps
  refine go_ ?_
  refine ite_join (X1 := ⟨#[c]⟩ ++ Str.ofString ":") (X2 := ⟨#[c]⟩) (n := 2) ?a3 ?b3 ?d3 ?e3 ?_
  case a3 => k_steps; all_goals (subst_vars; rfl)
  case b3 => k_steps
  case d3 => show (⟨#[c]⟩ ++ Str.ofString ":" : Str).length ≤ 2; rw [Str.length_append]; exact Nat.le_trans (Nat.add_le_add_right hcl _) (by decide +kernel)
  case e3 => exact Nat.le_succ_of_le hcl
  intro z3 u3 k3 hz3 hl3
  k_steps
  refine ret _ _ _ _ ?_ (by k_asm) (by k_asm)
  subst_vars
  unfold rowRaw
  simp only [beq_iff_eq]
end
end
section
open PySem PySem.W PyProof.Rows PySem.Spec PySem.Calls
theorem kw_Cpair_0 : True := by
  k_with_none
  k_with "my enter" => ((refine' code_def ?k1 ?k2 ?k3 ?k4 ?k5 ?kA ?kF ?kK ?k6 ?k7 ?k8 ?k9 ?kB ?_ ?c2 ?c3 ?c4 ?c5; (case kA => exact rfl); (case kF => exact rfl); (case kK => first | exact rfl | assumption); (case k1 => k_asm); (case k2 => k_asm); (case k3 => k_asm); (case k4 => k_asm); (case k5 => k_asm); (case k6 => k_is); (case k7 => k_is); (case k8 => ktr_room); (case k9 => exact BindsTo.of_eq rfl); (case c5 => decide); (case kB => exact locs rfl); (case c2 => exact rfl); (case c3 => exact rfl); (case c4 => exact rfl); k_whole; intro g'ₓ L'ₓ h'ₓ FG'ₓ F'ₓ N'ₓ B'ₓ X'ₓ T'ₓ; (try dsimp only); (try k_lift B'ₓ); (try k_fold)))
  k_with "call ref" => ((k_here; (with_reducible show wpAny _ _ (PySem.call (Value.ref _) _ _) _ _ _); (refine wpAny_call ?_); k_dflt (walk_at "my enter")))
  k_with "my asm" => (((case k1 => k_asm); (case k2 => k_asm); (case k3 => k_asm); (case k4 => k_asm); (case k5 => k_asm); (case kK => first | exact rfl | assumption); (case kd => ktr_room); (case ku => ktr_units)))
  k_with "execs cons" => (refine wpAny_execs_cons ?_)
  k_with "execs nil" => (refine wpAny_execs_nil ?_)
  k_with "execs cons" => ((refine gen_toks (X := _ + 1 + 1 + 1 + 1) ?_; intro tkₓ htkₓ; (try dsimp only at htkₓ)))
  k_with "execs nil" => ((refine gen_toks (X := _ + 1 + 1 + 1 + 1) ?_; intro tkₓ htkₓ; (try dsimp only at htkₓ)))
  k_with "execs cons" => ((refine' gen_norm ?kS ?kF ?kE ?_; (case kS => with_reducible assumption); (case kF => with_reducible assumption); (case kE => exact rfl); intro tkₓ htkₓ; (try dsimp only at htkₓ)))
  k_with "execs nil" => ((refine' gen_norm ?kS ?kF ?kE ?_; (case kS => with_reducible assumption); (case kF => with_reducible assumption); (case kE => exact rfl); intro tkₓ htkₓ; (try dsimp only at htkₓ)))
  trivial
variable {w : World} {p : Program} {loose : List Str} {mean : ExcName → Option Value} {mg mb : Str → Option Value} {dp un : Nat} {gd : Option (List Code)} {cn : Str} {cs : Scope} {a : Addr} {ccd : Value} {cl : List (Str × Addr)} {outer : List Env} {A₀ : Around} {base h₀ : Heap} {L : Addr} {m : Str → Option Value} {s : Shared} {Q E : Value → Shared → Prop} {news : List (Addr × Obj)}
theorem filled_Cpair : (K91 = K91) ∧ (PySem.Challenge.rw_wn0091_01.most = some 63) := by
  k_fill
  exact ⟨rfl, rfl⟩
noncomputable def pairF (k x y : Int) : Int × Int := if k = 19 then (Builtin.bitAnd x y, Builtin.bitXor (Builtin.bitXor x y) (Builtin.bitAnd x y)) else if k = 18 then (Builtin.bitXor (Builtin.bitXor x y) (Builtin.bitOr x y), Builtin.bitOr x y) else (x - Builtin.bitAnd x (Builtin.bitNot y), y + Builtin.bitAnd x (Builtin.bitNot y))
theorem pair_ok {k x y : Int} {t1 t2 t3 : Tok} (B : Below A₀ base outer h₀) (F : Fr h₀ L s.heap m) (X : (K91 w.params).In h₀) (N : News h₀ L s.heap news) (T : Top p loose mean mg mb h₀) (hk : cs.kind = .function) (hd : dp + 9 < recursionLimit) (hu : un + 100 < cLine)
   (ret : ∀ D u v t1 t2 h' tk', (u, v) = pairF k x y → Fr h₀ L h' m → News h₀ L h' ((D, { cls := .type "tuple", data := .seq #[.int u t1, .int v t2] }) :: news) → (∀ p ∈ news, p.1 < D) → Q (.ref D) { s with heap := h', toks := tk' }) :
   wpAny (Mo w) (ktrTop dp un gd cn cs L a ccd cl outer) (call (.ref 214) [.int k t1, .int x t2, .int y t3] []) Q E s := by
  have hS : St s.gens s.drawn s.os := trivial
  refine wpAny_call (code_def (K := K91 w.params) (binds := [(Str.ofString "number", .int k t1), (Str.ofString "a", .int x t2), (Str.ofString "b", .int y t3)]) B F X N T rfl rfl hk (by k_is) (by k_is) (by ktr_room) (BindsTo.of_eq rfl) (locs rfl) (fun g' L' h' FG F' N' B' X' T' => ?_) rfl rfl rfl (by decide))
  k_fold
  k_steps
  all_goals (refine ret _ _ _ _ _ _ _ ?_ (by k_asm) (by k_asm) (by assumption); unfold pairF; (repeat' split) <;> first | (exfalso; omega) | with_reducible rfl)
end
section
open PySem PySem.W PyProof.Rows PySem.Spec PySem.Calls
noncomputable def markN (n : Nat) : Nat := ([38, 124, 45] : List Nat).getD (n / 8 % 3) 0
noncomputable def rowOf (v : Int) : Str := rowRaw v.toNat (markN v.toNat)
theorem fdm (n a b : Nat) (ha : a ≠ 0) (hb : b ≠ 0) : ((n : Int).fdiv a).fmod b = ((n / a % b : Nat) : Int) := by
  rw [Int.fdiv_eq_ediv_of_nonneg _ (by omega), Int.fmod_eq_emod_of_nonneg _ (by omega)]
  norm_cast
theorem mark_at (n : Nat) : Txt.charAt (Str.ofString "&|-") (((n : Int).fdiv 8).fmod 3) = some (markN n) := by
  have e := fdm n 8 3 (by decide) (by decide)
  rw [show ((8 : Int)) = ((8 : Nat) : Int) from rfl, show ((3 : Int)) = ((3 : Nat) : Int) from rfl, e]
  unfold markN
  have : n / 8 % 3 < 3 := Nat.mod_lt _ (by decide)
  generalize n / 8 % 3 = k at this
  match k, this with
  | 0, _ => decide +kernel
  | 1, _ => decide +kernel
  | 2, _ => decide +kernel
theorem mark_in (n : Nat) : -100 ≤ ((n : Int).fdiv 8).fmod 3 ∧ ((n : Int).fdiv 8).fmod 3 ≤ 100 := by
  have e := fdm n 8 3 (by decide) (by decide)
  rw [show ((8 : Int)) = ((8 : Nat) : Int) from rfl, show ((3 : Int)) = ((3 : Nat) : Int) from rfl, e]
  have : n / 8 % 3 < 3 := Nat.mod_lt _ (by decide)
  omega
theorem port_len : ∀ k : Nat, k < 100 → (Str.ofString (toString ((k : Nat) : Int))).length ≤ 2 := by decide +kernel
theorem port_le (n : Nat) : (Str.ofString (toString (((n : Int).fdiv 216).fmod 100))).length ≤ 2 := by
  have e := fdm n 216 100 (by decide) (by decide)
  rw [show ((216 : Int)) = ((216 : Nat) : Int) from rfl, show ((100 : Int)) = ((100 : Nat) : Int) from rfl, e]
  exact port_len _ (Nat.mod_lt _ (by decide))
theorem dots_le (n : Nat) : (Txt.mul (Str.ofString ".") (((n : Int).fdiv 72).fmod 3)).length ≤ 2 := by
  have e := fdm n 72 3 (by decide) (by decide)
  rw [show ((72 : Int)) = ((72 : Nat) : Int) from rfl, show ((3 : Int)) = ((3 : Nat) : Int) from rfl, e]
  have : n / 72 % 3 < 3 := Nat.mod_lt _ (by decide)
  generalize n / 72 % 3 = k at this
  match k, this with
  | 0, _ => decide +kernel
  | 1, _ => decide +kernel
  | 2, _ => decide +kernel
theorem row_len {v : Int} (h : 0 ≤ v) : (rowOf v).length ≤ 20 := by
  obtain ⟨n, rfl⟩ := Int.eq_ofNat_of_zero_le h
  have e1 := dots_le n
  have e2 := port_le n
  have q1 : (Str.ofString "228 (").length = 5 := by decide +kernel
  have q2 : (Str.ofString "229 (").length = 5 := by decide +kernel
  have q3 : (Str.ofString ":").length = 1 := by decide +kernel
  have q4 : (Str.ofString ")").length = 1 := by decide +kernel
  have q5 : ∀ k : Nat, (⟨#[k]⟩ : Str).length = 1 := fun _ => rfl
  unfold rowOf rowRaw
  simp only [Int.toNat_natCast]
  split <;> split <;> split <;> simp only [Str.length_append, q1, q2, q3, q4, q5] <;> omega
end
section
open PySem PySem.W PyProof.Rows PySem.Spec PySem.Calls
/-- a row as dots and what stands behind them -/
noncomputable def bodyL (v : Int) : List Nat := ((if v.fmod 8 = 5 then Str.ofString "228 (" else Str.ofString "229 (") ++ (if v.fmod 8 = 6 then (⟨#[markN v.toNat]⟩ : Str) ++ ⟨#[markN v.toNat]⟩ else (⟨#[markN v.toNat]⟩ : Str) ++ ⟨#[markN v.toNat]⟩ ++ ⟨#[markN v.toNat]⟩) ++ Str.ofString (toString ((v.fdiv 216).fmod 100)) ++ (if v.fmod 8 = 7 then (⟨#[markN v.toNat]⟩ : Str) ++ Str.ofString ":" else ⟨#[markN v.toNat]⟩) ++ Str.ofString ")" : Str).cps.toList
noncomputable def dotsN (v : Int) : Nat := ((v.fdiv 72).fmod 3).toNat
noncomputable def eolOf (v : Int) : Str := if (v.fdiv 24).fmod 3 = 0 then Str.ofString "\r" else if (v.fdiv 24).fmod 3 = 1 then Str.ofString "\n" else Str.ofString "\r\n"
theorem eol_len (v : Int) : (eolOf v).length ≤ 2 := by
  unfold eolOf
  split
  · decide +kernel
  · split <;> decide +kernel
theorem cps_app (x y : Str) : (x ++ y).cps.toList = x.cps.toList ++ y.cps.toList := by
  show (x.cps ++ y.cps).toList = _
  simp
theorem dots_L (n : Nat) : (Txt.mul (Str.ofString ".") (((n : Int).fdiv 72).fmod 3)).cps.toList = List.replicate (dotsN n) 46 := by
  unfold dotsN
  have e := fdm n 72 3 (by decide) (by decide)
  rw [show ((72 : Int)) = ((72 : Nat) : Int) from rfl, show ((3 : Int)) = ((3 : Nat) : Int) from rfl, e]
  have : n / 72 % 3 < 3 := Nat.mod_lt _ (by decide)
  generalize n / 72 % 3 = k at this
  match k, this with
  | 0, _ => decide +kernel
  | 1, _ => decide +kernel
  | 2, _ => decide +kernel
theorem row_L {v : Int} (h : 0 ≤ v) : (rowOf v).cps.toList = rowL (dotsN v, bodyL v) := by
  obtain ⟨n, rfl⟩ := Int.eq_ofNat_of_zero_le h
  unfold rowOf rowRaw rowL bodyL
  simp only [Int.toNat_natCast, cps_app, dots_L, List.append_assoc]
end
section
open PySem PySem.W PyProof.Rows PySem.Spec PySem.Calls
/-- signs that may stand in a row behind its dots -/
noncomputable def okSign (k : Nat) : Bool := k != 46 && k != 10 && k != 13 && decide (k < 128)
theorem port_ok : ∀ k : Nat, k < 100 → (Str.ofString (toString ((k : Nat) : Int))).cps.toList.all okSign = true := by decide +kernel
theorem mark_ok (n : Nat) : okSign (markN n) = true := by
  unfold markN
  have : n / 8 % 3 < 3 := Nat.mod_lt _ (by decide)
  generalize n / 8 % 3 = k at this
  match k, this with
  | 0, _ => rfl
  | 1, _ => rfl
  | 2, _ => rfl
theorem body_ok {v : Int} (h : 0 ≤ v) : (bodyL v).all okSign = true ∧ bodyL v ≠ [] ∧ (bodyL v).length ≤ 20 := by
  obtain ⟨n, rfl⟩ := Int.eq_ofNat_of_zero_le h
  have e := fdm n 216 100 (by decide) (by decide)
  have hp : (Str.ofString (toString (((n : Int).fdiv 216).fmod 100))).cps.toList.all okSign = true := by
    rw [show ((216 : Int)) = ((216 : Nat) : Int) from rfl, show ((100 : Int)) = ((100 : Nat) : Int) from rfl, e]
    exact port_ok _ (Nat.mod_lt _ (by decide))
  have hm : (#[markN n] : Array Nat).toList.all okSign = true := by simp [mark_ok n]
  have q1 : (Str.ofString "228 (").cps.toList.all okSign = true := by decide +kernel
  have q2 : (Str.ofString "229 (").cps.toList.all okSign = true := by decide +kernel
  have q3 : (Str.ofString ":").cps.toList.all okSign = true := by decide +kernel
  have q4 : (Str.ofString ")").cps.toList.all okSign = true := by decide +kernel
  have r4 : (Str.ofString ")").cps.toList ≠ [] := by decide +kernel
  refine ⟨?_, ?_, ?_⟩
  · unfold bodyL
    simp only [Int.toNat_natCast, cps_app, List.all_append, hp, q4, Bool.and_true]
    split <;> split <;> split <;> simp only [cps_app, List.all_append, q1, q2, q3, hm, Bool.and_true]
  · unfold bodyL
    rw [cps_app]
    exact fun q => r4 (List.append_eq_nil_iff.mp q).2
  · have h1 := row_len (v := (n : Int)) h
    have h2 := congrArg List.length (row_L (v := (n : Int)) h)
    unfold rowL at h2
    rw [List.length_append] at h2
    dsimp only at h2
    have h3 : (rowOf (n : Int)).cps.toList.length = (rowOf (n : Int)).length := Array.length_toList
    omega
theorem okSign_facts {k : Nat} (h : okSign k = true) : k ≠ 46 ∧ k ≠ 10 ∧ k ≠ 13 ∧ k < 128 := by
  unfold okSign at h
  simp only [Bool.and_eq_true, bne_iff_ne, ne_eq, decide_eq_true_eq] at h
  omega
noncomputable def itD : Nat → List Row → List Row
  | 0, l => l
  | i + 1, l => (itD i l).map moreD
noncomputable def GoodRow (p : Row) : Prop := p.2.all okSign = true ∧ p.2 ≠ [] ∧ p.2.length ≤ 20
theorem good_it {l : List Row} (h : ∀ p ∈ l, GoodRow p) : ∀ i, ∀ p ∈ itD i l, GoodRow p
  | 0 => h
  | i + 1 => fun p hp => by
    obtain ⟨q, hq, rfl⟩ := List.mem_map.mp hp
    exact good_it h i q hq
theorem dots_it {l : List Row} (h : ∀ p ∈ l, p.1 ≤ 2) : ∀ i, ∀ p ∈ itD i l, p.1 ≤ 2 + i
  | 0 => h
  | i + 1 => fun p hp => by
    obtain ⟨q, hq, rfl⟩ := List.mem_map.mp hp
    have := dots_it h i q hq
    unfold moreD
    dsimp only
    split <;> omega
noncomputable def rowsD (ns : List Int) : List Row := ns.map fun v => (dotsN v, bodyL v)
theorem good_rows {ns : List Int} (h : ∀ v ∈ ns, 0 ≤ v) : ∀ p ∈ rowsD ns, GoodRow p := fun p hp => by
  obtain ⟨v, hv, rfl⟩ := List.mem_map.mp hp
  exact body_ok (h v hv)
theorem dots_rows {ns : List Int} (h : ∀ v ∈ ns, 0 ≤ v) : ∀ p ∈ rowsD ns, p.1 ≤ 2 := fun p hp => by
  obtain ⟨v, hv, rfl⟩ := List.mem_map.mp hp
  show ((v.fdiv 72).fmod 3).toNat ≤ 2
  have h1 := Int.fmod_lt_of_pos (v.fdiv 72) (show (0 : Int) < 3 by decide)
  omega
/-- the lines of the mail, and of what is sent -/
noncomputable def linesOf (ns : List Int) (eols : List (List Nat)) : List Line := (rowsD ns).zipWith (fun p e => (rowL p, e)) eols
theorem row_noEol {p : Row} (h : GoodRow p) : noEol (rowL p) := by
  intro k hk
  rcases List.mem_append.mp hk with hk | hk
  · rw [(List.mem_replicate.mp hk).2]; rfl
  · have := okSign_facts (List.all_eq_true.mp h.1 k hk)
    unfold eol
    simp [this.2.1, this.2.2.1]
theorem row_ne {p : Row} (h : GoodRow p) : rowL p ≠ [] := fun q => h.2.1 (List.append_eq_nil_iff.mp q).2
theorem fixD {l : List Row} (h : ∀ p ∈ l, GoodRow p) : SubR P2 (flatD l).toArray [13, 10] 0 (flatD l) := by
  have := sub2 (l.map fun p => (rowL p, [13, 10])) [] (fun p hp => by
    obtain ⟨q, hq, rfl⟩ := List.mem_map.mp hp
    exact ⟨row_noEol (h q hq), .inr (.inr rfl), row_ne (h q hq)⟩)
  simpa [flatD, List.map_map, Function.comp_def] using this
theorem quoteD {l : List Row} (h : ∀ p ∈ l, GoodRow p) : SubR P1 (flatD l).toArray [46, 46] 0 (flatD (l.map moreD)) := by
  have := sub1 l [] [] (fun p hp => ⟨(h p hp).2.1, fun k hk => by
    have := okSign_facts (List.all_eq_true.mp (h p hp).1 k hk)
    exact ⟨this.1, this.2.1⟩⟩) (.inl rfl) (fun i h1 h2 => by simp at h2)
  simpa using this
noncomputable def mailL (ns : List Int) : List Nat := flatL (ns.map fun v => (rowL (dotsN v, bodyL v), (eolOf v).cps.toList))
theorem eol_is (v : Int) : isEol (eolOf v).cps.toList := by
  unfold eolOf
  split
  · exact .inl (by decide +kernel)
  · split
    · exact .inr (.inl (by decide +kernel))
    · exact .inr (.inr (by decide +kernel))
theorem fixM {ns : List Int} (h : ∀ v ∈ ns, 0 ≤ v) : SubR P2 (mailL ns).toArray [13, 10] 0 (flatD (rowsD ns)) := by
  have := sub2 (ns.map fun v => (rowL (dotsN v, bodyL v), (eolOf v).cps.toList)) [] (fun p hp => by
    obtain ⟨v, hv, rfl⟩ := List.mem_map.mp hp
    have g := body_ok (h v hv)
    exact ⟨row_noEol (p := (dotsN v, bodyL v)) g, eol_is v, row_ne (p := (dotsN v, bodyL v)) g⟩)
  simpa [mailL, flatD, rowsD, List.map_map, Function.comp_def] using this
theorem flatL_len {B : Nat} : ∀ {l : List Line}, (∀ p ∈ l, p.1.length + p.2.length ≤ B) → (flatL l).length ≤ l.length * B
  | [], _ => by simp [flatL]
  | p :: l, h => by
    have h1 := h p (.head _)
    have h2 := flatL_len fun q hq => h q (.tail _ hq)
    rw [flatL_cons, List.length_append, List.length_append, List.length_cons, Nat.succ_mul]
    omega
theorem flatD_len {l : List Row} {i : Nat} (h : ∀ p ∈ l, GoodRow p) (hd : ∀ p ∈ l, p.1 ≤ 2 + i) : (flatD l).length ≤ l.length * (24 + i) := by
  have := flatL_len (B := 24 + i) (l := l.map fun p => (rowL p, [13, 10])) (fun q hq => by
    obtain ⟨p, hp, rfl⟩ := List.mem_map.mp hq
    have h1 := (h p hp).2.2
    have h2 := hd p hp
    simp only [rowL, List.length_append, List.length_replicate, List.length_cons, List.length_nil]
    omega)
  rw [List.length_map] at this
  exact this
noncomputable def sentL (ns : List Int) (i : Nat) : List Nat := if i = 0 then mailL ns else flatD (itD i (rowsD ns))
theorem sent_fix {ns : List Int} (h : ∀ v ∈ ns, 0 ≤ v) (i : Nat) : SubR P2 (sentL ns i).toArray [13, 10] 0 (flatD (itD i (rowsD ns))) := by
  unfold sentL
  split
  · rename_i h0
    rw [h0]
    exact fixM h
  · exact fixD (good_it (good_rows h) i)
theorem sent_quote {ns : List Int} (h : ∀ v ∈ ns, 0 ≤ v) (i : Nat) : SubR P1 (flatD (itD i (rowsD ns))).toArray [46, 46] 0 (sentL ns (i + 1)) := by
  unfold sentL
  rw [if_neg (Nat.succ_ne_zero i)]
  exact quoteD (good_it (good_rows h) i)
theorem it_len (l : List Row) : ∀ i, (itD i l).length = l.length
  | 0 => rfl
  | i + 1 => by show ((itD i l).map moreD).length = l.length; rw [List.length_map, it_len l i]
theorem flat_it_len {ns : List Int} (h : ∀ v ∈ ns, 0 ≤ v) (h6 : ns.length = 6) (i : Nat) (hi : i ≤ 4) : (flatD (itD i (rowsD ns))).length ≤ 168 := by
  have := flatD_len (i := i) (good_it (good_rows h) i) (dots_it (dots_rows h) i)
  rw [it_len] at this
  unfold rowsD at this ⊢
  rw [List.length_map, h6] at this
  omega
theorem mail_len {ns : List Int} (h : ∀ v ∈ ns, 0 ≤ v) (h6 : ns.length = 6) : (mailL ns).length ≤ 168 := by
  have := flatL_len (B := 24) (l := ns.map fun v => (rowL (dotsN v, bodyL v), (eolOf v).cps.toList)) (fun q hq => by
    obtain ⟨v, hv, rfl⟩ := List.mem_map.mp hq
    have h1 := (body_ok (h v hv)).2.2
    have h2 : dotsN v ≤ 2 := dots_rows (ns := [v]) (fun z hz => by rw [List.mem_singleton.mp hz]; exact h v hv) (dotsN v, bodyL v) (.head _)
    have h3 := eol_len v
    have h4 : (eolOf v).cps.toList.length = (eolOf v).length := Array.length_toList
    simp only [rowL, List.length_append, List.length_replicate]
    omega)
  rw [List.length_map, h6] at this
  exact Nat.le_trans this (by decide)
theorem sent_len {ns : List Int} (h : ∀ v ∈ ns, 0 ≤ v) (h6 : ns.length = 6) (i : Nat) (hi : i ≤ 4) : (sentL ns i).length ≤ 168 := by
  unfold sentL
  split
  · exact mail_len h h6
  · exact flat_it_len h h6 i hi
theorem mail_L {ns : List Int} (h : ∀ v ∈ ns, 0 ≤ v) : (Txt.join (Str.ofString "") (ns.map fun v => rowOf v ++ eolOf v)).cps.toList = mailL ns := by
  have e : Str.ofString "" = ⟨#[]⟩ := by decide +kernel
  rw [e, join_flat]
  unfold flat mailL flatL
  rw [List.map_map, List.map_map]
  refine congrArg List.flatten (List.map_congr_left fun v hv => ?_)
  show (rowOf v ++ eolOf v).cps.toList = rowL (dotsN v, bodyL v) ++ (eolOf v).cps.toList
  rw [cps_app, row_L (h v hv)]
theorem body_head {v : Int} (h : 0 ≤ v) : ∃ r, bodyL v = 50 :: r := by
  obtain ⟨n, rfl⟩ := Int.eq_ofNat_of_zero_le h
  have q1 : (Str.ofString "228 (").cps.toList = [50, 50, 56, 32, 40] := by decide +kernel
  have q2 : (Str.ofString "229 (").cps.toList = [50, 50, 57, 32, 40] := by decide +kernel
  unfold bodyL
  simp only [cps_app]
  split
  · rw [q1]; exact ⟨_, rfl⟩
  · rw [q2]; exact ⟨_, rfl⟩
theorem charAt_nat (x : Str) (k : Nat) : Txt.charAt x (k : Int) = x.cps.toList[k]? := by
  have e : x.cps.toList[k]? = x.cps[k]? := by simp
  rw [e]
  have h1 : ¬ ((k : Int) < 0) := by omega
  have hl : x.length = x.cps.size := rfl
  unfold Txt.charAt seqIndex?
  simp only [if_neg h1]
  by_cases hk : k < x.length
  · have h2 : (decide (0 ≤ (k : Int)) && decide ((k : Int) < (x.length : Int))) = true := by simp; omega
    rw [if_pos h2]
    simp
  · have h2 : (decide (0 ≤ (k : Int)) && decide ((k : Int) < (x.length : Int))) = false := by simp; omega
    rw [h2, if_neg (by decide)]
    exact (Array.getElem?_eq_none (by omega)).symm
theorem row_head {v : Int} (h : 0 ≤ v) : Txt.charAt (rowOf v) 0 = some (if dotsN v = 0 then 50 else 46) := by
  have e : Txt.charAt (rowOf v) 0 = (rowOf v).cps.toList[0]? := charAt_nat _ 0
  rw [e, row_L h]
  obtain ⟨r, hr⟩ := body_head h
  unfold rowL
  dsimp only
  rw [hr]
  cases hd : dotsN v with
  | zero => simp
  | succ k => simp [List.replicate_succ]
theorem head_dot {d : Nat} (h : ((⟨#[if d = 0 then 50 else 46]⟩ : Str) == Str.ofString ".") = true) : d ≠ 0 := by
  rintro rfl
  rw [if_pos rfl] at h
  revert h
  decide +kernel
theorem head_two {d : Nat} (h : ((⟨#[if d = 0 then 50 else 46]⟩ : Str) == Str.ofString ".") = false) : d = 0 := by
  by_cases hd : d = 0
  · exact hd
  · rw [if_neg hd] at h
    exact absurd h (by decide +kernel)
theorem mul_le2 {n : Nat} (h : n = 1 ∨ n = 2) : (Txt.mul (Str.ofString ".") (n : Int)).length ≤ 2 := by
  rcases h with rfl | rfl <;> decide +kernel
theorem mul_L {n : Nat} (h : n = 1 ∨ n = 2) : (Txt.mul (Str.ofString ".") (n : Int)).cps.toList = List.replicate n 46 := by
  rcases h with rfl | rfl <;> decide +kernel
theorem crlf_len : (Str.ofString "\r\n").length ≤ 2 := by decide +kernel
theorem crlf_L : (Str.ofString "\r\n").cps.toList = [13, 10] := by decide +kernel
noncomputable def dueS (n : Nat) (v : Int) : Str := if dotsN v = 0 then rowOf v ++ Str.ofString "\r\n" else Txt.mul (Str.ofString ".") n ++ rowOf v ++ Str.ofString "\r\n"
theorem due_len {n : Nat} (h : n = 1 ∨ n = 2) {v : Int} (hv : 0 ≤ v) : (dueS n v).length ≤ 24 := by
  have h1 := mul_le2 h
  have h2 := row_len hv
  have h3 := crlf_len
  unfold dueS
  split <;> simp only [Str.length_append] <;> omega
theorem it_map (l : List Row) : ∀ n, itD n l = l.map fun p => (if p.1 = 0 then 0 else p.1 + n, p.2)
  | 0 => by
    show l = _
    refine (List.map_id'' (fun p => ?_) l).symm
    obtain ⟨a, b⟩ := p
    by_cases h : a = 0 <;> simp [h]
  | n + 1 => by
    show (itD n l).map moreD = _
    rw [it_map l n, List.map_map]
    refine List.map_congr_left fun p _ => ?_
    unfold moreD
    by_cases h : p.1 = 0 <;> simp [h]
    omega
theorem due_L {n : Nat} (h : n = 1 ∨ n = 2) {ns : List Int} (hv : ∀ v ∈ ns, 0 ≤ v) : (Txt.join (Str.ofString "") (ns.map (dueS n))).cps.toList = sentL ns n := by
  have e : Str.ofString "" = ⟨#[]⟩ := by decide +kernel
  have hn : n ≠ 0 := by omega
  rw [e, join_flat]
  unfold sentL
  rw [if_neg hn, it_map]
  unfold flat flatD flatL rowsD
  simp only [List.map_map]
  refine congrArg List.flatten (List.map_congr_left fun v hm => ?_)
  have hr := row_L (hv v hm)
  show (dueS n v).cps.toList = rowL (if dotsN v = 0 then 0 else dotsN v + n, bodyL v) ++ [13, 10]
  unfold dueS
  split
  · rename_i h0
    rw [cps_app, hr, crlf_L]
    simp [rowL, h0]
  · rename_i h0
    rw [cps_app, cps_app, hr, crlf_L, mul_L h]
    simp only [rowL, ← List.append_assoc]
    rw [List.replicate_append_replicate, Nat.add_comm]
end
section
open PySem PySem.W PyProof.Rows PySem.Spec PySem.Calls PySem.StrLaws PySem.Builtin PySem.Builtin.Str
/-! splitting a text at a mark, or at its line ends -/
noncomputable def strL (l : List Nat) : Str := ⟨l.toArray⟩
theorem strL_eq {x : Str} {l : List Nat} (h : x.cps.toList = l) : x = strL l := Str.ext' (Array.toList_inj.mp (by rw [h]; rfl))
theorem ats {x y : Str} {k : Nat} : At x y x.length k ↔ (k + y.length ≤ x.cps.toList.length ∧ (x.cps.toList.drop k).take y.length = y.cps.toList) := by
  have e : x.cps.toList.length = x.length := Array.length_toList
  unfold At
  rw [subAt_eq, e]
  exact and_congr_right fun _ => ⟨eq_of_beq, fun h => beq_iff_eq.mpr h⟩
theorem at_head {x y : Str} {c k : Nat} {s : List Nat} (hy : y.cps.toList = c :: s) (h : At x y x.length k) : x.cps.toList[k]? = some c := by
  rw [ats, hy] at h
  have hyl : y.length = s.length + 1 := by rw [← show y.cps.toList.length = y.length from Array.length_toList, hy]; rfl
  have h5 := congrArg (fun q : List Nat => q[0]?) h.2
  rw [hyl] at h5
  simp only [List.getElem?_take_of_lt (show 0 < s.length + 1 by omega), List.getElem?_drop, Nat.add_zero] at h5
  exact h5
theorem parts_rows {x : Str} (y : Str) {c : Nat} {s : List Nat} (hy : y.cps.toList = c :: s) : ∀ (l : List (List Nat)) (last pre : List Nat) (cuts : List Nat) (f : Nat),
    (∀ p ∈ l, c ∉ p) → c ∉ last → x.cps.toList = pre ++ ((l.map fun p => p ++ c :: s).flatten ++ last) → ChainG x y x.length pre.length cuts f → (∀ k, f ≤ k → ¬ At x y x.length k) →
    partsFrom x y.length pre.length cuts = l.map strL ++ [strL last]
  | [], last, pre, cuts, f, hl, hla, hx, hg, hf => by
    have hxl : x.cps.toList.length = x.length := Array.length_toList
    rw [List.map_nil, List.flatten_nil, List.nil_append] at hx
    cases cuts with
    | nil =>
      show [strSub x pre.length x.length] = [strL last]
      refine congrArg (· :: []) (strL_eq ?_)
      have hp : x.length = pre.length + last.length := by rw [← hxl, hx]; simp
      rw [strSub_toList, hp, Nat.add_sub_cancel_left, hx, List.drop_left, List.take_length]
    | cons d r =>
      obtain ⟨h1, h2, _⟩ := hg
      have h3 := at_head hy h2
      rw [hx, List.getElem?_append_right h1] at h3
      exact absurd (List.mem_of_getElem? h3) hla
  | p :: l, last, pre, cuts, f, hl, hla, hx, hg, hf => by
    have hyl : y.length = s.length + 1 := by rw [← show y.cps.toList.length = y.length from Array.length_toList, hy]; rfl
    have hxl : x.cps.toList.length = x.length := Array.length_toList
    rw [List.map_cons, List.flatten_cons] at hx
    have here : At x y x.length (pre.length + p.length) := by
      rw [ats, hyl, hy, hx]
      refine ⟨by simp; omega, ?_⟩
      have e : pre ++ ((p ++ c :: s ++ (l.map fun p => p ++ c :: s).flatten) ++ last) = (pre ++ p) ++ (c :: s ++ ((l.map fun p => p ++ c :: s).flatten ++ last)) := by simp
      rw [e, show pre.length + p.length = (pre ++ p).length by simp, List.drop_left]
      exact List.take_left' rfl
    cases cuts with
    | nil =>
      have e : f = pre.length := hg
      exact absurd here (hf _ (by omega))
    | cons d r =>
      obtain ⟨h1, h2, h3, h4⟩ := hg
      have hc1 : d ≤ pre.length + p.length := Nat.le_of_not_lt fun hlt => h3 _ (by omega) hlt here
      have hc2 : pre.length + p.length ≤ d := by
        refine Nat.le_of_not_lt fun hlt => ?_
        have h5 := at_head hy h2
        rw [hx, List.getElem?_append_right h1, List.append_assoc, List.append_assoc, List.getElem?_append_left (by omega)] at h5
        exact hl p (.head _) (List.mem_of_getElem? h5)
      obtain rfl : d = pre.length + p.length := Nat.le_antisymm hc1 hc2
      show strSub x pre.length (pre.length + p.length) :: partsFrom x y.length (pre.length + p.length + y.length) r = strL p :: (l.map strL ++ [strL last])
      have ep : (pre ++ p ++ c :: s).length = pre.length + p.length + y.length := by simp [hyl]; omega
      have ih := parts_rows (x := x) y hy l last (pre ++ p ++ c :: s) r f (fun q hq => hl q (.tail _ hq)) hla (by rw [hx]; simp) (by rw [ep]; exact h4) hf
      rw [ep] at ih
      rw [ih]
      refine congrArg (· :: _) (strL_eq ?_)
      rw [strSub_toList, hx, List.drop_left, Nat.add_sub_cancel_left, List.append_assoc, List.append_assoc, List.take_left]
theorem split_is {x y : Str} {c : Nat} {s last : List Nat} {l : List (List Nat)} (hy : y.cps.toList = c :: s) (hk : PySem.Builtin.Str.strKind y = 1) (hl : ∀ p ∈ l, c ∉ p) (hla : c ∉ last) (hx : x.cps.toList = (l.map fun p => p ++ c :: s).flatten ++ last) (hne : l ≠ []) (ha : ∀ k ∈ x.cps.toList, k < 128) :
    Txt.split x y = l.map strL ++ [strL last] := by
  have hyl : y.length = s.length + 1 := by rw [← show y.cps.toList.length = y.length from Array.length_toList, hy]; rfl
  have hxl : x.cps.toList.length = x.length := Array.length_toList
  obtain ⟨f, hG, hn⟩ := occ_tight x y (by omega)
  have key := parts_rows (x := x) y hy l last [] _ f hl hla (by rw [hx]; rfl) hG hn
  unfold Txt.split
  have k1 : PySem.Builtin.Str.strKind x = 1 := by
    unfold PySem.Builtin.Str.strKind
    rw [if_pos]
    rw [← Array.all_toList, List.all_eq_true]
    exact fun k hk => decide_eq_true (Nat.lt_trans (ha k hk) (by decide))
  have h2 : y.length ≤ x.length := by
    rw [← hxl, hx]
    cases l with
    | nil => exact absurd rfl hne
    | cons p l => simp; omega
  rw [if_neg (by rw [k1, hk]; simp; omega)]
  split
  · rename_i he
    rw [List.isEmpty_iff.mp he] at key
    have := congrArg List.length key
    simp [partsFrom] at this
    exact absurd this hne
  · rw [partsBetween_eq]
    exact key
theorem split_rows {x : Str} {l : List (List Nat)} (hl : ∀ p ∈ l, 13 ∉ p) (hx : x.cps.toList = (l.map fun p => p ++ [13, 10]).flatten) (hne : l ≠ []) (ha : ∀ k ∈ x.cps.toList, k < 128) :
    Txt.split x (Str.ofString "\r\n") = l.map strL ++ [strL []] :=
  split_is crlf_L (by decide +kernel) hl (by simp) (by rw [hx, List.append_nil]) hne ha
theorem find3_is {x : Str} {c : Nat} {i : Nat} {pre post : List Nat} (hx : x.cps.toList = pre ++ c :: post) (hi : i ≤ pre.length) (hn : c ∉ pre.drop i) : Txt.find3 x ⟨#[c]⟩ (i : Int) = pre.length := by
  have hxl : x.cps.toList.length = x.length := Array.length_toList
  have fi : fromIndex x.length (i : Int) = i := by unfold fromIndex; rw [if_neg (by omega), Int.max_eq_right (by omega)]; omega
  have gd : ∀ v, v < x.length → x.cps.getD v 0 = (x.cps.toList[v]?).getD 0 := fun v hv => by simp
  have hlen : pre.length < x.length := by rw [← hxl, hx]; simp
  rcases find3_spec x c (i : Int) with ⟨_, hno⟩ | ⟨k, h, hlo, hlt, hc, hno⟩
  · exfalso
    refine hno pre.length (by rw [fi]; exact hi) hlen ?_
    rw [gd _ hlen, hx, List.getElem?_append_right (Nat.le_refl _), Nat.sub_self]
    rfl
  · rw [h]
    rw [fi] at hlo hno
    refine congrArg Nat.cast (Nat.le_antisymm ?_ ?_)
    · refine Nat.le_of_not_lt fun hlt2 => hno pre.length hi hlt2 ?_
      rw [gd _ hlen, hx, List.getElem?_append_right (Nat.le_refl _), Nat.sub_self]
      rfl
    · refine Nat.le_of_not_lt fun hlt2 => hn ?_
      rw [gd _ hlt, hx, List.getElem?_append_left hlt2, List.getElem?_eq_getElem hlt2] at hc
      have hc' : pre[k] = c := hc
      rw [List.mem_drop_iff_getElem]
      exact ⟨k - i, by omega, by simp only [show i + (k - i) = k by omega]; exact hc'⟩
theorem find_is {x : Str} {c : Nat} {pre post : List Nat} (hx : x.cps.toList = pre ++ c :: post) (hn : c ∉ pre) : Txt.find x ⟨#[c]⟩ = pre.length := by
  rw [find_is_find3]
  exact find3_is (i := 0) hx (Nat.zero_le _) hn
end
section
open PySem PySem.W PyProof.Rows PySem.Spec PySem.Calls
local macro_rules | `(tactic| k_all) => `(tactic| assumption)
section
open PySem PySem.W PyProof.Rows PySem.Spec PySem.Calls
theorem kw_Crun_0 : True := by
  k_with_none
  k_with "my enter" => ((refine' code_def ?k1 ?k2 ?k3 ?k4 ?k5 ?kA ?kF ?kK ?k6 ?k7 ?k8 ?k9 ?kB ?_ ?c2 ?c3 ?c4 ?c5; (case kA => exact rfl); (case kF => exact rfl); (case kK => first | exact rfl | assumption); (case k1 => k_asm); (case k2 => k_asm); (case k3 => k_asm); (case k4 => k_asm); (case k5 => k_asm); (case k6 => k_is); (case k7 => k_is); (case k8 => ktr_room); (case k9 => exact BindsTo.of_eq rfl); (case c5 => decide); (case kB => exact locs rfl); (case c2 => exact rfl); (case c3 => exact rfl); (case c4 => exact rfl); k_whole; intro g'ₓ L'ₓ h'ₓ FG'ₓ F'ₓ N'ₓ B'ₓ X'ₓ T'ₓ; (try dsimp only); (try k_lift B'ₓ); (try k_fold)))
  k_with "call ref" => ((k_here; (with_reducible show wpAny _ _ (PySem.call (Value.ref _) _ _) _ _ _); (refine wpAny_call ?_); k_dflt (walk_at "my enter")))
  k_with "my asm" => (((case k1 => k_asm); (case k2 => k_asm); (case k3 => k_asm); (case k4 => k_asm); (case k5 => k_asm); (case kK => first | exact rfl | assumption); (case kd => ktr_room); (case ku => ktr_units)))
  k_with "execs cons" => (refine wpAny_execs_cons ?_)
  k_with "execs nil" => (refine wpAny_execs_nil ?_)
  k_with "execs cons" => ((refine gen_toks (X := _ + 1 + 1 + 1 + 1) ?_; intro tkₓ htkₓ; (try dsimp only at htkₓ)))
  k_with "execs nil" => ((refine gen_toks (X := _ + 1 + 1 + 1 + 1) ?_; intro tkₓ htkₓ; (try dsimp only at htkₓ)))
  k_with "execs cons" => ((refine' gen_norm ?kS ?kF ?kE ?_; (case kS => with_reducible assumption); (case kF => with_reducible assumption); (case kE => exact rfl); intro tkₓ htkₓ; (try dsimp only at htkₓ)))
  k_with "execs nil" => ((refine' gen_norm ?kS ?kF ?kE ?_; (case kS => with_reducible assumption); (case kF => with_reducible assumption); (case kE => exact rfl); intro tkₓ htkₓ; (try dsimp only at htkₓ)))
  k_with "call type:str" => (refine P.str_of_bool ?_)
  k_with "callWith" => (first
    | ((try dsimp only); (with_reducible show wpAny _ _ (callWith _ (Value.builtin _) _ _ _) _ _ _); refine callWith_method1 ?_)
    | ((try dsimp only); (with_reducible show wpAny _ _ (callWith _ (Value.type _) _ _ _) _ _ _); refine callWith_type1 ?_))
  trivial
variable {w : World} {p : Program} {loose : List Str} {mean : ExcName → Option Value} {mg mb : Str → Option Value} {dp un : Nat} {gd : Option (List Code)} {cn : Str} {cs : Scope} {a : Addr} {ccd : Value} {cl : List (Str × Addr)} {outer : List Env} {A₀ : Around} {base h₀ : Heap} {L : Addr} {m : Str → Option Value} {s : Shared} {Q E : Value → Shared → Prop} {news : List (Addr × Obj)}
theorem filled_Crun : (K91 = K91) ∧ (PySem.Challenge.rw_wn0091_01.most = some 63) := by
  k_fill
  exact ⟨rfl, rfl⟩

abbrev Rst := List Int × List Int × List Dat
noncomputable def pairM (num : Int) (k : List Int) (q : Nat) : List Int := (k.set q (pairF num (k.getD q 0) (k.getD (q + 1) 0)).1).set (q + 1) (pairF num (k.getD q 0) (k.getD (q + 1) 0)).2
noncomputable def stepR (st : Rst) : Ev → Rst
  | .code => (st.1, st.2.1, st.2.2 ++ [.str (Str.ofString "code")])
  | .marks => (st.1, st.2.1, st.2.2 ++ [.str (Str.ofString "marks")])
  | .ok num q => (pairM num st.1 q, swapK st.2.1 q, st.2.2 ++ [.tuple [.int num, .int q, tellB true, tellB (decide (st.1 ≠ pairM num st.1 q))]])
noncomputable def runR (evs : List Ev) (st : Rst) : Rst := evs.foldl stepR st
/-- what a row of the mail is to the reader -/
noncomputable def RowOk (y : Str) (ev : Ev) : Prop :=
  ∃ (num : Int) (k c3 : Nat), y.cps.all (· < 128) = true ∧ y.length ≤ 100 ∧ ParOk (Txt.slice y (some ((y.cps.toList.count 46 : Nat) : Int)) none) (y.cps.toList.count 46) num ev ∧
    y.cps[k]? = some 40 ∧ (∀ i, i < k → y.cps[i]? ≠ some 40) ∧ k ≤ 90 ∧ Txt.charAt y ((k : Int) + 1) = some c3 ∧ (c3 = 38 ∧ num = 19 ∨ c3 = 124 ∧ num = 18 ∨ c3 = 45 ∧ num = 15)
theorem split_last {ps : List Str} {last : Str} {l : List (Str × Tok)} (e : l.map (·.1) = ps ++ [last]) : ∃ l0 t, l = l0 ++ [(last, t)] ∧ l0.map (·.1) = ps := by
  induction ps generalizing l with
  | nil =>
    cases l with
    | nil => cases e
    | cons p r =>
      obtain ⟨u, t⟩ := p
      have e1 : u = last := (List.cons.inj e).1
      have e2 : r.map (·.1) = [] := (List.cons.inj e).2
      rw [List.map_eq_nil_iff.mp e2, e1]
      exact ⟨[], t, rfl, rfl⟩
  | cons q ps ih =>
    cases l with
    | nil => cases e
    | cons p r =>
      have e1 : p.1 = q := (List.cons.inj e).1
      have e2 : r.map (·.1) = ps ++ [last] := (List.cons.inj e).2
      obtain ⟨l0, t, e3, e4⟩ := ih e2
      exact ⟨p :: l0, t, by rw [e3]; rfl, by rw [List.map_cons, e4, e1]⟩
section
variable {A : Around}
theorem split_any {x y : Str} {t u : Tok} {ps : List Str} {last : Str} {h₀ : Heap} {L : Addr} {m : Str → Option Value} {news : List (Addr × Obj)} (e : Txt.split x y = ps ++ [last]) (hy : (y.length == 0) = false) (F : Fr h₀ L s.heap m) (N : News h₀ L s.heap news) (hsz : x.length + 2 ≤ sizeLine) (hn : ps.length ≤ 100)
    (h : ∀ (D : Addr) (l : List (Str × Tok)) (t : Tok) (h' : Heap) (k : Nat), l.map (·.1) = ps → ((strValues l ++ [Value.str last t]).toArray.size ≤ 1000) → Fr h₀ L h' m → News h₀ L h' ((D, listOf (strValues l ++ [Value.str last t]).toArray 0) :: news) → (∀ p ∈ news, p.1 < D) → Q (.ref D) { s with heap := h', toks := k }) :
    wpAny (Mo w) A (call (.builtin "str.split") [.str x t, .str y u]) Q E s :=
  KSpl.split1 (x := x) (y := y) F N hy (fun D l h' k e1 _ F' N' lt => by
    obtain ⟨l0, t, rfl, e2⟩ := split_last (e1.trans e)
    have e3 : strValues (l0 ++ [(last, t)]) = strValues l0 ++ [Value.str last t] := by unfold strValues; rw [List.map_append]; rfl
    rw [e3] at N'
    refine h D l0 t h' k e2 ?_ F' N' lt
    have : l0.length = ps.length := by rw [← e2, List.length_map]
    simp [strValues]
    omega) hsz
theorem slice_init {value slice : Expr} {l : Addr} {vs : List Value} {v : Value} {n : Nat} {u : Tok} {h₀ : Heap} {L : Addr} {m : Str → Option Value} {news : List (Addr × Obj)} (F : Fr h₀ L s.heap m) (N : News h₀ L s.heap news) (hl : (l, listOf (vs ++ [v]).toArray n) ∈ news) (hz : (vs ++ [v]).toArray.size ≤ 1000)
    (h : ∀ D h', Fr h₀ L h' m → News h₀ L h' ((D, listOf vs.toArray 0) :: news) → (∀ p ∈ news, p.1 < D) → Q (.ref D) { s with heap := h' })
    (hs : subscripted slice false (.ref l) (.ref s.heap.objs.size) = operate [.ref s.heap.objs.size, .ref l] (getItem (.ref l) (.ref s.heap.objs.size)) := by with_unfolding_all rfl)
    (ht : ∀ r, letTemporaryGo value (.ref l) r = pure () := by intro _; with_unfolding_all rfl) :
    wpAny (Mo w) A (subscriptTail value slice (.ref l) (.ref s.heap.objs.size)) Q E { s with heap := s.heap.push { cls := .type "slice", data := .fields #[.none, .int (-1) u, .none] } } := by
  refine slice_list F N ⟨_, (N _ hl).1, rfl, n, rfl⟩ .none (.int (-1) u) (fun h' F' N' => ?_) hs ht (Nat.le_trans hz (by decide))
  have e : slicePick (vs ++ [v]).toArray none (some (-1)) none = vs.toArray := by
    rw [slicePick_plain]
    have : clipAt (vs ++ [v]).toArray.size (-1) = vs.length := by
      have := clipAt_neg (vs ++ [v]).toArray.size 1 (Nat.le_refl _)
      rw [show (-((1 : Nat) : Int)) = -1 from rfl] at this
      rw [this]
      simp
    simp only [Option.elim, this, List.drop_zero, Nat.sub_zero]
    simp
  rw [e] at N'
  exact h _ h' F' N' fun p hp => Nat.lt_succ_of_lt (Heap.lt_size (N p hp).1)
end
section
theorem tok_item {value slice : Expr} {A : Around} {c : Nat} {num : Int} {t : Tok} (hc : c = 38 ∧ num = 19 ∨ c = 124 ∧ num = 18 ∨ c = 45 ∧ num = 15) (F : Fr h₀ L s.heap m) (X : (K91 w.params).In h₀)
    (h : ∀ t', Q (.int num t') { s with toks := s.toks + 1 })
    (hs : subscripted slice false (.ref 191) (.str ⟨#[c]⟩ t) = operate [.ref 191, .str ⟨#[c]⟩ t] (getItem (.ref 191) (.str ⟨#[c]⟩ t)) := by with_unfolding_all rfl) :
    wpAny (Mo w) A (subscriptTail value slice (.ref 191) (.str ⟨#[c]⟩ t)) Q E s := by
  rcases hc with ⟨rfl, rfl⟩ | ⟨rfl, rfl⟩ | ⟨rfl, rfl⟩
  · refine' topItem_K F X ?l ?k ?e ?_ hs
    case l => k_is
    case k => k_keys
    case e => k_is
    exact h _
  · refine' topItem_K F X ?l ?k ?e ?_ hs
    case l => k_is
    case k => k_keys
    case e => k_is
    exact h _
  · refine' topItem_K F X ?l ?k ?e ?_ hs
    case l => k_is
    case k => k_keys
    case e => k_is
    exact h _
theorem push_list {vs : List Value} {v : Value} {n : Nat} : (listOf (vs.toArray.push v) n : Obj) = listOf (vs ++ [v]).toArray n := by rw [List.push_toArray]
end
section
theorem kw_Crun_1 : True := by
  k_with "pyIter ref" => (refine stop_ ?_)
  k_with "exec For" => (with_unfolding_all refine wpAny_For ?_)
  k_with "exec For Name Subscript cons nil" => (with_unfolding_all refine wpAny_For ?_)
  k_with "exec If" => (refine wpAny_If ?_)
  k_with "call builtin:str.split" => ((refine split_any (by with_reducible assumption) rfl (by k_asm) (by k_asm) (by assumption) (by assumption) ?_; intro D'ₓ l'ₓ t'ₓ h'ₓ k'ₓ e'ₓ z'ₓ F'ₓ N'ₓ l1ₓ; (try k_lt l1ₓ)))
  k_with "subscriptTail Name Slice ref ref" => (((with_reducible show wpAny _ _ (subscriptTail _ _ (Value.ref _) (Value.ref _)) _ _ _); refine slice_init (s := ⟨_, _, _, _, _⟩) (by k_asm) (by k_asm) (by k_mem) (by assumption) ?_; intro D'ₓ h'ₓ F'ₓ N'ₓ l1ₓ; (try k_lt l1ₓ)))
  trivial

/-- the state of the reader after i rows -/
noncomputable def RunP (sp : List (Addr × Obj)) (mD kD sD : Addr) (evs : List Ev) (st0 : Rst) (i : Nat) (nw : List (Addr × Obj)) (m' : Str → Option Value) : Prop :=
  ∃ (nm nk ns : Nat) (mvs kvs vs : List Value) (ds : List Dat) (rest : List (Addr × Obj)) (ms ks : List Int),
    nw = (mD, listOf mvs.toArray nm) :: (kD, listOf kvs.toArray nk) :: (sD, listOf vs.toArray ns) :: rest ∧
    IntsAre mvs ms ∧ ms.length = 4 ∧ IntsAre kvs ks ∧ ks.length = 4 ∧
    (∀ q ∈ sp, q ∈ rest) ∧ (∀ q ∈ rest, q ∈ sp ∨ q.2.cls = .type "tuple") ∧ (∀ q ∈ rest, q.1 ≠ mD) ∧ (∀ q ∈ rest, q.1 ≠ kD) ∧ (∀ q ∈ rest, q.1 ≠ sD) ∧
    DatAll rest vs ds ∧ vs.length ≤ i ∧ runR (evs.take i) st0 = (ms, ks, ds) ∧
    m' (Str.ofString "masks") = some (.ref mD) ∧ m' (Str.ofString "kept") = some (.ref kD) ∧ m' (Str.ofString "seen") = some (.ref sD)
theorem strVal_get {l : List (Str × Tok)} {rows : List Str} {i : Nat} {v : Value} (e : l.map (·.1) = rows) (h : (strValues l)[i]? = some v) : ∃ y t, v = .str y t ∧ rows[i]? = some y := by
  unfold strValues at h
  rw [List.getElem?_map] at h
  cases q : l[i]? with
  | none => rw [q] at h; cases h
  | some a =>
    rw [q] at h
    refine ⟨a.1, a.2, (Option.some.inj h).symm, ?_⟩
    rw [← e, List.getElem?_map, q]; rfl
noncomputable def GdS (A₀ : Around) (base : Heap) (outer : List Env) (g₀ g : Heap) : Prop := KtsTurn (fsOf outer) g₀ g ∧ Below A₀ base outer g ∧ KtsDicts (fsOf outer) g
theorem run_enter {g h : Heap} {L : Addr} {D9 lD sD kD mD : Addr} {vs : List Value} {o1 : Obj} {V : Addr × Obj} {news : List (Addr × Obj)} {u0 u1 u2 u3 : Tok} {nk nm : Nat} {f : Str → Option Value} {evs : List Ev} {xvs : List Value} {xs : List Int} (hxi : IntsAre xvs xs) (hx4 : xs.length = 4)
    (N : News g L h ((D9, listOf vs.toArray 0) :: (lD, o1) :: (sD, listOf #[] 0) :: (kD, listOf xvs.toArray nk) :: (mD, listOf #[.int 43690 u0, .int 52428 u1, .int 61680 u2, .int 65280 u3] nm) :: V :: news))
    (l1 : V.1 < mD ∧ AllLt mD news) (l2 : mD < kD ∧ V.1 < kD ∧ AllLt kD news) (l3 : kD < sD ∧ mD < sD ∧ V.1 < sD ∧ AllLt sD news) (l4 : sD < lD ∧ kD < lD ∧ mD < lD ∧ V.1 < lD ∧ AllLt lD news) (l5 : lD < D9 ∧ sD < D9 ∧ kD < D9 ∧ mD < D9 ∧ V.1 < D9 ∧ AllLt D9 news) :
    ∃ sp nw, News g L h nw ∧ News g L h sp ∧ (D9, listOf vs.toArray 0) ∈ sp ∧ (∀ q ∈ V :: news, q ∈ sp) ∧
      (∀ q ∈ sp, q ∈ nw) ∧ (@LT.lt Nat _ mD kD ∧ @LT.lt Nat _ kD sD) ∧
      RunP sp mD kD sD evs ([43690, 52428, 61680, 65280], xs, []) 0 nw (fun y => if y = Str.ofString "seen" then some (.ref sD) else if y = Str.ofString "kept" then some (.ref kD) else if y = Str.ofString "masks" then some (.ref mD) else f y) := by
  have lt : ∀ {d : Nat} {l : List (Addr × Obj)}, AllLt d l → ∀ q ∈ l, q.1 ≠ d := by
    intro d l
    induction l with
    | nil => intro _ q hq; cases hq
    | cons a l ih =>
      intro h q hq
      rcases List.mem_cons.mp hq with rfl | hq
      · exact Nat.ne_of_lt h.1
      · exact ih h.2 q hq
  have far : ∀ {d : Addr}, D9 ≠ d → lD ≠ d → V.1 ≠ d → (∀ q ∈ news, q.1 ≠ d) → ∀ q ∈ (D9, listOf vs.toArray 0) :: (lD, o1) :: V :: news, q.1 ≠ d := by
    intro d h1 h2 h3 h4 q hq
    rcases List.mem_cons.mp hq with rfl | hq
    · exact h1
    rcases List.mem_cons.mp hq with rfl | hq
    · exact h2
    rcases List.mem_cons.mp hq with rfl | hq
    · exact h3
    · exact h4 q hq
  refine ⟨(D9, listOf vs.toArray 0) :: (lD, o1) :: V :: news, (mD, listOf #[.int 43690 u0, .int 52428 u1, .int 61680 u2, .int 65280 u3] nm) :: (kD, listOf xvs.toArray nk) :: (sD, listOf #[] 0) :: ((D9, listOf vs.toArray 0) :: (lD, o1) :: V :: news), fun q hq => N q ?_, fun q hq => N q ?_, .head _, fun q hq => .tail _ (.tail _ hq), fun q hq => .tail _ (.tail _ (.tail _ hq)), ⟨l2.1, l3.1⟩, nm, nk, 0, [.int 43690 u0, .int 52428 u1, .int 61680 u2, .int 65280 u3], xvs, [], [], _, [43690, 52428, 61680, 65280], xs, rfl, .cons _ _ (.cons _ _ (.cons _ _ (.cons _ _ .nil))), rfl, hxi, hx4, fun q hq => hq, fun q hq => .inl hq, ?_, ?_, ?_, .nil, Nat.le_refl _, rfl, ?_, ?_, ?_⟩
  · simp only [List.mem_cons, List.nil_append] at hq ⊢
    grind
  · simp only [List.mem_cons] at hq ⊢
    grind
  · exact far (Nat.ne_of_gt l5.2.2.2.1) (Nat.ne_of_gt l4.2.2.1) (Nat.ne_of_lt l1.1) (lt l1.2)
  · exact far (Nat.ne_of_gt l5.2.2.1) (Nat.ne_of_gt l4.2.1) (Nat.ne_of_lt l2.2.1) (lt l2.2.2)
  · exact far (Nat.ne_of_gt l5.2.1) (Nat.ne_of_gt l4.1) (Nat.ne_of_lt l3.2.2.1) (lt l3.2.2.2)
  · exact (if_neg (by decide)).trans ((if_neg (by decide)).trans (if_pos rfl))
  · exact (if_neg (by decide)).trans (if_pos rfl)
  · exact if_pos rfl
theorem kw_Crun_2 : True := by
  k_with "my args" => (((case k1 => k_asm); (case k2 => k_asm); (case k3 => k_asm); (case k4 => k_asm); (case kK => k_asm); (case k5 => exact rfl); (case kd => ktr_room); (case ku => ktr_units)))
  k_with "call ref" => (((with_reducible show wpAny _ _ (PySem.call (Value.ref 145) _ _) _ _ _); k_dflt ((refine' cnt_ok ?k1 ?k2 ?kK ?k3 ?k4 ?k5 ?kd ?ku ?ka ?kb ?kc ?_; walk_at "my args"; (case ka => assumption); (case kb => exact Nat.succ_ne_zero _); (case kc => exact Nat.lt_succ_self _)); intro t'ₓ h'ₓ tk'ₓ F'ₓ N'ₓ)))
  k_with "call ref" => (((with_reducible show wpAny _ _ (PySem.call (Value.ref 75) _ _) _ _ _); k_dflt ((refine' par_row ?k1 ?k2 ?kK ?k3 ?k4 ?k5 ?kd ?ku ?hp ?rc ?rm ?ro; walk_at "my args"; (case hp => assumption)); (case' rc => (intro hevₓ; unfold ParEnd; intro e'ₓ t'ₓ h'ₓ G'ₓ tk'ₓ FG'ₓ S'ₓ U'ₓ; (try dsimp only))); (case' rm => (intro hevₓ; unfold ParEnd; intro e'ₓ t'ₓ h'ₓ G'ₓ tk'ₓ FG'ₓ S'ₓ U'ₓ; (try dsimp only))); (case' ro => (intro pl'ₓ q'ₓ hev'ₓ hmod'ₓ hpl'ₓ D'ₓ t4'ₓ t5'ₓ h'ₓ tk'ₓ F'ₓ N'ₓ l1ₓ; (try k_lt l1ₓ))))))
  k_with "call ref" => (((with_reducible show wpAny _ _ (PySem.call (Value.ref 159) _ _) _ _ _); k_dflt ((refine' idx_ok ?k1 ?k2 ?kK ?k3 ?k4 ?k5 ?kd ?ku ?ka ?kb ?kc ?ke ?kf ?_; walk_at "my args"; (case ka => assumption); (case kb => exact Nat.succ_ne_zero _); (case kc => exact Nat.lt_succ_self _); (case ke => assumption); (case kf => assumption)); intro t'ₓ h'ₓ tk'ₓ F'ₓ N'ₓ)))
  k_with "call ref" => (((with_reducible show wpAny _ _ (PySem.call (Value.ref 214) _ _) _ _ _); k_dflt ((refine' pair_ok ?k1 ?k2 ?kK ?k3 ?k4 ?k5 ?kd ?ku ?_; walk_at "my args"); intro D'ₓ u'ₓ v'ₓ t1'ₓ t2'ₓ h'ₓ tk'ₓ huv'ₓ F'ₓ N'ₓ l1ₓ; (try k_lt l1ₓ))))
  k_with "subscriptTail" => (((with_reducible show wpAny _ _ (subscriptTail _ _ (Value.str _ _) (Value.int _ _)) _ _ _); refine item_eq (by with_reducible assumption) (by omega) ?_; intro _ _))
  k_with "subscriptTail Name Name str int" => (((with_reducible show wpAny _ _ (subscriptTail _ _ (Value.str _ _) (Value.int _ _)) _ _ _); refine item_eq (by with_reducible assumption) (by omega) ?_; intro _ _))
  k_with "subscriptTail" => (((with_reducible show wpAny _ _ (subscriptTail _ _ (Value.ref 191) (Value.str _ _)) _ _ _); refine tok_item (by assumption) (by k_asm) (by k_asm) ?_; intro t'ₓ))
  k_with "call builtin:list.append" => ((k_dflt (refine' append_K ?k1 ?k2 ?k3 ?_ ?z; (case k1 => k_asm); (case k2 => k_asm); (case k3 => k_upd); (case z => assumption)); intro h'ₓ F'ₓ N'ₓ))
  trivial
theorem mod_hid0 {x y : Int} {t u : Tok} {A : Around} {pl : Nat} (e : Hide (x.fmod y = (pl : Int))) (hy : y ≠ 0) (h : Q (.int pl s.toks) { s with toks := s.toks + 1 }) : wpAny (Mo w) A (binaryOp .Mod (.int x t) (.int y u)) Q E s := mod_int' hy (by
  rw [e.out]; exact h)
theorem kw_Crun_3 : True := by
  k_with "binaryOp Mod int int" => (refine mod_hid0 (by with_reducible assumption) (by decide) ?_)
  k_with "ite" => (((with_reducible show if decide (List.getD _ _ _ < List.getD _ _ _) = true then _ else _); refine stop_ ?_))
  trivial
theorem runR_take {evs : List Ev} {i : Nat} {ev : Ev} {st0 : Rst} (h : evs[i]? = some ev) : runR (evs.take (i + 1)) st0 = stepR (runR (evs.take i) st0) ev := by
  unfold runR
  rw [List.take_add_one, h, Option.toList_some, List.foldl_append]
  rfl
theorem run_end {Gd : Heap → Prop} {g h' : Heap} {L it mD kD sD : Addr} {o : Obj} {s : Shared} {tk' : Nat} {R : Result → Shared → Prop} {f : Str → Option Value} {sp rest rest' : List (Addr × Obj)} {evs : List Ev} {ev : Ev} {st0 : Rst} {i : Nat} {ms ms' ks ks' : List Int} {ds : List Dat} {mvs' kvs' vs : List Value} {nm nk ns : Nat} {v : Value} {d : Dat}
    (hst : Hide (runR (evs.take i) st0 = (ms, ks, ds))) (hev : evs[i]? = some ev) (hstep : stepR (ms, ks, ds) ev = (ms', ks', ds ++ [d])) (G : Gd g)
    (F : Fr g L h' f) (hm1 : f (Str.ofString "masks") = some (.ref mD)) (hm2 : f (Str.ofString "kept") = some (.ref kD)) (hm3 : f (Str.ofString "seen") = some (.ref sD))
    (N : News g L h' ((it, o) :: (mD, listOf mvs'.toArray nm) :: (kD, listOf kvs'.toArray nk) :: (sD, listOf (vs.toArray.push v) ns) :: rest'))
    (hmi : IntsAre mvs' ms') (hml : ms'.length = 4) (hki : IntsAre kvs' ks') (hkl : ks'.length = 4) (hsr : ∀ q ∈ sp, q ∈ rest) (htup : ∀ q ∈ rest', q ∈ sp ∨ q.2.cls = .type "tuple") (hrm : ∀ q ∈ rest', q.1 ≠ mD) (hrk : ∀ q ∈ rest', q.1 ≠ kD) (hrs : ∀ q ∈ rest', q.1 ≠ sD)
    (hds : DatAll rest vs ds) (hvl : Hide (vs.length ≤ i)) (hd : DatIn rest' v d) (hrr : ∀ q ∈ rest, q ∈ rest') :
    TurnG Gd L it o 0 (RunP sp mD kD sD evs st0 (i + 1)) s R .next { s with heap := h', toks := tk' } := by
  refine ⟨g, h', tk', f, (mD, listOf mvs'.toArray nm) :: (kD, listOf kvs'.toArray nk) :: (sD, listOf (vs ++ [v]).toArray ns) :: rest', rfl, Nat.zero_le _, G, F, ?_, nm, nk, ns, mvs', kvs', vs ++ [v], ds ++ [d], rest', ms', ks', rfl, hmi, hml, hki, hkl, fun q hq => hrr q (hsr q hq), htup, hrm, hrk, hrs, (hds.mono hrr).append (.one hd), ?_, ?_, hm1, hm2, hm3⟩
  · rw [List.push_toArray] at N
    exact N
  · rw [List.length_append, List.length_singleton]
    exact Nat.succ_le_succ hvl.out
  · rw [runR_take hev, hst.out]
    exact hstep
theorem news_p0 {g h : Heap} {L : Addr} {a i x y z : Addr × Obj} {rest : List (Addr × Obj)} (N : News g L h (a :: i :: x :: y :: z :: rest)) : News g L h (i :: x :: y :: z :: rest) := fun q hq => N q (.tail _ hq)
theorem news_p4 {g h : Heap} {L : Addr} {a b c d e i x y z : Addr × Obj} {rest : List (Addr × Obj)} (N : News g L h (a :: b :: c :: d :: e :: i :: x :: y :: z :: rest)) : News g L h (i :: x :: y :: z :: a :: rest) := fun q hq => N q (by simp only [List.mem_cons] at hq ⊢; grind)
theorem run_step {ms ks ds} {num u v : Int} {pl c3 : Nat} (huv : (u, v) = pairF num (ms.getD (pl : Int).toNat 0) (ms.getD ((pl : Int) + 1).toNat 0)) (hnum : c3 = 38 ∧ num = 19 ∨ c3 = 124 ∧ num = 18 ∨ c3 = 45 ∧ num = 15) {k' : List Int} (hk : swapK ks pl = k') :
    stepR (ms, ks, ds) (.ok num pl) = ((ms.set (pl : Int).toNat u).set ((pl : Int) + 1).toNat v, k', ds ++ [.tuple [.int num, .int pl, .str (if decide (num < 256) = true then Str.ofString "True" else Str.ofString "False"), .str (if (!decide (ms = (ms.set (pl : Int).toNat u).set ((pl : Int) + 1).toNat v)) = true then Str.ofString "True" else Str.ofString "False")]]) := by
  have e1 : ((pl : Int)).toNat = pl := by omega
  have e2 : ((pl : Int) + 1).toNat = pl + 1 := by omega
  have e3 : decide (num < 256) = true := by
    rcases hnum with h | h | h <;> rw [h.2] <;> decide
  rw [e1, e2] at huv ⊢
  have e4 : pairM num ms pl = (ms.set pl u).set (pl + 1) v := by
    unfold pairM
    rw [← huv]
  simp only [stepR, e4, hk, tellB, e3, if_true, decide_not, ne_eq]
noncomputable def RunFar (D mD kD sD : Addr) (rest : List (Addr × Obj)) : Prop := (@Ne Nat mD D ∧ @Ne Nat kD D ∧ @Ne Nat sD D ∧ @Ne Nat mD kD ∧ @Ne Nat mD sD ∧ @Ne Nat kD sD) ∧ (∀ q ∈ rest, q.1 ≠ mD) ∧ (∀ q ∈ rest, q.1 ≠ kD) ∧ (∀ q ∈ rest, q.1 ≠ sD)
theorem strLen {l : List (Str × Tok)} {rows : List Str} (e : l.map (·.1) = rows) : (strValues l).length = rows.length := by rw [← e]; simp [strValues]
theorem run_ok {x : Str} {tx : Tok} {vD : Addr} {n0 : Nat} {xvs : List Value} {xs : List Int} {rows : List Str} {last : Str} {evs : List Ev} (B : Below A₀ base outer h₀) (F : Fr h₀ L s.heap m) (X : (K91 w.params).In h₀) (N : News h₀ L s.heap ((vD, listOf xvs.toArray n0) :: news)) (T : Top p loose mean mg mb h₀) (D : KtsDicts (fsOf outer) h₀) (XB : (K91 w.params).In base) (TB : Top p loose mean mg mb base) (hk : cs.kind = .function) (hd : dp + 19 < recursionLimit) (hu : un + 200 < cLine)
   (hxi : IntsAre xvs xs) (hx4 : xs.length = 4) (hx : x.length + 2 ≤ sizeLine) (hs : Txt.split x (Str.ofString "\r\n") = rows ++ [last]) (hrl : rows.length ≤ 100) (he : evs.length = rows.length) (hr : ∀ (i : Nat) (y : Str) (ev : Ev), rows[i]? = some y → evs[i]? = some ev → RowOk y ev)
   (ret : ∀ h₁ D mD kD sD nm nk ns mvs kvs vs ms ks ds rest h' tk', runR evs ([43690, 52428, 61680, 65280], xs, []) = (ms, ks, ds) → IntsAre mvs ms → ms.length = 4 → IntsAre kvs ks → ks.length = 4 → DatAll rest vs ds → vs.length ≤ 100 → (∀ q ∈ (vD, listOf xvs.toArray n0) :: news, q ∈ rest) →
     KtsTurn (fsOf outer) h₀ h₁ → Below A₀ base outer h₁ → KtsDicts (fsOf outer) h₁ → Fr h₁ L h' m → News h₁ L h' ((D, { cls := .type "tuple", data := .seq #[.ref mD, .ref kD, .ref sD] }) :: (mD, listOf mvs.toArray nm) :: (kD, listOf kvs.toArray nk) :: (sD, listOf vs.toArray ns) :: rest) → RunFar D mD kD sD rest → Q (.ref D) { s with heap := h', toks := tk' }) :
   wpAny (Mo w) (ktrTop dp un gd cn cs L a ccd cl outer) (call (.ref 221) [.str x tx, .ref vD] []) Q E s := by
  have hS : St s.gens s.drawn s.os := trivial
  refine wpAny_call (code_S (env := envX cn cs L a ccd cl) (K := K91 w.params) (binds := [(Str.ofString "text", .str x tx), (Str.ofString "values", .ref vD)]) B F X N T D rfl rfl hk (by k_is) (by k_is) (by ktr_room) (BindsTo.of_eq rfl) (locs rfl) (fun g' L' h' FG F' N' B' X' T' D' => ?_) rfl rfl rfl (by decide))
  k_fold
  k_steps
  refine go_ ?_
  rename Fr _ _ _ _ => F9
  rename News _ _ _ _ => N9
  obtain ⟨sp, nw, Nw, Ns, hD9, hsub, hspn, ⟨hmk, hks⟩, P0⟩ := run_enter (evs := evs) hxi hx4 N9 (by assumption) (by assumption) (by assumption) (by assumption) (by assumption)
  rename List.map _ _ = rows => e8
  refine for_list (nl := 0) (news := sp) 0 (GdS (ktrTop dp un gd cn cs L a ccd cl outer) base (envX cn cs L a ccd cl :: outer) g') (RunP sp _ _ _ evs ([43690, 52428, 61680, 65280], xs, [])) rfl rfl rfl ?hl ?hP ⟨KtsTurn.refl, B', D'⟩ F9 Nw Ns (hspn _ hD9) (Nat.zero_le _) P0 ?turn ?done
  case hl =>
    rintro i nw m ⟨nm, nk, ns, mvs, kvs, vs, ds, rest, ms, ks, rfl, -, -, -, -, hsr, -⟩
    exact ⟨0, .tail _ (.tail _ (.tail _ (hsr _ hD9)))⟩
  case hP =>
    rintro i nw m q ⟨nm, nk, ns, mvs, kvs, vs, ds, rest, ms, ks, rfl, -, -, -, -, -, htup, -⟩ hq
    rcases List.mem_cons.mp hq with rfl | hq
    · exact .inr (by show Value.type _ ≠ Value.type _; simp)
    rcases List.mem_cons.mp hq with rfl | hq
    · exact .inr (by show Value.type _ ≠ Value.type _; simp)
    rcases List.mem_cons.mp hq with rfl | hq
    · exact .inr (by show Value.type _ ≠ Value.type _; simp)
    exact (htup q hq).imp id fun z => by rw [z]; simp
  case turn =>
    clear P0 Nw F9 N9
    rintro it i v g h tk m1 nw1 o hlt hv - ⟨T1, B1, D1⟩ F1 N1 ⟨nm, nk, ns, mvs, kvs, vs, ds, rest, ms, ks, rfl, hmi, hm4, hki, hk4, hsr, htup, hrm, hrk, hrs, hds, hvl, hst, hm1, hm2, hm3⟩ hit
    have hi1 := neN (hit _ (.head _))
    have hi2 := neN (hit _ (.tail _ (.head _)))
    have hi3 := neN (hit _ (.tail _ (.tail _ (.head _))))
    have hri : ∀ q ∈ rest, q.1 ≠ it := fun q hq => hit q (.tail _ (.tail _ (.tail _ hq)))
    clear hit
    dsimp only at hi1 hi2 hi3
    obtain ⟨y, t, rfl, hy⟩ := strVal_get e8 hv
    have hil := (List.getElem?_eq_some_iff.mp hy).1
    obtain ⟨ev, hev⟩ : ∃ ev, evs[i]? = some ev := ⟨_, List.getElem?_eq_getElem (by rw [he]; exact hil)⟩
    obtain ⟨num, k, c3, ha, hyl, hpar, hk1, hk0, hk90, hc3, hnum⟩ := hr i y ev hy hev
    rw [map3d hm1 hm2 hm3] at F1
    have X1 : (K91 w.params).In g := XB.keeps B1.stays
    have TT1 : Top p loose mean mg mb g := TB.keeps B1.stays
    have hvz : vs.toArray.size ≤ sizeLine := Nat.le_trans (by simp; omega) (show 100 ≤ sizeLine by decide)
    replace hst := hide hst
    replace he := hide he
    replace hil := hide hil
    replace hvl := hide hvl
    replace hrl := hide hrl
    clear FG B' X' T' D' N F B T X D hv hr hs
    k_steps
    all_goals (with_reducible rename Fr _ _ _ _ => F9)
    all_goals (with_reducible rename News _ _ _ _ => N9)
    all_goals first
      | exact run_end hst hev (by rw [show ev = Ev.code by assumption]; rfl) ⟨by assumption, by assumption, by assumption⟩ F9 rfl rfl rfl (news_p0 N9) hmi hm4 hki hk4 hsr htup hrm hrk hrs hds hvl (.str _ _) (fun q hq => hq)
      | exact run_end hst hev (by rw [show ev = Ev.marks by assumption]; rfl) ⟨by assumption, by assumption, by assumption⟩ F9 rfl rfl rfl (news_p0 N9) hmi hm4 hki hk4 hsr htup hrm hrk hrs hds hvl (.str _ _) (fun q hq => hq)
      | skip
    refine go_ ?_
    refine swap_join (up := fun x => _ :: _ :: _ :: _ :: (it, o) :: _ :: (_, listOf x.toArray nk) :: (_, listOf vs.toArray ns) :: rest) (st' := swapK ks _) hki F9 N9 (fun hc => run_stay (fun q => hc (decide_eq_true q))) ?sj ?_
    case sj =>
      intro hc
      k_steps
      with_reducible rename News _ _ _ _ => N6
      exact ⟨rfl, _, _, _, rfl, by rw [run_swap (of_decide_eq_true hc)]; assumption, by k_asm, fun q hq => N6 q (.tail _ hq)⟩
    intro h5 tk5 kvs5 hi5 F5 N5
    clear F9 N9
    k_steps
    with_reducible rename Fr _ _ _ _ => F9
    with_reducible rename News _ _ _ _ => N9
    refine run_end hst hev ?hs ⟨T1, B1, by assumption⟩ F9 rfl rfl rfl (news_p4 N9) (by assumption) ?hl hi5 ?hl2 hsr (List.forall_mem_cons.mpr ⟨.inr rfl, htup⟩) (List.forall_mem_cons.mpr ⟨?h1, hrm⟩) (List.forall_mem_cons.mpr ⟨?h2, hrk⟩) (List.forall_mem_cons.mpr ⟨?h3, hrs⟩) hds hvl (.tuple (List.mem_cons_self ..) (.cons (.int _ _) (.cons (.int _ _) (.cons (.str _ _) (.cons (.str _ _) .nil))))) (fun q hq => .tail _ hq)
    case h1 => k_ne
    case h2 => k_ne
    case h3 => k_ne
    case hl => simp only [List.length_set]; exact hm4
    case hl2 => rw [swap_len]; exact hk4
    case hs => rw [show ev = Ev.ok num _ by assumption]; exact run_step (by assumption) hnum rfl
  case done =>
    clear P0 Nw F9 N9
    rintro g h tk m1 nw1 - ⟨T1, B1, D1⟩ F1 N1 ⟨nm, nk, ns, mvs, kvs, vs, ds, rest, ms, ks, rfl, hmi, hm4, hki, hk4, hsr, htup, hrm, hrk, hrs, hds, hvl, hst, hm1, hm2, hm3⟩
    rw [map3d hm1 hm2 hm3] at F1
    rw [strLen e8, ← he, List.take_length] at hst
    have hvl' : vs.length ≤ 100 := by rw [strLen e8] at hvl; omega
    replace hrm := hide hrm
    replace hrk := hide hrk
    replace hrs := hide hrs
    clear F N B' X' T' D'
    k_steps
    with_reducible rename Fr _ _ _ _ => F9
    with_reducible rename News _ _ _ _ => N9
    exact ⟨_, _, _, _, T1, F9, N9, fun h₁ T₁ F₁ N₁ B₁ D₁ => ret h₁ _ _ _ _ _ _ _ _ _ _ _ _ _ _ _ _ hst hmi hm4 hki hk4 hds hvl' (fun q hq => hsr q (hsub q hq)) T₁ B₁ D₁ F₁ N₁ ⟨⟨by k_ne, by k_ne, by k_ne, by k_ne, by k_ne, by k_ne⟩, hrm.out, hrk.out, hrs.out⟩⟩
end
end
section
open PySem PySem.W PyProof.Rows PySem.Spec PySem.Calls
theorem kw_Cdue_0 : True := by
  k_with_none
  k_with "my enter" => ((refine' code_def ?k1 ?k2 ?k3 ?k4 ?k5 ?kA ?kF ?kK ?k6 ?k7 ?k8 ?k9 ?kB ?_ ?c2 ?c3 ?c4 ?c5; (case kA => exact rfl); (case kF => exact rfl); (case kK => first | exact rfl | assumption); (case k1 => k_asm); (case k2 => k_asm); (case k3 => k_asm); (case k4 => k_asm); (case k5 => k_asm); (case k6 => k_is); (case k7 => k_is); (case k8 => ktr_room); (case k9 => exact BindsTo.of_eq rfl); (case c5 => decide); (case kB => exact locs rfl); (case c2 => exact rfl); (case c3 => exact rfl); (case c4 => exact rfl); k_whole; intro g'ₓ L'ₓ h'ₓ FG'ₓ F'ₓ N'ₓ B'ₓ X'ₓ T'ₓ; (try dsimp only); (try k_lift B'ₓ); (try k_fold)))
  k_with "call ref" => ((k_here; (with_reducible show wpAny _ _ (PySem.call (Value.ref _) _ _) _ _ _); (refine wpAny_call ?_); k_dflt (walk_at "my enter")))
  k_with "my asm" => (((case k1 => k_asm); (case k2 => k_asm); (case k3 => k_asm); (case k4 => k_asm); (case k5 => k_asm); (case kK => first | exact rfl | assumption); (case kd => ktr_room); (case ku => ktr_units)))
  k_with "execs cons" => (refine wpAny_execs_cons ?_)
  k_with "execs nil" => (refine wpAny_execs_nil ?_)
  k_with "execs cons" => ((refine gen_toks (X := _ + 1 + 1 + 1 + 1) ?_; intro tkₓ htkₓ; (try dsimp only at htkₓ)))
  k_with "execs nil" => ((refine gen_toks (X := _ + 1 + 1 + 1 + 1) ?_; intro tkₓ htkₓ; (try dsimp only at htkₓ)))
  k_with "execs cons" => ((refine' gen_norm ?kS ?kF ?kE ?_; (case kS => with_reducible assumption); (case kF => with_reducible assumption); (case kE => exact rfl); intro tkₓ htkₓ; (try dsimp only at htkₓ)))
  k_with "execs nil" => ((refine' gen_norm ?kS ?kF ?kE ?_; (case kS => with_reducible assumption); (case kF => with_reducible assumption); (case kE => exact rfl); intro tkₓ htkₓ; (try dsimp only at htkₓ)))
  k_with "call type:str" => (refine P.str_of_bool ?_)
  k_with "callWith" => (first
    | ((try dsimp only); (with_reducible show wpAny _ _ (callWith _ (Value.builtin _) _ _ _) _ _ _); refine callWith_method1 ?_)
    | ((try dsimp only); (with_reducible show wpAny _ _ (callWith _ (Value.type _) _ _ _) _ _ _); refine callWith_type1 ?_))
  trivial
variable {w : World} {p : Program} {loose : List Str} {mean : ExcName → Option Value} {mg mb : Str → Option Value} {dp un : Nat} {gd : Option (List Code)} {cn : Str} {cs : Scope} {a : Addr} {ccd : Value} {cl : List (Str × Addr)} {outer : List Env} {A₀ : Around} {base h₀ : Heap} {L : Addr} {m : Str → Option Value} {s : Shared} {Q E : Value → Shared → Prop} {news : List (Addr × Obj)}
theorem filled_Cdue : (K91 = K91) ∧ (PySem.Challenge.rw_wn0091_01.most = some 63) := by
  k_fill
  exact ⟨rfl, rfl⟩

abbrev Dst := List Int × List Dat
noncomputable def stepD (st : Dst) : Ev → Dst
  | .code => (st.1, st.2 ++ [.str (Str.ofString "code")])
  | .marks => (st.1, st.2 ++ [.str (Str.ofString "marks")])
  | .ok num q => (swapK st.1 q, st.2 ++ [.tuple [.int num, .int q, tellB true, tellB (decide (st.1.getD (q + 1) 0 < st.1.getD q 0))]])
noncomputable def runD (evs : List Ev) (st : Dst) : Dst := evs.foldl stepD st
/-- what a number of the script is to the second reader -/
noncomputable def DueOk (v times : Int) (ev : Ev) : Prop :=
  ∃ (num : Int) (pl : Nat), 0 ≤ v ∧ v < 1000000 ∧ ([19, 18, 15] : List Int)[((v.fdiv 8).fmod 3).toNat]? = some num ∧ pl ≤ 2 ∧
    (0 < (v.fdiv 72).fmod 3 → ((v.fdiv 216).fmod 100 + ((v.fdiv 72).fmod 3 + times)).fmod 3 = (pl : Int)) ∧ (¬ 0 < (v.fdiv 72).fmod 3 → ((v.fdiv 216).fmod 100 + (v.fdiv 72).fmod 3).fmod 3 = (pl : Int)) ∧
    (v.fmod 8 = 5 → ev = .code) ∧ (5 < v.fmod 8 → ev = .marks) ∧ (v.fmod 8 ≠ 5 → ¬ 5 < v.fmod 8 → ev = .ok num pl)
noncomputable def DueP (times : Int) (tt : Tok) (sp : List (Addr × Obj)) (tD sD : Addr) (evs : List Ev) (st0 : Dst) (i : Nat) (nw : List (Addr × Obj)) (m' : Str → Option Value) : Prop :=
  ∃ (nt ns : Nat) (tvs vs : List Value) (ds : List Dat) (rest : List (Addr × Obj)) (st : List Int),
    nw = (tD, listOf tvs.toArray nt) :: (sD, listOf vs.toArray ns) :: rest ∧ IntsAre tvs st ∧ st.length = 4 ∧
    (∀ q ∈ sp, q ∈ rest) ∧ (∀ q ∈ rest, q ∈ sp ∨ q.2.cls = .type "tuple") ∧ (∀ q ∈ rest, q.1 ≠ tD) ∧ (∀ q ∈ rest, q.1 ≠ sD) ∧
    DatAll rest vs ds ∧ vs.length ≤ i ∧ runD (evs.take i) st0 = (st, ds) ∧
    m' (Str.ofString "stand") = some (.ref tD) ∧ m' (Str.ofString "seen") = some (.ref sD) ∧ m' (Str.ofString "times") = some (.int times tt)
theorem ints_at : ∀ {vs : List Value} {ns : List Int}, IntsAre vs ns → ∀ {i : Nat} {v : Value}, vs[i]? = some v → ∃ n t, ns[i]? = some n ∧ v = .int n t
  | _, _, .nil, i, v, h => by cases i <;> cases h
  | _, _, .cons n t _, 0, v, h => ⟨n, t, rfl, (Option.some.inj h).symm⟩
  | _, _, .cons _ _ r, i + 1, v, h => ints_at r (i := i) h
theorem mod_hid {x y : Int} {t u : Tok} {A : Around} {pl : Nat} (e : Hide (x.fmod y = (pl : Int))) (hy : y ≠ 0) (h : Q (.int pl s.toks) { s with toks := s.toks + 1 }) : wpAny (Mo w) A (binaryOp .Mod (.int x t) (.int y u)) Q E s := mod_int' hy (by
  rw [e.out]; exact h)
theorem allLt_mem' {d : Addr} {l : List (Addr × Obj)} (h : AllLt d l) : ∀ p ∈ l, p.1 < d := by
  induction l with
  | nil => intro p hp; cases hp
  | cons a l ih =>
    intro p hp
    rcases List.mem_cons.mp hp with rfl | hp
    · exact h.1
    · exact ih h.2 p hp
theorem due_enter {g h : Heap} {L : Addr} {sD tD : Addr} {times : Int} {tt : Tok} {news : List (Addr × Obj)} {u0 u1 u2 u3 : Tok} {nt : Nat} {f : Str → Option Value} {evs : List Ev} 
    (F : Fr g L h (fun y => if y = Str.ofString "seen" then some (.ref sD) else if y = Str.ofString "stand" then some (.ref tD) else f y)) (hf : f (Str.ofString "times") = some (.int times tt)) (N : News g L h ((sD, listOf #[] 0) :: (tD, listOf #[.int 3 u0, .int 2 u1, .int 1 u2, .int 0 u3] nt) :: news)) (l1 : ∀ p ∈ news, p.1 < tD) (l2 : @LT.lt Nat _ tD sD ∧ AllLt sD news) :
    ∃ nw, News g L h nw ∧ News g L h news ∧ (∀ q ∈ news, q ∈ nw) ∧ @LT.lt Nat _ tD sD ∧
      DueP times tt news tD sD evs ([3, 2, 1, 0], []) 0 nw (fun y => if y = Str.ofString "seen" then some (.ref sD) else if y = Str.ofString "stand" then some (.ref tD) else f y) := by
  refine ⟨(tD, listOf #[.int 3 u0, .int 2 u1, .int 1 u2, .int 0 u3] nt) :: (sD, listOf #[] 0) :: news, fun q hq => N q ?_, fun q hq => N q (.tail _ (.tail _ hq)), fun q hq => .tail _ (.tail _ hq), l2.1, nt, 0, [.int 3 u0, .int 2 u1, .int 1 u2, .int 0 u3], [], [], news, [3, 2, 1, 0], rfl, .cons _ _ (.cons _ _ (.cons _ _ (.cons _ _ .nil))), rfl, fun q hq => hq, fun q hq => .inl hq, fun q hq => Nat.ne_of_lt (l1 q hq), fun q hq => Nat.ne_of_lt (allLt_mem' l2.2 q hq), .nil, Nat.le_refl _, rfl, ?_, ?_, ?_⟩
  · simp only [List.mem_cons] at hq ⊢
    grind
  · exact (if_neg (by decide)).trans (if_pos rfl)
  · exact if_pos rfl
  · exact (if_neg (by decide)).trans ((if_neg (by decide)).trans hf)
theorem runD_take {evs : List Ev} {i : Nat} {ev : Ev} {st0 : Dst} (h : evs[i]? = some ev) : runD (evs.take (i + 1)) st0 = stepD (runD (evs.take i) st0) ev := by
  unfold runD
  rw [List.take_add_one, h, Option.toList_some, List.foldl_append]
  rfl
theorem due_end {g h' : Heap} {L it tD sD : Addr} {o : Obj} {s : Shared} {tk' : Nat} {R : Result → Shared → Prop} {f : Str → Option Value} {times : Int} {tt : Tok} {sp rest rest' : List (Addr × Obj)} {evs : List Ev} {ev : Ev} {st0 : Dst} {i : Nat} {st st' : List Int} {ds : List Dat} {tvs' vs : List Value} {nt ns : Nat} {v : Value} {d : Dat}
    (hst : runD (evs.take i) st0 = (st, ds)) (hev : evs[i]? = some ev) (hstep : stepD (st, ds) ev = (st', ds ++ [d]))
    (F : Fr g L h' f) (hm1 : f (Str.ofString "stand") = some (.ref tD)) (hm2 : f (Str.ofString "seen") = some (.ref sD)) (hm3 : f (Str.ofString "times") = some (.int times tt))
    (N : News g L h' ((it, o) :: (tD, listOf tvs'.toArray nt) :: (sD, listOf (vs.toArray.push v) ns) :: rest'))
    (hi : IntsAre tvs' st') (hl : st'.length = 4) (hsr : ∀ q ∈ sp, q ∈ rest) (htup : ∀ q ∈ rest', q ∈ sp ∨ q.2.cls = .type "tuple") (hrt : ∀ q ∈ rest', q.1 ≠ tD) (hrs : ∀ q ∈ rest', q.1 ≠ sD)
    (hds : DatAll rest vs ds) (hvl : Hide (vs.length ≤ i)) (hd : DatIn rest' v d) (hrr : ∀ q ∈ rest, q ∈ rest') :
    TurnG (fun g1 => g1 = g) L it o 0 (DueP times tt sp tD sD evs st0 (i + 1)) s R .next { s with heap := h', toks := tk' } := by
  refine ⟨g, h', tk', f, (tD, listOf tvs'.toArray nt) :: (sD, listOf (vs ++ [v]).toArray ns) :: rest', rfl, Nat.zero_le _, rfl, F, ?_, nt, ns, tvs', vs ++ [v], ds ++ [d], rest', st', rfl, hi, hl, fun q hq => hrr q (hsr q hq), htup, hrt, hrs, (hds.mono hrr).append (.one hd), ?_, ?_, hm1, hm2, hm3⟩
  · rw [List.push_toArray] at N
    exact N
  · rw [List.length_append, List.length_singleton]
    exact Nat.succ_le_succ hvl.out
  · rw [runD_take hev, hst]
    exact hstep
noncomputable def DueFar (D tD sD : Addr) (rest : List (Addr × Obj)) : Prop := (@Ne Nat tD D ∧ @Ne Nat sD D ∧ @Ne Nat tD sD) ∧ (∀ q ∈ rest, q.1 ≠ tD) ∧ (∀ q ∈ rest, q.1 ≠ sD)
theorem due_step {st : List Int} {pl k : Nat} {num : Int} {ds : List Dat} (hn : ([19, 18, 15] : List Int)[k]? = some num) :
    stepD (st, ds) (.ok num pl) = (swapK st pl, ds ++ [.tuple [.int (([19, 18, 15] : List Int).getD k 0), .int pl, .str (Str.ofString "True"), .str (if decide (st.getD ((pl : Int) + 1).toNat 0 < st.getD (pl : Int).toNat 0) = true then Str.ofString "True" else Str.ofString "False")]]) := by
  have e1 : ((pl : Int)).toNat = pl := by omega
  have e2 : ((pl : Int) + 1).toNat = pl + 1 := by omega
  rw [e1, e2, due_num hn]
  simp only [stepD, tellB, if_true]
theorem due_news4 {g h : Heap} {L : Addr} {a b i t s : Addr × Obj} {rest : List (Addr × Obj)} (N : News g L h (a :: b :: i :: t :: s :: rest)) : News g L h (i :: t :: s :: a :: rest) := fun q hq => N q (by simp only [List.mem_cons] at hq ⊢; grind)
section
theorem kw_Cdue_1 : True := by
  k_with "pyIter ref" => (refine stop_ ?_)
  k_with "exec For" => (with_unfolding_all refine wpAny_For ?_)
  k_with "exec For Name Name cons nil" => (with_unfolding_all refine wpAny_For ?_)
  k_with "exec If" => (refine wpAny_If ?_)
  k_with "binaryOp Mod int int" => ((refine mod_hid (by with_reducible assumption) (by decide) ?_))
  k_with "call builtin:list.append" => ((k_dflt (refine' append_K ?k1 ?k2 ?k3 ?_ ?z; (case k1 => k_asm); (case k2 => k_asm); (case k3 => k_upd); (case z => assumption)); intro h'ₓ F'ₓ N'ₓ))
  k_with "ite" => ((first | (with_reducible show if decide (Int.fmod (Int.fdiv _ _) _ > _) = true then _ else _) | (with_reducible show if decide (_ < Int.fmod (Int.fdiv _ _) _) = true then _ else _) | (with_reducible show if decide (List.getD _ _ _ < List.getD _ _ _) = true then _ else _)); refine stop_ ?_)
  trivial
theorem due_ok {dD : Addr} {dvs : List Value} {dns : List Int} {nd : Nat} {times : Int} {tt : Tok} {evs : List Ev} (B : Below A₀ base outer h₀) (F : Fr h₀ L s.heap m) (X : (K91 w.params).In h₀) (N : News h₀ L s.heap news) (T : Top p loose mean mg mb h₀) (hk : cs.kind = .function) (hd : dp + 9 < recursionLimit) (hu : un + 100 < cLine)
   (hdm : (dD, listOf dvs.toArray nd) ∈ news) (hia : IntsAre dvs dns) (hti : 0 ≤ times ∧ times ≤ 2) (he : evs.length = dns.length) (hrl : dns.length ≤ 100) (hr : ∀ (i : Nat) (v : Int) (ev : Ev), dns[i]? = some v → evs[i]? = some ev → DueOk v times ev)
   (ret : ∀ D tD sD nt ns tvs vs ds rest st h' tk', runD evs ([3, 2, 1, 0], []) = (st, ds) → IntsAre tvs st → st.length = 4 → DatAll rest vs ds → vs.length ≤ 100 → (∀ q ∈ news, q ∈ rest) → Fr h₀ L h' m → News h₀ L h' ((D, { cls := .type "tuple", data := .seq #[.ref tD, .ref sD] }) :: (tD, listOf tvs.toArray nt) :: (sD, listOf vs.toArray ns) :: rest) → DueFar D tD sD rest → Q (.ref D) { s with heap := h', toks := tk' }) :
   wpAny (Mo w) (ktrTop dp un gd cn cs L a ccd cl outer) (call (.ref 228) [.ref dD, .int times tt] []) Q E s := by
  have hS : St s.gens s.drawn s.os := trivial
  refine wpAny_call (code_def (K := K91 w.params) (binds := [(Str.ofString "drawn", .ref dD), (Str.ofString "times", .int times tt)]) B F X N T rfl rfl hk (by k_is) (by k_is) (by ktr_room) (BindsTo.of_eq rfl) (locs rfl) (fun g' L' h' FG F' N' B' X' T' => ?_) rfl rfl rfl (by decide))
  k_fold
  k_steps
  refine go_ ?_
  rename Fr _ _ _ _ => F9
  rename News _ _ _ _ => N9
  obtain ⟨nw, Nw, Ns, hspn, hts, P0⟩ := due_enter (times := times) (tt := tt) (evs := evs) F9 (by rfl) N9 (by assumption) (by assumption)
  refine for_list (vs := dvs) (nl := nd) (news := news) 0 (fun g => g = g') (DueP times tt news _ _ evs ([3, 2, 1, 0], [])) rfl rfl rfl ?hl ?hP rfl F9 Nw Ns (hspn _ hdm) (Nat.zero_le _) P0 ?turn ?done
  case hl =>
    rintro i nw m ⟨nt, ns, tvs, vs, ds, rest, st, rfl, -, -, hsr, -⟩
    exact ⟨nd, .tail _ (.tail _ (hsr _ hdm))⟩
  case hP =>
    rintro i nw m q ⟨nt, ns, tvs, vs, ds, rest, st, rfl, -, -, -, htup, -⟩ hq
    rcases List.mem_cons.mp hq with rfl | hq
    · exact .inr (by show Value.type _ ≠ Value.type _; simp)
    rcases List.mem_cons.mp hq with rfl | hq
    · exact .inr (by show Value.type _ ≠ Value.type _; simp)
    exact (htup q hq).imp id fun z => by rw [z]; simp
  case turn =>
    rintro it i v g h tk m1 nw1 o hlt hv - rfl F1 N1 ⟨nt, ns, tvs, vs, ds, rest, st, rfl, hti4, hst4, hsr, htup, hrt, hrs, hds, hvl, hst, hm1, hm2, hm3⟩ hit
    have hi1 := neN (hit _ (.head _))
    have hi2 := neN (hit _ (.tail _ (.head _)))
    have hri : ∀ q ∈ rest, q.1 ≠ it := fun q hq => hit q (.tail _ (.tail _ hq))
    clear hit
    dsimp only at hi1 hi2
    obtain ⟨v, t, hy, rfl⟩ := ints_at hia hv
    have hil := (List.getElem?_eq_some_iff.mp hy).1
    obtain ⟨ev, hev⟩ : ∃ ev, evs[i]? = some ev := ⟨_, List.getElem?_eq_getElem (by rw [he]; exact hil)⟩
    obtain ⟨num, pl, hv0, hv1, hnum, hp2, hpa, hpb, ec, em, eo⟩ := hr i v ev hy hev
    have hvz : vs.toArray.size ≤ sizeLine := Nat.le_trans (by simp; omega) (show 100 ≤ sizeLine by decide)
    replace hpa := hide hpa
    replace hpb := hide hpb
    replace ec := hide ec
    replace em := hide em
    replace eo := hide eo
    replace he := hide he
    replace hrl := hide hrl
    replace hil := hide hil
    replace hvl := hide hvl
    rw [map3d hm1 hm2 hm3] at F1
    clear hv F N B X T F9 N9 P0 Nw
    k_steps
    refine go_ ?_
    with_reducible rename Fr _ _ _ _ => F2
    with_reducible rename News _ _ _ _ => N2
    refine dots_join (e := (v.fdiv 72).fmod 3 + times) F2 N2 ?dj ?_
    case dj =>
      intro hc
      clear F1 N1
      k_steps
      with_reducible rename Fr _ _ _ _ => F3
      exact dots_end F3 (by k_asm)
    intro d' h3 tk3 u3 hd1 hd2 F3 N3
    have hpp : Hide (((v.fdiv 216).fmod 100 + d').fmod 3 = (pl : Int)) := by
      by_cases h0 : 0 < (v.fdiv 72).fmod 3
      · rw [hd1 (decide_eq_true h0)]
        exact hide (hpa.out h0)
      · rw [hd2 (by simpa using h0)]
        exact hide (hpb.out h0)
    clear hpa hpb hd1 hd2 F1 N1 F2 N2
    k_steps
    all_goals (with_reducible rename Fr _ _ _ _ => F9)
    all_goals (with_reducible rename News _ _ _ _ => N9)
    all_goals first
      | exact due_end hst hev (by rw [ec.out (by assumption)]; rfl) F9 rfl rfl rfl N9 hti4 hst4 hsr htup hrt hrs hds hvl (.str _ _) (fun q hq => hq)
      | exact due_end hst hev (by rw [em.out (by assumption)]; rfl) F9 rfl rfl rfl N9 hti4 hst4 hsr htup hrt hrs hds hvl (.str _ _) (fun q hq => hq)
      | skip
    refine go_ ?_
    refine swap_join (up := fun x => (it, o) :: (_, listOf x.toArray nt) :: (_, listOf vs.toArray ns) :: rest) (st' := swapK st pl) hti4 F9 N9 (fun hc => run_stay (fun q => hc (decide_eq_true q))) ?sj ?_
    case sj =>
      intro hc
      k_steps
      with_reducible rename News _ _ _ _ => N6
      exact ⟨rfl, _, _, _, rfl, by rw [run_swap (of_decide_eq_true hc)]; assumption, by k_asm, fun q hq => N6 q (.tail _ hq)⟩
    intro h5 tk5 tvs5 hi5 F5 N5
    clear F9 N9
    k_steps
    with_reducible rename Fr _ _ _ _ => F9
    with_reducible rename News _ _ _ _ => N9
    refine due_end hst hev ?hs F9 rfl rfl rfl (due_news4 N9) hi5 ?hl hsr (List.forall_mem_cons.mpr ⟨.inr rfl, htup⟩) (List.forall_mem_cons.mpr ⟨?h1, hrt⟩) (List.forall_mem_cons.mpr ⟨?h2, hrs⟩) hds hvl (.tuple (List.mem_cons_self ..) (.cons (.int _ _) (.cons (.int _ _) (.cons (.str _ _) (.cons (.str _ _) .nil))))) (fun q hq => .tail _ hq)
    case h1 => k_ne
    case h2 => k_ne
    case hl => rw [swap_len]; exact hst4
    case hs => rw [eo.out (by assumption) (by assumption)]; exact due_step hnum
  case done =>
    clear F9 N9 P0 Nw
    rintro g h tk m1 nw1 - rfl F1 N1 ⟨nt, ns, tvs, vs, ds, rest, st, rfl, hti4, hst4, hsr, htup, hrt, hrs, hds, hvl, hst, hm1, hm2, hm3⟩
    rw [map3d hm1 hm2 hm3] at F1
    have hlen : dvs.length = evs.length := hia.length.trans he.symm
    rw [hlen, List.take_length] at hst
    have hvl' : vs.length ≤ 100 := by omega
    replace hrt := hide hrt
    replace hrs := hide hrs
    clear F
    k_steps
    exact ret _ _ _ _ _ _ _ _ _ _ _ _ hst hti4 hst4 hds hvl' hsr (by k_asm) (by k_asm) ⟨⟨by k_ne, by k_ne, by k_ne⟩, hrt.out, hrs.out⟩
end
end
section
open PySem PySem.W PyProof.Rows PySem.Spec PySem.Calls
theorem kw_Csum_0 : True := by
  k_with_none
  k_with "my enter" => ((refine' code_def ?k1 ?k2 ?k3 ?k4 ?k5 ?kA ?kF ?kK ?k6 ?k7 ?k8 ?k9 ?kB ?_ ?c2 ?c3 ?c4 ?c5; (case kA => exact rfl); (case kF => exact rfl); (case kK => first | exact rfl | assumption); (case k1 => k_asm); (case k2 => k_asm); (case k3 => k_asm); (case k4 => k_asm); (case k5 => k_asm); (case k6 => k_is); (case k7 => k_is); (case k8 => ktr_room); (case k9 => exact BindsTo.of_eq rfl); (case c5 => decide); (case kB => exact locs rfl); (case c2 => exact rfl); (case c3 => exact rfl); (case c4 => exact rfl); k_whole; intro g'ₓ L'ₓ h'ₓ FG'ₓ F'ₓ N'ₓ B'ₓ X'ₓ T'ₓ; (try dsimp only); (try k_lift B'ₓ); (try k_fold)))
  k_with "my enterC" => ((refine' code_defC ?k1 ?k2 ?k3 ?k4 ?k5 ?kA ?kF ?kK ?k6 ?k7 ?k8 ?k9 ?kB ?kD ?_ ?c2 ?c3 ?c4; (case kA => exact rfl); (case kF => exact rfl); (case kK => first | exact rfl | assumption); (case k1 => k_asm); (case k2 => k_asm); (case k3 => k_asm); (case k4 => k_asm); (case k5 => k_asm); (case k6 => k_is); (case k7 => k_is); (case k8 => ktr_room); (case k9 => exact BindsTo.of_eq rfl); (case kB => exact rfl); (case kD => decide +kernel); (case c2 => exact rfl); (case c3 => exact rfl); (case c4 => exact rfl); k_whole; intro g'ₓ L'ₓ h'ₓ tk'ₓ cells'ₓ FG'ₓ F'ₓ N'ₓ Y'ₓ B'ₓ X'ₓ T'ₓ l1ₓ; (try k_lt l1ₓ); k_cells Y'ₓ; (try simp only [List.cons_append, List.nil_append] at N'ₓ); (try dsimp only); (try k_lift B'ₓ); (try k_fold)))
  k_with "call ref" => ((k_here; (with_reducible show wpAny _ _ (PySem.call (Value.ref _) _ _) _ _ _); (refine wpAny_call ?_); k_dflt (walk_at "my enter")))
  k_with "my asm" => (((case k1 => k_asm); (case k2 => k_asm); (case k3 => k_asm); (case k4 => k_asm); (case k5 => k_asm); (case kK => first | exact rfl | assumption); (case kd => ktr_room); (case ku => ktr_units)))
  k_with "execs cons" => (refine wpAny_execs_cons ?_)
  k_with "execs nil" => (refine wpAny_execs_nil ?_)
  k_with "execs cons" => ((refine gen_toks (X := _ + 1 + 1 + 1 + 1) ?_; intro tkₓ htkₓ; (try dsimp only at htkₓ)))
  k_with "execs nil" => ((refine gen_toks (X := _ + 1 + 1 + 1 + 1) ?_; intro tkₓ htkₓ; (try dsimp only at htkₓ)))
  k_with "execs cons" => ((refine' gen_norm ?kS ?kF ?kE ?_; (case kS => with_reducible assumption); (case kF => with_reducible assumption); (case kE => exact rfl); intro tkₓ htkₓ; (try dsimp only at htkₓ)))
  k_with "execs nil" => ((refine' gen_norm ?kS ?kF ?kE ?_; (case kS => with_reducible assumption); (case kF => with_reducible assumption); (case kE => exact rfl); intro tkₓ htkₓ; (try dsimp only at htkₓ)))
  k_with "exec If" => (refine wpAny_If ?_)
  k_with "call type:str" => (refine P.str_of_bool ?_)
  k_with "callWith" => (first
    | ((try dsimp only); (with_reducible show wpAny _ _ (callWith _ (Value.builtin _) _ _ _) _ _ _); refine callWith_method1 ?_)
    | ((try dsimp only); (with_reducible show wpAny _ _ (callWith _ (Value.type _) _ _ _) _ _ _); refine callWith_type1 ?_))
  trivial
variable {w : World} {p : Program} {loose : List Str} {mean : ExcName → Option Value} {mg mb : Str → Option Value} {dp un : Nat} {gd : Option (List Code)} {cn : Str} {cs : Scope} {a : Addr} {ccd : Value} {cl : List (Str × Addr)} {outer : List Env} {A₀ : Around} {base h₀ : Heap} {L : Addr} {m : Str → Option Value} {s : Shared} {Q E : Value → Shared → Prop} {news : List (Addr × Obj)}
theorem filled_Csum : (K91 = K91) ∧ (PySem.Challenge.rw_wn0091_01.most = some 63) := by
  k_fill
  exact ⟨rfl, rfl⟩

noncomputable def sumsA (t : Int) : List Int → List Int
  | [] => []
  | b :: r => (t + b) :: sumsA (t + b) r
theorem sumsA_snoc {l : List Int} {b : Int} : ∀ {t : Int}, sumsA t (l ++ [b]) = sumsA t l ++ [t + l.sum + b] := by
  induction l with
  | nil => intro t; simp [sumsA]
  | cons a l ih => intro t; simp only [List.cons_append, sumsA, ih, List.sum_cons, Int.add_assoc]
theorem sumsA_len {l : List Int} : ∀ {t : Int}, (sumsA t l).length = l.length := by
  induction l with
  | nil => intro t; rfl
  | cons a l ih => intro t; simp only [sumsA, List.length_cons, ih]
theorem ints_snoc {vs : List Value} {ns : List Int} {x : Int} {u : Tok} (h : IntsAre vs ns) : IntsAre (vs ++ [.int x u]) (ns ++ [x]) := by
  induction h with
  | nil => exact .cons _ _ .nil
  | cons i t h ih => exact .cons _ _ ih
theorem take_snoc {l : List Int} {i : Nat} {v : Int} (h : l[i]? = some v) : l.take (i + 1) = l.take i ++ [v] := by rw [List.take_add_one, h]; rfl
noncomputable def SumP (news : List (Addr × Obj)) (sD : Addr) (bs : List Int) (i : Nat) (nw : List (Addr × Obj)) (m' : Str → Option Value) : Prop :=
  ∃ (ns : Nat) (svs : List Value) (u : Tok), nw = (sD, listOf svs.toArray ns) :: news ∧ IntsAre svs (sumsA 0 (bs.take i)) ∧ svs.length ≤ i ∧ m' (Str.ofString "total") = some (.int (bs.take i).sum u) ∧ m' (Str.ofString "sums") = some (.ref sD)
theorem map2d {f : Str → Option Value} {a b : Str} {x y : Option Value} (ha : f a = x) (hb : f b = y) : f = fun q => if q = a then x else if q = b then y else f q := by
  funext q
  by_cases h1 : q = a
  · subst h1; simp [ha]
  · by_cases h2 : q = b
    · subst h2; simp [h1, hb]
    · simp [h1, h2]
theorem sum_end {g h' : Heap} {L it sD : Addr} {o : Obj} {s : Shared} {tk' : Nat} {R : Result → Shared → Prop} {f : Str → Option Value} {news : List (Addr × Obj)} {bs : List Int} {i : Nat} {svs : List Value} {ns : Nat} {b : Int} {u u' : Tok} (hb : bs[i]? = some b)
    (F : Fr g L h' f) (hm1 : f (Str.ofString "total") = some (.int ((bs.take i).sum + b) u)) (hm2 : f (Str.ofString "sums") = some (.ref sD))
    (N : News g L h' ((it, o) :: (sD, listOf (svs.toArray.push (.int ((bs.take i).sum + b) u')) ns) :: news)) (hi : IntsAre svs (sumsA 0 (bs.take i))) (hl : svs.length ≤ i) :
    TurnG (fun g1 => g1 = g) L it o 0 (SumP news sD bs (i + 1)) s R .next { s with heap := h', toks := tk' } := by
  refine ⟨g, h', tk', f, (sD, listOf (svs ++ [Value.int ((bs.take i).sum + b) u']).toArray ns) :: news, rfl, Nat.zero_le _, rfl, F, ?_, ns, svs ++ [Value.int ((bs.take i).sum + b) u'], u, rfl, ?_, ?_, ?_, hm2⟩
  · rw [List.push_toArray] at N
    exact N
  · rw [take_snoc hb, sumsA_snoc, Int.zero_add]
    exact ints_snoc hi
  · rw [List.length_append, List.length_singleton]
    exact Nat.succ_le_succ hl
  · rw [hm1, take_snoc hb, List.sum_append]
    simp
section
theorem kw_Csum_1 : True := by
  k_with "pyIter ref" => (refine stop_ ?_)
  k_with "exec For Name Name cons nil" => (with_unfolding_all refine wpAny_For ?_)
  k_with "call builtin:list.append" => ((k_dflt (refine' append_K ?k1 ?k2 ?k3 ?_ ?z; (case k1 => k_asm); (case k2 => k_asm); (case k3 => k_upd); (case z => assumption)); intro h'ₓ F'ₓ N'ₓ))
  trivial
theorem sum_ok {bD : Addr} {bvs : List Value} {bs : List Int} {nb : Nat} (B : Below A₀ base outer h₀) (F : Fr h₀ L s.heap m) (X : (K91 w.params).In h₀) (N : News h₀ L s.heap news) (T : Top p loose mean mg mb h₀) (hk : cs.kind = .function) (hd : dp + 9 < recursionLimit) (hu : un + 100 < cLine)
   (hbm : (bD, listOf bvs.toArray nb) ∈ news) (hbi : IntsAre bvs bs) (hb4 : bs.length ≤ 100)
   (ret : ∀ D svs k h' tk', IntsAre svs (sumsA 0 bs) → (sumsA 0 bs).length = bs.length → Fr h₀ L h' m → News h₀ L h' ((D, listOf svs.toArray k) :: news) → (∀ p ∈ news, p.1 < D) → Q (.ref D) { s with heap := h', toks := tk' }) :
   wpAny (Mo w) (ktrTop dp un gd cn cs L a ccd cl outer) (call (.ref 235) [.ref bD] []) Q E s := by
  have hS : St s.gens s.drawn s.os := trivial
  refine wpAny_call (code_def (K := K91 w.params) (binds := [(Str.ofString "bits", .ref bD)]) B F X N T rfl rfl hk (by k_is) (by k_is) (by ktr_room) (BindsTo.of_eq rfl) (locs rfl) (fun g' L' h' FG F' N' B' X' T' => ?_) rfl rfl rfl (by decide))
  k_fold
  k_steps
  refine go_ ?_
  rename Fr _ _ _ _ => F9
  rename News _ _ _ _ => N9
  rename ∀ p ∈ news, _ => l9
  refine for_list (vs := bvs) (nl := nb) (news := news) 0 (fun g => g = g') (SumP news _ bs) rfl rfl rfl ?hl ?hP rfl F9 N9 (fun q hq => N9 q (.tail _ hq)) (.tail _ hbm) (Nat.zero_le _) ⟨0, [], _, rfl, .nil, Nat.le_refl _, rfl, rfl⟩ ?turn ?done
  case hl =>
    rintro i nw m ⟨ns, svs, u, rfl, -⟩
    exact ⟨nb, .tail _ hbm⟩
  case hP =>
    rintro i nw m q ⟨ns, svs, u, rfl, -⟩ hq
    rcases List.mem_cons.mp hq with rfl | hq
    · exact .inr (by show Value.type _ ≠ Value.type _; simp)
    exact .inl hq
  case turn =>
    rintro it i v g h tk m1 nw1 o hlt hv - rfl F1 N1 ⟨ns, svs, u, rfl, hi, hsl, hm1, hm2⟩ hit
    have hi1 := neN (hit _ (.head _))
    have hri : ∀ q ∈ news, q.1 ≠ it := fun q hq => hit q (.tail _ hq)
    have hnr : ∀ q ∈ news, q.1 ≠ _ := fun q hq => Nat.ne_of_lt (l9 q hq)
    clear hit
    dsimp only at hi1
    obtain ⟨b, t, hy, rfl⟩ := ints_at hbi hv
    have hil := (List.getElem?_eq_some_iff.mp hy).1
    rw [map2d hm1 hm2] at F1
    have hvz : svs.toArray.size ≤ sizeLine := Nat.le_trans (by simp; omega) (show 100 ≤ sizeLine by decide)
    clear hv F N B X T F9 N9
    k_steps
    (with_reducible rename Fr _ _ _ _ => F9)
    (with_reducible rename News _ _ _ _ => N9)
    exact sum_end hy F9 rfl rfl N9 hi hsl
  case done =>
    rintro g h tk m1 nw1 - rfl F1 N1 ⟨ns, svs, u, rfl, hi, hsl, hm1, hm2⟩
    rw [map2d hm1 hm2] at F1
    rw [hbi.length, List.take_length] at hi
    clear F F9 N9
    k_steps
    exact ret _ _ _ _ _ hi sumsA_len (by k_asm) (by k_asm) l9
end
end
section
open PySem PySem.W PyProof.Rows PySem.Spec PySem.Calls
/-! a reply behind its dots: what each word of the parser gives -/
theorem par_gen {x : Str} {a c c2 : Nat} {I : List Nat} (hL : x.cps.toList = [50, 50, a, 32, 40] ++ (I ++ [41])) (h41 : 41 ∉ I) (ha : a ≠ 40) (hlen : I.length ≤ 20) (h0 : I[0]? = some c) (h1 : I[I.length - 1]? = some c2) :
    x.length ≤ 100 ∧ Txt.find x (Str.ofString "(") = 4 ∧ Txt.find3 x (Str.ofString ")") (4 + 1) = ((5 + I.length : Nat) : Int) ∧ Txt.charAt x (4 + 1) = some c ∧ Txt.charAt x (((5 + I.length : Nat) : Int) - 1) = some c2 ∧
    Txt.slice x (some (4 + 1)) (some ((5 + I.length : Nat) : Int)) = strL I ∧ Txt.slice x none (some 3) = strL [50, 50, a] := by
  have hxl : x.cps.toList.length = x.length := Array.length_toList
  have hn : x.length = 6 + I.length := by rw [← hxl, hL]; simp; omega
  have hpos : 0 < I.length := by
    refine Nat.pos_of_ne_zero fun h => ?_
    rw [List.getElem?_eq_none (by omega)] at h0
    cases h0
  have o1 : Str.ofString "(" = ⟨#[40]⟩ := by decide +kernel
  have o2 : Str.ofString ")" = ⟨#[41]⟩ := by decide +kernel
  refine ⟨by omega, ?_, ?_, ?_, ?_, ?_, ?_⟩
  · rw [o1]
    exact find_is (pre := [50, 50, a, 32]) (post := I ++ [41]) (by rw [hL]; rfl) (by simp; omega)
  · rw [o2]
    have := find3_is (x := x) (c := 41) (i := 5) (pre := [50, 50, a, 32, 40] ++ I) (post := []) (by rw [hL]; simp) (by simp) (by
      rw [show ([50, 50, a, 32, 40] ++ I).drop 5 = I from rfl]; exact h41)
    rw [List.length_append] at this
    exact this
  · rw [show ((4 : Int) + 1) = ((5 : Nat) : Int) by decide, charAt_nat, hL, List.getElem?_append_right (by simp), List.getElem?_append_left (by simpa using hpos)]
    exact h0
  · rw [show ((5 + I.length : Nat) : Int) - 1 = ((5 + (I.length - 1) : Nat) : Int) by omega, charAt_nat, hL, List.getElem?_append_right (by simp),
      show 5 + (I.length - 1) - [50, 50, a, 32, 40].length = I.length - 1 by simp, List.getElem?_append_left (by omega)]
    exact h1
  · refine (eq_of_beq (slice_closes (x := x) (i := 4 + 1) (j := ((5 + I.length : Nat) : Int)) ⟨by decide, by omega, by rw [hxl]; omega⟩)).trans ?_
    rw [show (((5 + I.length : Nat) : Int) - (4 + 1)).toNat = I.length by omega, hL]
    show (⟨((I ++ [41]).take I.length).toArray⟩ : Str) = _
    rw [List.take_left]
    rfl
  · refine (eq_of_beq (slice_closes_to (x := x) (j := 3) ⟨by decide, by rw [hxl]; omega⟩)).trans ?_
    rw [hL]
    rfl
noncomputable def markJ (j : Nat) : Nat := ([38, 124, 45] : List Nat).getD j 0
noncomputable def numJ (j : Nat) : Int := ([19, 18, 15] : List Int).getD j 0
noncomputable def portT (k : Nat) : Str := Str.ofString (toString (k : Int))
noncomputable def bodyT (e j k : Nat) : Str := (if e = 5 then Str.ofString "228 (" else Str.ofString "229 (") ++ (if e = 6 then (⟨#[markJ j]⟩ : Str) ++ ⟨#[markJ j]⟩ else (⟨#[markJ j]⟩ : Str) ++ ⟨#[markJ j]⟩ ++ ⟨#[markJ j]⟩) ++ portT k ++ (if e = 7 then (⟨#[markJ j]⟩ : Str) ++ Str.ofString ":" else ⟨#[markJ j]⟩) ++ Str.ofString ")"
theorem body_T (n : Nat) : bodyL (n : Int) = (bodyT (n % 8) (n / 8 % 3) (n / 216 % 100)).cps.toList := by
  have e1 : ((n : Int).fmod 8) = ((n % 8 : Nat) : Int) := by
    rw [Int.fmod_eq_emod_of_nonneg _ (by omega)]
    norm_cast
  have e2 := fdm n 216 100 (by decide) (by decide)
  have e3 : ((n : Int).fdiv 216).fmod 100 = ((n / 216 % 100 : Nat) : Int) := e2
  have c5 : (((n % 8 : Nat) : Int) = 5) = (n % 8 = 5) := propext ⟨fun h => by omega, fun h => by omega⟩
  have c6 : (((n % 8 : Nat) : Int) = 6) = (n % 8 = 6) := propext ⟨fun h => by omega, fun h => by omega⟩
  have c7 : (((n % 8 : Nat) : Int) = 7) = (n % 8 = 7) := propext ⟨fun h => by omega, fun h => by omega⟩
  unfold bodyL bodyT
  simp only [e1, e3, c5, c6, c7, Int.toNat_natCast]
  rfl
noncomputable def portB (k : Nat) : Bool := decide (PySem.intText? (portT k) = some (k : Int)) && (portT k).cps.toList.all (fun c => decide (48 ≤ c) && decide (c ≤ 57)) && decide ((portT k).cps.toList.length ≤ 2)
theorem ports_ok : ∀ k : Nat, k < 100 → portB k = true := by decide +kernel
theorem port_is {k : Nat} (hk : k < 100) : PySem.intText? (portT k) = some (k : Int) ∧ (∀ c ∈ (portT k).cps.toList, 48 ≤ c ∧ c ≤ 57) ∧ (portT k).cps.toList.length ≤ 2 := by
  have h := ports_ok k hk
  unfold portB at h
  simp only [Bool.and_eq_true, decide_eq_true_eq, List.all_eq_true] at h
  exact ⟨h.1.1, h.1.2, h.2⟩
/-- what stands between the brackets -/
noncomputable def midT (e c : Nat) (P : List Nat) : List Nat := (if e = 6 then [c, c] else [c, c, c]) ++ (P ++ (if e = 7 then [c, 58] else [c]))
theorem body_list (e j k : Nat) : (bodyT e j k).cps.toList = [50, 50, (if e = 5 then 56 else 57), 32, 40] ++ (midT e (markJ j) (portT k).cps.toList ++ [41]) := by
  have q1 : (Str.ofString "228 (").cps.toList = [50, 50, 56, 32, 40] := by decide +kernel
  have q2 : (Str.ofString "229 (").cps.toList = [50, 50, 57, 32, 40] := by decide +kernel
  have q3 : (Str.ofString ":").cps.toList = [58] := by decide +kernel
  have q4 : (Str.ofString ")").cps.toList = [41] := by decide +kernel
  unfold bodyT midT
  by_cases h5 : e = 5
  · subst h5
    simp only [cps_app, if_pos, if_neg (show ¬ (5 = 6) by decide), if_neg (show ¬ (5 = 7) by decide), q1, q4]
    simp
  by_cases h6 : e = 6
  · subst h6
    simp only [cps_app, if_pos, if_neg (show ¬ (6 = 5) by decide), if_neg (show ¬ (6 = 7) by decide), q2, q4]
    simp
  by_cases h7 : e = 7
  · subst h7
    simp only [cps_app, if_pos, if_neg (show ¬ (7 = 5) by decide), if_neg (show ¬ (7 = 6) by decide), q2, q3, q4]
    simp
  simp only [cps_app, if_neg h5, if_neg h6, if_neg h7, q2, q4]
  simp
theorem mark_is {j : Nat} (hj : j < 3) : markJ j = 38 ∧ numJ j = 19 ∨ markJ j = 124 ∧ numJ j = 18 ∨ markJ j = 45 ∧ numJ j = 15 := by
  match j, hj with
  | 0, _ => exact .inl ⟨rfl, rfl⟩
  | 1, _ => exact .inr (.inl ⟨rfl, rfl⟩)
  | 2, _ => exact .inr (.inr ⟨rfl, rfl⟩)
noncomputable def evT (e j k d : Nat) : Ev := if e = 5 then .code else if 5 < e then .marks else .ok (numJ j) ((k + d) % 3)
theorem mid_signs {e c : Nat} {P : List Nat} (hc : c = 38 ∨ c = 124 ∨ c = 45) (hP : ∀ k ∈ P, 48 ≤ k ∧ k ≤ 57) : ∀ k ∈ midT e c P, k = c ∨ k = 58 ∨ 48 ≤ k ∧ k ≤ 57 := by
  intro k hk
  unfold midT at hk
  rcases List.mem_append.mp hk with h | h
  · refine .inl ?_
    split at h <;> simpa using h
  rcases List.mem_append.mp h with h | h
  · exact .inr (.inr (hP k h))
  · split at h
    · have : k = c ∨ k = 58 := by simpa using h
      exact this.imp id .inl
    · exact .inl (by simpa using h)
theorem mid_split {e c : Nat} {P : List Nat} (hc : c = 38 ∨ c = 124 ∨ c = 45) (hP : ∀ k ∈ P, 48 ≤ k ∧ k ≤ 57) :
    Txt.split (strL (midT e c P)) ⟨#[c]⟩ = if e = 6 then [strL [], strL [], strL P, strL []] else [strL [], strL [], strL [], strL P, strL (if e = 7 then [58] else [])] := by
  have hcP : c ∉ P := fun h => by have := hP c h; omega
  have hk : PySem.Builtin.Str.strKind ⟨#[c]⟩ = 1 := by
    rcases hc with rfl | rfl | rfl <;> decide +kernel
  have ha : ∀ k ∈ (strL (midT e c P)).cps.toList, k < 128 := fun k hk => by
    have := mid_signs (e := e) hc hP k hk
    omega
  by_cases h6 : e = 6
  · subst h6
    rw [if_pos rfl]
    exact split_is (l := [[], [], P]) (last := []) (c := c) (s := []) rfl hk (by simp [hcP]) (by simp) (by simp [strL, midT]) (by simp) ha
  rw [if_neg h6]
  refine split_is (l := [[], [], [], P]) (c := c) (s := []) rfl hk (by simp [hcP]) ?_ ?_ (by simp) ha
  · split
    · simp; omega
    · simp
  · by_cases h7 : e = 7
    · subst h7
      simp [strL, midT]
    · simp [strL, midT, h6, h7]
theorem par_T {e j k d : Nat} (he : e < 8) (hj : j < 3) (hk : k < 100) : ParOk (bodyT e j k) d (numJ j) (evT e j k d) := by
  obtain ⟨hi, hP, hPl⟩ := port_is hk
  have hmk := mark_is hj
  have hc : markJ j = 38 ∨ markJ j = 124 ∨ markJ j = 45 := by omega
  generalize hce : markJ j = c at hc
  have hL := body_list e j k
  rw [hce] at hL
  have hs := mid_split (e := e) (c := c) hc hP
  have hlast : (midT e c (portT k).cps.toList)[(midT e c (portT k).cps.toList).length - 1]? = some (if e = 7 then 58 else c) := by
    unfold midT
    by_cases h7 : e = 7
    · subst h7
      simp only [if_pos, if_neg (show ¬ (7 = 6) by decide)]
      rw [show [c, c, c] ++ ((portT k).cps.toList ++ [c, 58]) = ([c, c, c] ++ ((portT k).cps.toList ++ [c])) ++ [58] by simp]
      simp
    · simp only [if_neg h7]
      rw [← List.append_assoc]
      simp
  have hfirst : (midT e c (portT k).cps.toList)[0]? = some c := by
    unfold midT
    split <;> rfl
  have hml : (midT e c (portT k).cps.toList).length ≤ 20 := by
    unfold midT
    split <;> split <;> simp only [List.length_append, List.length_cons, List.length_nil] <;> omega
  obtain ⟨g1, g2, g3, g4, g5, g6, g7⟩ := par_gen hL (fun h => by
    have := mid_signs (e := e) hc hP 41 h
    omega) (by split <;> decide) hml hfirst hlast
  have eP : strL (portT k).cps.toList = portT k := (strL_eq rfl).symm
  rw [eP] at hs
  have s229 : Str.ofString "229" = strL [50, 50, 57] := by decide +kernel
  have s228 : strL [50, 50, 56] ≠ strL [50, 50, 57] := by decide +kernel
  refine ⟨c, if e = 7 then 58 else c, _, (k : Int), strL [], strL [], if e = 6 then portT k else strL [], portT k, strL (if e = 7 then [58] else []), strL [], g1, g2, g3, by omega, by omega, g4, g5, ?_, hi, ?_, ?_, ?_, ?_⟩
  · rw [g6, hs]
    by_cases h6 : e = 6
    · left; rw [if_pos h6, if_pos h6]
    · right; rw [if_neg h6, if_neg h6]
  · have : (portT k).cps.toList.length = (portT k).length := Array.length_toList
    omega
  · intro h
    rw [g7, s229] at h
    by_cases h5 : e = 5
    · unfold evT; rw [if_pos h5]
    · rw [if_neg h5] at h; exact absurd rfl h
  · intro h1 h2
    have h5 : e ≠ 5 := fun h5 => by
      rw [g7, s229, if_pos h5] at h1
      exact s228 h1
    unfold evT
    rw [if_neg h5, if_pos]
    refine Nat.lt_of_not_le fun hle => ?_
    have h6 : e ≠ 6 := by omega
    have h7 : e ≠ 7 := by omega
    rcases h2 with h2 | h2
    · rw [if_neg h7] at h2; exact h2 rfl
    · rw [g6, hs, if_neg h6, if_neg h6] at h2
      have := congrArg List.length h2
      simp at this
  · intro h1 h2 h3
    have h5 : e ≠ 5 := fun h5 => by
      rw [g7, s229, if_pos h5] at h1
      exact s228 h1
    have h7 : e ≠ 7 := fun h7 => by
      rw [if_pos h7] at h2; omega
    have h6 : e ≠ 6 := fun h6 => by
      rw [g6, hs, if_pos h6] at h3
      have := congrArg List.length h3
      simp at this
    refine ⟨(k + d) % 3, ?_, ?_, ?_⟩
    · unfold evT
      rw [if_neg h5, if_neg (by omega)]
    · rw [Int.fmod_eq_emod_of_nonneg _ (by omega)]
      omega
    · omega
end
section
open PySem PySem.W PyProof.Rows PySem.Spec PySem.Calls
/-! a whole reply, and what is due for its number -/
theorem row_T {e j k d : Nat} (he : e < 8) (hj : j < 3) (hk : k < 100) (hd : d ≤ 4) {y : Str} (hy : y.cps.toList = List.replicate d 46 ++ (bodyT e j k).cps.toList) : RowOk y (evT e j k d) := by
  obtain ⟨hi, hP, hPl⟩ := port_is hk
  have hmk := mark_is hj
  have hL := body_list e j k
  have hyl : y.cps.toList.length = y.length := Array.length_toList
  have hbs : ∀ c ∈ (bodyT e j k).cps.toList, c ≠ 46 ∧ c < 128 := fun c hc => by
    rw [hL] at hc
    rcases List.mem_append.mp hc with h | h
    · simp only [List.mem_cons, List.not_mem_nil, or_false] at h
      split at h <;> omega
    rcases List.mem_append.mp h with h | h
    · have := mid_signs (e := e) (by omega) hP c h
      omega
    · have := List.mem_singleton.mp h
      omega
  have hml : (midT e (markJ j) (portT k).cps.toList).length ≤ 20 := by
    unfold midT
    split <;> split <;> simp only [List.length_append, List.length_cons, List.length_nil] <;> omega
  have hbl : (bodyT e j k).cps.toList.length ≤ 30 := by
    rw [hL]
    simp only [List.length_append, List.length_cons, List.length_nil]
    omega
  have hlen : y.length ≤ 40 := by
    rw [← hyl, hy, List.length_append, List.length_replicate]
    omega
  have hcnt : y.cps.toList.count 46 = d := by
    rw [hy, List.count_append, List.count_replicate_self, List.count_eq_zero.mpr (fun h => (hbs 46 h).1 rfl)]
    rfl
  have hsl : Txt.slice y (some ((d : Nat) : Int)) none = bodyT e j k := by
    have hdl : (d : Int) ≤ (y.cps.toList.length : Int) := by
      rw [hy, List.length_append, List.length_replicate]
      omega
    refine (eq_of_beq (slice_closes_from (x := y) (i := (d : Int)) ⟨by omega, hdl⟩)).trans ?_
    refine (strL_eq ?_).symm
    have hq : ((y.cps.toList.length : Int) - (d : Int)).toNat = (bodyT e j k).cps.toList.length := by
      rw [hy, List.length_append, List.length_replicate]
      omega
    rw [Int.toNat_natCast, hq, hy]
    have hdr : (List.replicate d 46 ++ (bodyT e j k).cps.toList).drop d = (bodyT e j k).cps.toList := List.drop_left' (by simp)
    rw [hdr, List.take_length]
  have hg : ∀ i : Nat, y.cps[i]? = y.cps.toList[i]? := fun i => by simp
  have ha5 : (if e = 5 then 56 else 57) ≠ 40 := by split <;> decide
  refine ⟨numJ j, d + 4, markJ j, ?_, by omega, ?_, ?_, ?_, by omega, ?_, by omega⟩
  · rw [← Array.all_toList, List.all_eq_true, hy]
    intro c hc
    refine decide_eq_true ?_
    rcases List.mem_append.mp hc with h | h
    · have := (List.mem_replicate.mp h).2
      omega
    · exact (hbs c h).2
  · rw [hcnt, hsl]
    exact par_T he hj hk
  · rw [hg, hy, List.getElem?_append_right (by simp), List.length_replicate, Nat.add_sub_cancel_left, hL]
    rfl
  · intro i hi
    rw [hg, hy]
    by_cases h : i < d
    · rw [List.getElem?_append_left (by simpa using h), List.getElem?_replicate, if_pos h]
      decide
    · rw [List.getElem?_append_right (by simpa using h), List.length_replicate, hL, List.getElem?_append_left (by simp; omega)]
      have : i - d < 4 := by omega
      generalize i - d = q at this
      match q, this with
      | 0, _ => simp
      | 1, _ => simp
      | 2, _ =>
        show some (if e = 5 then 56 else 57) ≠ some 40
        exact fun h => ha5 (Option.some.inj h)
      | 3, _ => simp
  · rw [show ((d + 4 : Nat) : Int) + 1 = ((d + 5 : Nat) : Int) by omega, charAt_nat, hy, List.getElem?_append_right (by simp), List.length_replicate, Nat.add_sub_cancel_left, hL, List.getElem?_append_right (by simp)]
    unfold midT
    split <;> rfl
noncomputable def ddN (i n : Nat) : Nat := if n / 72 % 3 = 0 then 0 else n / 72 % 3 + i
noncomputable def evOf (i : Nat) (v : Int) : Ev := evT (v.toNat % 8) (v.toNat / 8 % 3) (v.toNat / 216 % 100) (ddN i v.toNat)
theorem due_T {n : Nat} (hn : n < 1000000) (i : Nat) : DueOk (n : Int) (i : Int) (evOf i (n : Int)) := by
  have e8 : ((n : Int).fmod 8) = ((n % 8 : Nat) : Int) := by
    rw [Int.fmod_eq_emod_of_nonneg _ (by omega)]
    norm_cast
  have e2 : ((n : Int).fdiv 8).fmod 3 = ((n / 8 % 3 : Nat) : Int) := fdm n 8 3 (by decide) (by decide)
  have e3 : ((n : Int).fdiv 72).fmod 3 = ((n / 72 % 3 : Nat) : Int) := fdm n 72 3 (by decide) (by decide)
  have e4 : ((n : Int).fdiv 216).fmod 100 = ((n / 216 % 100 : Nat) : Int) := fdm n 216 100 (by decide) (by decide)
  refine ⟨numJ (n / 8 % 3), (n / 216 % 100 + ddN i n) % 3, by omega, by omega, ?_, by omega, ?_, ?_, ?_, ?_, ?_⟩
  · rw [e2, Int.toNat_natCast]
    have : n / 8 % 3 < 3 := Nat.mod_lt _ (by decide)
    generalize n / 8 % 3 = q at this
    match q, this with
    | 0, _ => rfl
    | 1, _ => rfl
    | 2, _ => rfl
  · intro h
    rw [e3] at h
    rw [e3, e4, Int.fmod_eq_emod_of_nonneg _ (by omega)]
    unfold ddN
    rw [if_neg (by omega)]
    omega
  · intro h
    rw [e3] at h
    rw [e3, e4, Int.fmod_eq_emod_of_nonneg _ (by omega)]
    unfold ddN
    rw [if_pos (by omega)]
    omega
  · intro h
    rw [e8] at h
    unfold evOf evT
    rw [Int.toNat_natCast, if_pos (by omega)]
  · intro h
    rw [e8] at h
    unfold evOf evT
    rw [Int.toNat_natCast, if_neg (by omega), if_pos (by omega)]
  · intro h h2
    rw [e8] at h h2
    unfold evOf evT
    rw [Int.toNat_natCast, if_neg (by omega), if_neg (by omega)]
end
section
open PySem PySem.W PyProof.Rows PySem.Spec PySem.Calls
local macro_rules | `(tactic| k_all) => `(tactic| exact neOfLt (by assumption) (by omega))
local macro_rules | `(tactic| k_mem) => `(tactic| first | assumption | exact List.Mem.head _ | (refine' List.Mem.tail _ ?_; k_mem))
section
open PySem PySem.W PyProof.Rows PySem.Spec PySem.Calls
theorem kw_Chead_0 : True := by
  k_with_none
  k_with "my enter" => ((refine' code_def ?k1 ?k2 ?k3 ?k4 ?k5 ?kA ?kF ?kK ?k6 ?k7 ?k8 ?k9 ?kB ?_ ?c2 ?c3 ?c4 ?c5; (case kA => exact rfl); (case kF => exact rfl); (case kK => first | exact rfl | assumption); (case k1 => k_asm); (case k2 => k_asm); (case k3 => k_asm); (case k4 => k_asm); (case k5 => k_asm); (case k6 => k_is); (case k7 => k_is); (case k8 => ktr_room); (case k9 => exact BindsTo.of_eq rfl); (case c5 => decide); (case kB => exact locs rfl); (case c2 => exact rfl); (case c3 => exact rfl); (case c4 => exact rfl); k_whole; intro g'ₓ L'ₓ h'ₓ FG'ₓ F'ₓ N'ₓ B'ₓ X'ₓ T'ₓ; (try dsimp only); (try k_lift B'ₓ); (try k_fold)))
  k_with "my enterC" => ((refine' code_defC ?k1 ?k2 ?k3 ?k4 ?k5 ?kA ?kF ?kK ?k6 ?k7 ?k8 ?k9 ?kB ?kD ?_ ?c2 ?c3 ?c4; (case kA => exact rfl); (case kF => exact rfl); (case kK => first | exact rfl | assumption); (case k1 => k_asm); (case k2 => k_asm); (case k3 => k_asm); (case k4 => k_asm); (case k5 => k_asm); (case k6 => k_is); (case k7 => k_is); (case k8 => ktr_room); (case k9 => exact BindsTo.of_eq rfl); (case kB => exact rfl); (case kD => decide +kernel); (case c2 => exact rfl); (case c3 => exact rfl); (case c4 => exact rfl); k_whole; intro g'ₓ L'ₓ h'ₓ tk'ₓ cells'ₓ FG'ₓ F'ₓ N'ₓ Y'ₓ B'ₓ X'ₓ T'ₓ l1ₓ; (try k_lt l1ₓ); k_cells Y'ₓ; (try simp only [List.cons_append, List.nil_append] at N'ₓ); (try dsimp only); (try k_lift B'ₓ); (try k_fold)))
  k_with "call ref" => ((k_here; (with_reducible show wpAny _ _ (PySem.call (Value.ref _) _ _) _ _ _); (refine wpAny_call ?_); k_dflt (walk_at "my enter")))
  k_with "my asm" => (((case k1 => k_asm); (case k2 => k_asm); (case k3 => k_asm); (case k4 => k_asm); (case k5 => k_asm); (case kK => first | exact rfl | assumption); (case kd => ktr_room); (case ku => ktr_units)))
  k_with "execs cons" => (refine wpAny_execs_cons ?_)
  k_with "execs nil" => (refine wpAny_execs_nil ?_)
  k_with "execs cons" => ((refine gen_toks (X := _ + 1 + 1 + 1 + 1) ?_; intro tkₓ htkₓ; (try dsimp only at htkₓ)))
  k_with "execs nil" => ((refine gen_toks (X := _ + 1 + 1 + 1 + 1) ?_; intro tkₓ htkₓ; (try dsimp only at htkₓ)))
  k_with "execs cons" => ((refine' gen_norm ?kS ?kF ?kE ?_; (case kS => with_reducible assumption); (case kF => with_reducible assumption); (case kE => exact rfl); intro tkₓ htkₓ; (try dsimp only at htkₓ)))
  k_with "execs nil" => ((refine' gen_norm ?kS ?kF ?kE ?_; (case kS => with_reducible assumption); (case kF => with_reducible assumption); (case kE => exact rfl); intro tkₓ htkₓ; (try dsimp only at htkₓ)))
  k_with "exec If" => (refine wpAny_If ?_)
  k_with "call type:str" => (refine P.str_of_bool ?_)
  k_with "callWith" => (first
    | ((try dsimp only); (with_reducible show wpAny _ _ (callWith _ (Value.builtin _) _ _ _) _ _ _); refine callWith_method1 ?_)
    | ((try dsimp only); (with_reducible show wpAny _ _ (callWith _ (Value.type _) _ _ _) _ _ _); refine callWith_type1 ?_))
  trivial
variable {w : World} {p : Program} {loose : List Str} {mean : ExcName → Option Value} {mg mb : Str → Option Value} {dp un : Nat} {gd : Option (List Code)} {cn : Str} {cs : Scope} {a : Addr} {ccd : Value} {cl : List (Str × Addr)} {outer : List Env} {A₀ : Around} {base h₀ : Heap} {L : Addr} {m : Str → Option Value} {s : Shared} {Q E : Value → Shared → Prop} {news : List (Addr × Obj)}
theorem filled_Chead : (K91 = K91) ∧ (PySem.Challenge.rw_wn0091_01.most = some 63) := by
  k_fill
  exact ⟨rfl, rfl⟩

noncomputable def maxL (l : List Int) : Int := l.max?.getD 0
theorem maxL_eq {l : List Int} {M : Int} (h1 : M ∈ l) (h2 : ∀ a, a ∈ l → a ≤ M) : M = maxL l := by
  unfold maxL
  rw [List.max?_eq_some_iff.mpr ⟨h1, h2⟩]
  rfl
noncomputable def headF (ahead k : List Int) : Int := maxL ((rangeKs 0 5).map fun i => ahead.getD i.toNat 0 + k.getD i.toNat 0)
theorem headF_eq (l k : List Int) : maxL ((List.range 5).map fun j => l.getD j 0 + k.getD j 0) = headF l k := rfl
/-- the rows of a list of lists of five ints -/
noncomputable def RowsAre (news : List (Addr × Obj)) (rvs : List Value) (rks : List (List Int)) : Prop :=
  rvs.length = rks.length ∧ ∀ (j : Nat) (v : Value), rvs[j]? = some v → ∃ (r : Addr) (vs : List Value) (n : Nat) (k : List Int), v = .ref r ∧ (r, listOf vs.toArray n) ∈ news ∧ IntsAre vs k ∧ k.length = 5 ∧ rks[j]? = some k
section
theorem kw_Chead_1 : True := by
  k_with "call builtin:max" => (refine stop_ ?_)
  k_with "my args" => (((case k1 => k_asm); (case k2 => k_asm); (case k3 => k_asm); (case k4 => k_asm); (case kK => k_asm); (case k5 => exact rfl); (case kd => ktr_room); (case ku => ktr_units)))
  k_with "eval ListComp" => (refine stop_ ?_)
  k_with "CompC" => (refine stop_ ?_)
  k_with "CompSrc" => (refine stop_ ?_)
  k_with "CompEnd" => (refine stop_ ?_)
  k_with "CellEnd" => (refine stop_ ?_)
  k_with "call ref" => (((with_reducible show wpAny _ _ (PySem.call (Value.ref 235) _ _) _ _ _); k_dflt ((refine' sum_ok ?k1 ?k2 ?kK ?k3 ?k4 ?k5 ?kd ?ku ?hm ?hi ?hl ?_; walk_at "my args"; (case hm => k_mem); (case hi => assumption); (case hl => omega)); intro D'ₓ svs'ₓ k'ₓ h'ₓ tk'ₓ hi'ₓ hn'ₓ F'ₓ N'ₓ l1ₓ; (try k_lt l1ₓ))))
  k_with "subscriptTail" => (((with_reducible show wpAny _ _ (subscriptTail _ _ (Value.ref _) (Value.int _ _)) _ _ _); k_dflt (refine' ksa_sub ?k1 ?k2 ?k3 ?k4 ?k5 ?k6 ?_ ?k7; (case k1 => k_asm); (case k2 => k_mem); (case k3 => with_reducible assumption); (case k4 => ksa_idx); (case k5 => ksa_idx); (case k6 => ksa_idx); (case k7 => with_unfolding_all rfl); k_whole); intro _))
  k_with "subscriptTail Name" => (((with_reducible show wpAny _ _ (subscriptTail _ _ (Value.ref _) (Value.int _ _)) _ _ _); k_dflt (refine' ksa_sub ?k1 ?k2 ?k3 ?k4 ?k5 ?k6 ?_ ?k7; (case k1 => k_asm); (case k2 => k_mem); (case k3 => with_reducible assumption); (case k4 => ksa_idx); (case k5 => ksa_idx); (case k6 => ksa_idx); (case k7 => with_unfolding_all rfl); k_whole); intro _))
  k_with "subscriptTail Name Name ref int" => (((with_reducible show wpAny _ _ (subscriptTail _ _ (Value.ref _) (Value.int _ _)) _ _ _); k_dflt (refine' ksa_sub ?k1 ?k2 ?k3 ?k4 ?k5 ?k6 ?_ ?k7; (case k1 => k_asm); (case k2 => k_mem); (case k3 => with_reducible assumption); (case k4 => ksa_idx); (case k5 => ksa_idx); (case k6 => ksa_idx); (case k7 => with_unfolding_all rfl); k_whole); intro _))
  trivial
theorem head_ok {bD rD : Addr} {bvs rvs : List Value} {bs : List Int} {rks : List (List Int)} {nb nr : Nat} (B : Below A₀ base outer h₀) (F : Fr h₀ L s.heap m) (X : (K91 w.params).In h₀) (N : News h₀ L s.heap news) (T : Top p loose mean mg mb h₀) (hk : cs.kind = .function) (hd : dp + 12 < recursionLimit) (hu : un + 140 < cLine)
   (hbm : (bD, listOf bvs.toArray nb) ∈ news) (hbi : IntsAre bvs bs) (hb4 : bs.length = 4) (hrm : (rD, listOf rvs.toArray nr) ∈ news) (hri : RowsAre news rvs rks) (hr4 : rks.length = 4)
   (ret : ∀ D ys k h' tk', IntsAre ys (rks.map (headF ([0] ++ sumsA 0 bs))) → Fr h₀ L h' m → News h₀ L h' ((D, listOf ys.toArray k) :: news) → (∀ p ∈ news, p.1 < D) → Q (.ref D) { s with heap := h', toks := tk' }) :
   wpAny (Mo w) (ktrTop dp un gd cn cs L a ccd cl outer) (call (.ref 240) [.ref bD, .ref rD] []) Q E s := by
  have hS : St s.gens s.drawn s.os := trivial
  refine wpAny_call ?_
  walk_at "my enterC"
  k_steps
  refine go_ ?_
  with_reducible rename Fr _ _ _ _ => F9
  with_reducible rename News _ _ _ _ => N9
  with_reducible rename IntsAre _ ([0] ++ _) => hI
  have hal : ([0] ++ sumsA 0 bs).length = 5 := by rw [List.length_append, sumsA_len, hb4]; rfl
  have hrr : (rD, listOf rvs.toArray nr) ∈ news := hrm
  clear F N
  refine ListComp_C (F₀ := F9) (by with_unfolding_all rfl) (fun _ => rfl) (fun _ => rfl) rfl (by decide) (by with_unfolding_all rfl) ?_
  k_steps
  refine go_ ?_
  refine fixC_list (fun j y => ∃ t k, rks[j]? = some k ∧ y = Value.int (headF ([0] ++ sumsA 0 bs) k) t) (by rfl) F9 N9 (by rw [List.size_toArray, hri.1, hr4]; decide) (by k_mem) ?H ?fin
  case H =>
    intro i v I oI C oC c oc D m₂ h tk ys E' hi hv hC hc F1 N1 off ne
    obtain ⟨r, vs, n, k, rfl, hm, hik, hk5, hkj⟩ := hri.2 i v (by simpa using hv)
    clear F9 N9
    k_steps
    refine go_ ?_
    refine LCg.ListComp_U (F₀ := F1) (by with_unfolding_all rfl) (by decide) (by rfl) (by decide) (by rfl) ?_
    k_steps
    refine go_ ?_
    with_reducible rename Fr _ _ _ _ => F2
    with_reducible rename News _ _ _ _ => N2
    refine fixL_range (n := 5) (fun j y => ∃ t, y = Value.int (([0] ++ sumsA 0 bs).getD j 0 + k.getD j 0) t) (by rfl) F2 N2 (by assumption) (by decide) (by rfl) (by decide) ?H2 ?fin2
    case H2 =>
      intro gg i2 v2 I2 oI2 C2 oC2 D2 m2 h2 tk2 ys2 E2 hi2 hv2 hC2 hx2 F3 N3 off2 ne2
      obtain ⟨t2, rfl⟩ := hv2
      clear F2 N2
      k_steps
      exact postE (by assumption) (by assumption) ⟨_, by rw [show (0 + (i2 : Int)).toNat = i2 by omega]⟩
    case fin2 =>
      intro gg ys hyl hy
      have hi5 := ints_of hyl hy
      k_steps
      refine go_ ?_
      refine max_list_N (by rfl) (by k_asm) (by k_asm) ⟨_, ((by k_asm : News _ _ _ _) _ (.head _)).1, rfl, _, rfl⟩ hi5 (by simp) ?_
      intro h7 M t7 tk7 F7 N7 m7 m8
      refine postE F7 (fun q hq => N7 q (.tail _ hq)) ⟨t7, k, hkj, ?_⟩
      rw [maxL_eq m7 m8, headF_eq]
      rfl
  case fin =>
    intro D h tk ys F1 N1 lt hyl hy
    have hout := ints_of_list (l := rks) (f := headF ([0] ++ sumsA 0 bs)) (by rw [hyl, List.size_toArray, hri.1]) hy
    have lt' : ∀ p ∈ news, p.1 < D := fun p hp => lt p (.tail _ (.tail _ (.tail _ (.tail _ hp))))
    clear F9 N9
    k_steps
    exact ret _ _ _ _ _ hout (by k_asm) (fun q hq => (by k_asm : News _ _ _ _) q (by
      rcases List.mem_cons.mp hq with rfl | hq
      · exact .head _
      · exact .tail _ (.tail _ (.tail _ (.tail _ (.tail _ hq)))))) lt'
end
end
section
open PySem PySem.W PyProof.Rows PySem.Spec PySem.Calls
section
variable {prog : Program} {w : World} {A : Around} {E : Value → Shared → Prop} {s : Shared} {g : Heap} {m : Str → Option Value} {env : Env} {nw : List (Addr × Obj)}
/-- a turn of a loop whose own name is a cell: the ledger stays -/
noncomputable def TurnX (g : Heap) (L : Addr) (mJ : (Str → Option Value) → Prop) (led : List (Addr × Obj)) (s : Shared) (R : Result → Shared → Prop) (f : Flow) (s' : Shared) : Prop := match f with
  | .next | .cont => ∃ h' tk' m', s' = { s with heap := h', toks := tk' } ∧ Fr g L h' m' ∧ News g L h' led ∧ mJ m'
  | .brk => R (.ok .next) s'
  | .ret v => R (.ok (.ret v)) s'
theorem turnX_next {L : Addr} {mJ : (Str → Option Value) → Prop} {led : List (Addr × Obj)} {R : Result → Shared → Prop} {h' : Heap} {tk' : Nat} {m' : Str → Option Value} (F : Fr g L h' m') (N : News g L h' led) (h : mJ m') : TurnX g L mJ led s R .next { s with heap := h', toks := tk' } := ⟨h', tk', m', rfl, F, N, h⟩
noncomputable def LoopTurn (prog : Program) (w : World) (A : Around) (g : Heap) (env : Env) (body : List Stmt) (s : Shared) (R : Result → Shared → Prop) (n : Nat) (P : Nat → Value → Prop) (mJ : (Str → Option Value) → Prop) (c : Addr) (nw : List (Addr × Obj)) : Prop :=
  ∀ i v I oI oc h tk m', i < n → P i v → mJ m' → oc.data = .cell (some v) → Fr g env.locals h m' → News g env.locals h ((I, oI) :: (c, oc) :: nw) → (∀ p ∈ (c, oc) :: nw, p.1 < I) →
    wpAny (model prog w) A (execs body env) (TurnX g env.locals mJ ((I, oI) :: (c, oc) :: nw) s R) (notedBy (model prog w) A env fun e s' => R (.error e) s') { s with heap := h, toks := tk }
theorem loop_cell {name : Str} {px : Pos} {body : List Stmt} {R : Result → Shared → Prop} {I c : Addr} {fp : List Addr} {n : Nat} {P : Nat → Value → Prop} {St : Nat → Heap → Prop} {oc : Obj} {v0 : Option Value} (mJ : (Str → Option Value) → Prop)
    (W : Walks prog w A I fp [I] n P St) (hIo : ∀ i h, St i h → ∃ o, h.get? I = some o) (hSt : ∀ i h h' o, St i h → h.get? I = some o → h'.get? I = some o → (∀ b o, g.get? b = some o → h'.get? b = some o) → News g env.locals h' nw → St i h')
    (hx : env.kindOf name = some .cell) (hk : env.scope.kind = .function) (hc : env.cells.lookup name = some c) (hcf : c ∉ fp)
    (F : Fr g env.locals s.heap m) (N : News g env.locals s.heap ((c, oc) :: nw)) (hoc : oc.data = .cell v0) (hcn : ∀ p ∈ nw, p.1 ≠ c) (hI : ∀ p ∈ (c, oc) :: nw, p.1 < I) (hL : I ≠ env.locals) (hf : g.get? I = none) (hst : St 0 s.heap) (h0 : mJ m)
    (turn : LoopTurn prog w A g env body s R n P mJ c nw)
    (done : ∀ h tk m' oc v0, mJ m' → Fr g env.locals h m' → oc.data = .cell v0 → News g env.locals h ((c, oc) :: nw) → R (.ok .next) { s with heap := h, toks := tk }) :
    codeAny (model prog w) A (.forLoop (.Name name px) (.ref I) body [] env) R s := by
  have hcL : c ≠ env.locals := (N _ (.head _)).2.1
  have hcg : g.get? c = none := (N _ (.head _)).2.2
  have hcI : c ≠ I := Nat.ne_of_lt (hI (c, oc) (.head _))
  have hnI : ∀ p ∈ nw, p.1 ≠ I := fun p hp => Nat.ne_of_lt (hI p (.tail _ hp))
  have hI' : ∀ (oc' : Obj), ∀ p ∈ (c, oc') :: nw, p.1 < I := fun oc' p hp => by
    rcases List.mem_cons.mp hp with rfl | hp
    · exact hI (c, oc) (.head _)
    · exact hI p (.tail _ hp)
  refine codeAny_forLoop (fun k s' => ∃ i h tk m' oc v0, s' = { s with heap := h, toks := tk } ∧ i ≤ n ∧ k = n + 1 - i ∧ St i h ∧ mJ m' ∧ Fr g env.locals h m' ∧ oc.data = .cell v0 ∧ News g env.locals h ((c, oc) :: nw)) ?_ (n + 1)
    ⟨0, s.heap, s.toks, m, oc, v0, rfl, Nat.zero_le _, rfl, hst, h0, F, hoc, N⟩
  rintro k s' ⟨i, h, tk, m', oc, v0, rfl, hi, rfl, st, hm, F', hoc', N'⟩
  by_cases hlt : i < n
  · refine W.item i _ _ _ hlt st fun v h₁ tk₁ hP st₁ hk₁ => ?_
    have kp : ∀ b o, b ≠ I → h.get? b = some o → h₁.get? b = some o := fun b o hb e => hk₁ b o (by simpa using hb) e
    have F₁ : Fr g env.locals h₁ m' := LCg.fr_but F' hk₁ (Ne.symm hL) hf
    have N₁ : News g env.locals h₁ ((c, oc) :: nw) := LCg.news_but N' hk₁ fun p hp => Nat.ne_of_lt (hI' oc p hp)
    refine wpAny_assign_Name (wpAny_storeName_cell hk hx hc ⟨oc, (N₁ _ (.head _)).1, hoc'⟩ fun h₂ hc₂ hs₂ => ?_)
    obtain ⟨oc₂, hec, hoc₂⟩ := hc₂
    have st₂ : St (i + 1) h₂ := W.frame _ _ _ st₁ fun b hb o e => hs₂.extBut b o (fun q => hcf (by have q' : b = c := q; rw [← q']; exact hb)) e
    obtain ⟨oI, heI⟩ := hIo _ _ st₂
    have F₂ : Fr g env.locals h₂ m' := F₁.change hs₂ hcL hcg
    have N₂ : News g env.locals h₂ ((I, oI) :: (c, oc₂) :: nw) := fun p hp => by
      rcases List.mem_cons.mp hp with rfl | hp
      · exact ⟨heI, hL, hf⟩
      rcases List.mem_cons.mp hp with rfl | hp
      · exact ⟨hec, hcL, hcg⟩
      have z := N₁ p (.tail _ hp)
      exact ⟨hs₂.extBut _ _ (hcn p hp) z.1, z.2⟩
    refine wpAny_mono (turn i v I oI oc₂ h₂ _ m' hlt hP hm hoc₂ F₂ N₂ (hI' oc₂)) (fun f s₃ h₃ => ?_) fun _ _ e => e
    have fin : (∃ h' tk' m', s₃ = { s with heap := h', toks := tk' } ∧ Fr g env.locals h' m' ∧ News g env.locals h' ((I, oI) :: (c, oc₂) :: nw) ∧ mJ m') →
        ∃ k', k' < n + 1 - i ∧ ∃ i h tk m' oc v0, s₃ = { s with heap := h, toks := tk } ∧ i ≤ n ∧ k' = n + 1 - i ∧ St i h ∧ mJ m' ∧ Fr g env.locals h m' ∧ oc.data = .cell v0 ∧ News g env.locals h ((c, oc) :: nw) := by
      rintro ⟨h₄, tk₄, m₄, rfl, F₄, N₄, hm₄⟩
      exact ⟨n + 1 - (i + 1), by omega, i + 1, h₄, tk₄, m₄, oc₂, some v, rfl, hlt, rfl, hSt _ _ _ _ st₂ heI (N₄ _ (.head _)).1 F₄.keep fun p hp => N₄ p (.tail _ (.tail _ hp)), hm₄, F₄, hoc₂, fun p hp => N₄ p (.tail _ hp)⟩
    cases f with
    | next => exact fin h₃
    | cont => exact fin h₃
    | brk => exact h₃
    | ret v => exact h₃
  · obtain rfl : i = n := Nat.le_antisymm hi (Nat.not_lt.mp hlt)
    refine W.done _ _ _ st fun h₁ tk₁ hk₁ => wpAny_execs_nil ?_
    exact done h₁ tk₁ m' oc v0 hm (LCg.fr_but F' hk₁ (Ne.symm hL) hf) hoc' (LCg.news_but N' hk₁ fun p hp => Nat.ne_of_lt (hI' oc p hp))
theorem forC_list {name : Str} {px : Pos} {body : List Stmt} {R : Result → Shared → Prop} {c ax : Addr} {its : Array Value} {k : Nat} {oc : Obj} {v0 : Option Value} (mJ : (Str → Option Value) → Prop) (hh : A.handled = none)
    (hx : env.kindOf name = some .cell) (hk : env.scope.kind = .function) (hc : env.cells.lookup name = some c) (F : Fr g env.locals s.heap m) (N : News g env.locals s.heap ((c, oc) :: nw)) (hoc : oc.data = .cell v0) (hcn : ∀ p ∈ nw, p.1 ≠ c) (hs : (ax, ({ cls := .type "list", data := .seq its k } : Obj)) ∈ nw) (h0 : mJ m)
    (turn : LoopTurn prog w A g env body s R its.size (fun i v => its[i]? = some v) mJ c nw)
    (done : ∀ h tk m' oc v0, mJ m' → Fr g env.locals h m' → oc.data = .cell v0 → News g env.locals h ((c, oc) :: nw) → R (.ok .next) { s with heap := h, toks := tk }) :
    wpAny (model prog w) A (pyIter (.ref ax)) (fun it s₂ => codeAny (model prog w) A (.forLoop (.Name name px) it body [] env) R s₂) E s := by
  have hl : s.heap.IsList ax its := ⟨_, (N _ (.tail _ hs)).1, rfl, k, rfl⟩
  have hlt : ax < s.heap.objs.size := Heap.lt_size (N _ (.tail _ hs)).1
  have hclt : c < s.heap.objs.size := Heap.lt_size (N _ (.head _)).1
  refine wpAny_pyIter_list hl ?_
  refine loop_cell (s := { s with heap := _, toks := _ }) mJ (Walks.list hh s.heap.objs.size ax (Nat.ne_of_lt hlt) its) (fun i h st => by obtain ⟨o, e, _⟩ := st.1; exact ⟨o, e⟩) (fun i h h' o st e e' k' N' => ⟨by obtain ⟨o', q, r⟩ := st.1; rw [e] at q; cases q; exact ⟨o, e', r⟩, ⟨_, (N' _ hs).1, rfl, k, rfl⟩⟩) hx hk hc ?_ (F.push _) (N.grown fun _ _ e => Heap.get?_push_of_some _ e) hoc hcn (fun p hp => Heap.lt_size (N p hp).1) (Nat.ne_of_gt F.ns.lt) (next_is_new F) ⟨⟨_, Heap.get?_push_size _ rfl, rfl, rfl⟩, hl.push _⟩ h0 turn done
  intro hm
  rcases List.mem_cons.mp hm with q | q
  · exact Nat.lt_irrefl _ (q ▸ hclt)
  · exact hcn _ hs (List.mem_singleton.mp q).symm
theorem forC_range {name : Str} {px : Pos} {body : List Stmt} {R : Result → Shared → Prop} {c r : Addr} {a b : Int} {t u v : Tok} {n : Nat} {oc : Obj} {v0 : Option Value} (mJ : (Str → Option Value) → Prop) (hh : A.handled = none)
    (hr : IsRange s.heap r a b 1 t u v) (hsm : Builtin.Range.small a b 1 = true) (hn : Builtin.Range.rangeSize a b 1 = ((n : Nat) : Int))
    (hx : env.kindOf name = some .cell) (hk : env.scope.kind = .function) (hc : env.cells.lookup name = some c) (F : Fr g env.locals s.heap m) (N : News g env.locals s.heap ((c, oc) :: nw)) (hoc : oc.data = .cell v0) (hcn : ∀ p ∈ nw, p.1 ≠ c) (h0 : mJ m)
    (turn : LoopTurn prog w A g env body s R n (fun i v => ∃ t, v = .int (a + (i : Int)) t) mJ c nw)
    (done : ∀ h tk m' oc v0, mJ m' → Fr g env.locals h m' → oc.data = .cell v0 → News g env.locals h ((c, oc) :: nw) → R (.ok .next) { s with heap := h, toks := tk }) :
    wpAny (model prog w) A (pyIter (.ref r)) (fun it s₂ => codeAny (model prog w) A (.forLoop (.Name name px) it body [] env) R s₂) E s := by
  have hclt : c < s.heap.objs.size := Heap.lt_size (N _ (.head _)).1
  refine wpAny_pyIter_range hr hsm ?_
  refine loop_cell (s := { s with heap := _, toks := _ }) mJ (LCg.range_walks hh a n) (fun i h st => ⟨_, st⟩) (fun i h h' o st e e' k' N' => LCg.range_st (L := env.locals) (h₀ := g) i h h' o [] st e e' k' (fun p hp => by cases hp) trivial) hx hk hc ?_ (F.keeps fun _ _ e => Heap.get?_push_of_some _ e) (N.grown fun _ _ e => Heap.get?_push_of_some _ e) hoc hcn (fun p hp => Heap.lt_size (N p hp).1) (Nat.ne_of_gt F.ns.lt) (next_is_new F) (by show IsRangeIter _ _ _ _ _; rw [hn]; simpa using Heap.get?_push_size _ rfl) h0 turn done
  intro hm
  exact Nat.lt_irrefl _ (List.mem_singleton.mp hm ▸ hclt)
end
end
section
open PySem PySem.W PyProof.Rows PySem.Spec PySem.Calls
section
variable {prog : Program} {w : World} {A : Around} {E : Value → Shared → Prop} {s : Shared} {h₀ : Heap} {L : Addr} {m : Str → Option Value} {env : Env} {news : List (Addr × Obj)}
/-- a list of lists of ints is made, one list a turn -/
noncomputable def RowJ (led : List (Addr × Obj)) (bd : Nat) (rs : List (List Int)) : Jt := fun i ys nw => (∀ q ∈ led, q ∈ nw) ∧ (∀ q ∈ nw, q ∈ led ∨ @LT.lt Nat _ bd q.1) ∧ RowsAre nw ys (rs.take i)
noncomputable def PostR (h₀ : Heap) (L : Addr) (m : Str → Option Value) (s₁ : Shared) (led : List (Addr × Obj)) (row : List Int) (y : Value) (s₄ : Shared) : Prop :=
  ∃ h' tk' r vs k0, y = .ref r ∧ s₄ = { s₁ with heap := h', toks := tk' } ∧ Fr h₀ L h' m ∧ News h₀ L h' ((r, listOf vs.toArray k0) :: led) ∧ (∀ q ∈ led, q.1 < r) ∧ IntsAre vs row
theorem postR {s₁ : Shared} {led : List (Addr × Obj)} {row : List Int} {h' : Heap} {tk' : Nat} {r : Addr} {vs : List Value} {k0 : Nat} (F : Fr h₀ L h' m) (N : News h₀ L h' ((r, listOf vs.toArray k0) :: led)) (lt : ∀ q ∈ led, q.1 < r) (hi : IntsAre vs row) :
    PostR h₀ L m s₁ led row (.ref r) { s₁ with heap := h', toks := tk' } := ⟨h', tk', r, vs, k0, rfl, rfl, F, N, lt, hi⟩
theorem rows_mono {nw nw' : List (Addr × Obj)} {ys : List Value} {rs : List (List Int)} (hs : ∀ q ∈ nw, q ∈ nw') (h : RowsAre nw ys rs) : RowsAre nw' ys rs := ⟨h.1, fun j v hv => by
  obtain ⟨r, vs, n, k, e, hm, r⟩ := h.2 j v hv
  exact ⟨_, vs, n, k, e, hs _ hm, r⟩⟩
theorem rows_snoc {nw : List (Addr × Obj)} {ys : List Value} {rs : List (List Int)} {row : List Int} {r : Addr} {vs : List Value} {n : Nat} (h : RowsAre nw ys rs) (hm : (r, listOf vs.toArray n) ∈ nw) (hi : IntsAre vs row) (h5 : row.length = 5) : RowsAre nw (ys ++ [.ref r]) (rs ++ [row]) := by
  refine ⟨by rw [List.length_append, List.length_append, h.1]; rfl, fun j v hv => ?_⟩
  by_cases hlt : j < ys.length
  · rw [List.getElem?_append_left hlt] at hv
    obtain ⟨r, vs, n, k, e, hm, hi, h5, hk⟩ := h.2 j v hv
    exact ⟨r, vs, n, k, e, hm, hi, h5, by rw [List.getElem?_append_left (h.1 ▸ hlt)]; exact hk⟩
  · rw [List.getElem?_append_right (Nat.not_lt.mp hlt)] at hv
    have h0 : j - ys.length = 0 := by
      cases q : j - ys.length with
      | zero => rfl
      | succ k => rw [q] at hv; cases hv
    rw [h0] at hv
    refine ⟨r, vs, n, row, (Option.some.inj hv).symm, hm, hi, h5, ?_⟩
    rw [List.getElem?_append_right (h.1 ▸ Nat.not_lt.mp hlt), ← h.1, h0]
    rfl
theorem row_turn {elt : Expr} {x : Str} {scope : Scope} {cl : List (Str × Addr)} {n : Nat} {P : Nat → Value → Prop} {led : List (Addr × Obj)} {bd : Nat} {rs : List (List Int)} {row : Nat → List Int} {ob : Obj} (hb : (bd, ob) ∈ led) (hr : ∀ i, i < n → rs[i]? = some (row i)) (h5 : ∀ i, (row i).length = 5)
    (H : ∀ i v I oI C oC c oc D m₂ h tk ys nw (E' : Value → Shared → Prop), i < n → P i v → (∀ q ∈ led, q ∈ nw) → LCg.NsObj oC m₂ → oc.data = .cell (some v) → Fr h₀ L h m → News h₀ L h ((I, oI) :: (C, oC) :: (c, oc) :: (D, LCg.lst ys) :: nw) → Off4 I C c D nw →
      (@Ne Nat I C ∧ @Ne Nat I c ∧ @Ne Nat I D ∧ @Ne Nat C c ∧ @Ne Nat C D ∧ @Ne Nat c D) →
      wpAny (model prog w) A (eval elt (compEnvC scope ((x, c) :: cl) C env)) (PostR h₀ L m s ((I, oI) :: (C, oC) :: (c, oc) :: (D, LCg.lst ys) :: nw) (row i)) E' { s with heap := h, toks := tk }) :
    TurnC prog w A h₀ L m env elt x scope cl s n P (RowJ led bd rs) := by
  intro i v I oI C oC c oc D m₂ h tk ys nw E' hi hv hJ hC hc F N off ne
  refine wpAny_mono (H i v I oI C oC c oc D m₂ h tk ys nw E' hi hv hJ.1 hC hc F N off ne) (fun y s₄ hq => ?_) fun _ _ e => e
  obtain ⟨h', tk', r, vs, k0, rfl, rfl, F', N', lt, hrow⟩ := hq
  have l1 := lt _ (.head _)
  have l2 := lt _ (.tail _ (.head _))
  have l3 := lt _ (.tail _ (.tail _ (.head _)))
  have l4 := lt _ (.tail _ (.tail _ (.tail _ (.head _))))
  have l5 : ∀ q ∈ nw, q.1 < r := fun q hq => lt q (.tail _ (.tail _ (.tail _ (.tail _ hq))))
  refine ⟨h', tk', (r, listOf vs.toArray k0) :: nw, rfl, F', fun p hp => N' p ?_, fun p hp => ?_, fun q hq => .tail _ (hJ.1 q hq), fun q hq => ?_, ?_⟩
  · simp only [List.mem_cons] at hp ⊢
    grind
  · rcases List.mem_cons.mp hp with rfl | hp
    · exact ⟨Nat.ne_of_gt l1, Nat.ne_of_gt l2, Nat.ne_of_gt l3, Nat.ne_of_gt l4⟩
    · exact off p hp
  · rcases List.mem_cons.mp hq with rfl | hq
    · exact .inr (l5 _ (hJ.1 _ hb))
    · exact hJ.2.1 q hq
  · have e : rs.take (i + 1) = rs.take i ++ [row i] := by rw [List.take_add_one, hr i hi]; rfl
    rw [e]
    exact rows_snoc (rows_mono (fun q hq => .tail _ hq) hJ.2.2) (.head _) hrow (h5 i)
end
end
section
open PySem PySem.W PyProof.Rows PySem.Spec PySem.Calls
section
variable {prog : Program} {w : World} {A : Around} {E : Value → Shared → Prop} {s : Shared} {g : Heap} {m : Str → Option Value} {env : Env} {nw : List (Addr × Obj)}
theorem forL_range {name : Str} {px : Pos} {body : List Stmt} {R : Result → Shared → Prop} {r : Addr} {a b : Int} {t u v : Tok} {n : Nat} (mJ : Nat → (Str → Option Value) → Prop) (hh : A.handled = none)
    (hr : IsRange s.heap r a b 1 t u v) (hsm : Builtin.Range.small a b 1 = true) (hn : Builtin.Range.rangeSize a b 1 = ((n : Nat) : Int))
    (hx : env.kindOf name = some .local) (hk : env.scope.kind = .function) (F : Fr g env.locals s.heap m) (N : News g env.locals s.heap nw) (h0 : mJ 0 m)
    (turn : ∀ i I oI h tk m' t, i < n → mJ i m' → Fr g env.locals h (fun y => if y = name then some (.int (a + (i : Int)) t) else m' y) → News g env.locals h ((I, oI) :: nw) → (∀ p ∈ nw, p.1 < I) →
      wpAny (model prog w) A (execs body env) (TurnX g env.locals (mJ (i + 1)) ((I, oI) :: nw) s R) (notedBy (model prog w) A env fun e s' => R (.error e) s') { s with heap := h, toks := tk })
    (done : ∀ h tk m', mJ n m' → Fr g env.locals h m' → News g env.locals h nw → R (.ok .next) { s with heap := h, toks := tk }) :
    wpAny (model prog w) A (pyIter (.ref r)) (fun it s₂ => codeAny (model prog w) A (.forLoop (.Name name px) it body [] env) R s₂) E s := by
  refine wpAny_pyIter_range hr hsm ?_
  have lt0 : ∀ p ∈ nw, p.1 < s.heap.objs.size := fun p hp => Heap.lt_size (N p hp).1
  have hL : s.heap.objs.size ≠ env.locals := Nat.ne_of_gt F.ns.lt
  have hf := next_is_new F
  have W := LCg.range_walks (prog := prog) (w := w) (I := s.heap.objs.size) hh a n
  refine codeAny_forLoop (fun k s' => ∃ i h tk m', s' = { s with heap := h, toks := tk } ∧ i ≤ n ∧ k = n + 1 - i ∧ IsRangeIter h s.heap.objs.size (a + (i : Nat) * 1) ((n : Int) - (i : Nat)) 1 ∧ mJ i m' ∧ Fr g env.locals h m' ∧ News g env.locals h nw) ?_ (n + 1)
    ⟨0, _, s.toks, m, rfl, Nat.zero_le _, rfl, by rw [hn]; simpa using Heap.get?_push_size _ rfl, h0, F.keeps fun _ _ e => Heap.get?_push_of_some _ e, N.grown fun _ _ e => Heap.get?_push_of_some _ e⟩
  rintro k s' ⟨i, h, tk, m', rfl, hi, rfl, st, hm, F', N'⟩
  by_cases hlt : i < n
  · refine W.item i _ _ _ hlt st fun v h₁ tk₁ hP st₁ hk₁ => ?_
    obtain ⟨t, rfl⟩ := hP
    have F₁ : Fr g env.locals h₁ m' := LCg.fr_but F' hk₁ (Ne.symm hL) hf
    have N₁ : News g env.locals h₁ nw := LCg.news_but N' hk₁ fun p hp => Nat.ne_of_lt (lt0 p hp)
    refine wpAny_assign_Name (wpAny_storeName_local hx F₁.ns (fun h₂ hn₂ hs₂ => ?_) (by rw [hk]; rfl))
    have F₂ := F₁.set hn₂ hs₂
    have st₂ : IsRangeIter h₂ s.heap.objs.size (a + ((i + 1 : Nat) : Nat) * 1) ((n : Int) - ((i + 1 : Nat) : Nat)) 1 := hs₂.extBut _ _ hL st₁
    obtain ⟨oI, heI⟩ : ∃ o, h₂.get? s.heap.objs.size = some o := ⟨_, st₂⟩
    have N₂ : News g env.locals h₂ ((s.heap.objs.size, oI) :: nw) := fun p hp => by
      rcases List.mem_cons.mp hp with rfl | hp
      · exact ⟨heI, hL, hf⟩
      · exact N₁.set hs₂ p hp
    refine wpAny_mono (turn i _ _ h₂ _ m' t hlt hm F₂ N₂ lt0) (fun f s₃ h₃ => ?_) fun _ _ e => e
    have fin : (∃ h' tk' m', s₃ = { s with heap := h', toks := tk' } ∧ Fr g env.locals h' m' ∧ News g env.locals h' ((s.heap.objs.size, oI) :: nw) ∧ mJ (i + 1) m') →
        ∃ k', k' < n + 1 - i ∧ ∃ i h tk m', s₃ = { s with heap := h, toks := tk } ∧ i ≤ n ∧ k' = n + 1 - i ∧ IsRangeIter h s.heap.objs.size (a + (i : Nat) * 1) ((n : Int) - (i : Nat)) 1 ∧ mJ i m' ∧ Fr g env.locals h m' ∧ News g env.locals h nw := by
      rintro ⟨h₄, tk₄, m₄, rfl, F₄, N₄, hm₄⟩
      exact ⟨n + 1 - (i + 1), by omega, i + 1, h₄, tk₄, m₄, rfl, hlt, rfl, ((N₄ _ (.head _)).1.trans heI.symm).trans st₂, hm₄, F₄, fun p hp => N₄ p (.tail _ hp)⟩
    cases f with
    | next => exact fin h₃
    | cont => exact fin h₃
    | brk => exact h₃
    | ret v => exact h₃
  · obtain rfl : i = n := Nat.le_antisymm hi (Nat.not_lt.mp hlt)
    refine W.done _ _ _ st fun h₁ tk₁ hk₁ => wpAny_execs_nil ?_
    exact done h₁ tk₁ m' hm (LCg.fr_but F' hk₁ (Ne.symm hL) hf) (LCg.news_but N' hk₁ fun p hp => Nat.ne_of_lt (lt0 p hp))
end
end
section
open PySem PySem.W PyProof.Rows PySem.Spec PySem.Calls
theorem kw_Cloop_0 : True := by
  k_with_none
  k_with "my enter" => ((refine' code_def ?k1 ?k2 ?k3 ?k4 ?k5 ?kA ?kF ?kK ?k6 ?k7 ?k8 ?k9 ?kB ?_ ?c2 ?c3 ?c4 ?c5; (case kA => exact rfl); (case kF => exact rfl); (case kK => first | exact rfl | assumption); (case k1 => k_asm); (case k2 => k_asm); (case k3 => k_asm); (case k4 => k_asm); (case k5 => k_asm); (case k6 => k_is); (case k7 => k_is); (case k8 => ktr_room); (case k9 => exact BindsTo.of_eq rfl); (case c5 => decide); (case kB => exact locs rfl); (case c2 => exact rfl); (case c3 => exact rfl); (case c4 => exact rfl); k_whole; intro g'ₓ L'ₓ h'ₓ FG'ₓ F'ₓ N'ₓ B'ₓ X'ₓ T'ₓ; (try dsimp only); (try k_lift B'ₓ); (try k_fold)))
  k_with "my enterC" => ((refine' code_defC ?k1 ?k2 ?k3 ?k4 ?k5 ?kA ?kF ?kK ?k6 ?k7 ?k8 ?k9 ?kB ?kD ?_ ?c2 ?c3 ?c4; (case kA => exact rfl); (case kF => exact rfl); (case kK => first | exact rfl | assumption); (case k1 => k_asm); (case k2 => k_asm); (case k3 => k_asm); (case k4 => k_asm); (case k5 => k_asm); (case k6 => k_is); (case k7 => k_is); (case k8 => ktr_room); (case k9 => exact BindsTo.of_eq rfl); (case kB => exact rfl); (case kD => decide +kernel); (case c2 => exact rfl); (case c3 => exact rfl); (case c4 => exact rfl); k_whole; intro g'ₓ L'ₓ h'ₓ tk'ₓ cells'ₓ FG'ₓ F'ₓ N'ₓ Y'ₓ B'ₓ X'ₓ T'ₓ l1ₓ; (try k_lt l1ₓ); k_cells Y'ₓ; (try simp only [List.cons_append, List.nil_append] at N'ₓ); (try dsimp only); (try k_lift B'ₓ); (try k_fold)))
  k_with "call ref" => ((k_here; (with_reducible show wpAny _ _ (PySem.call (Value.ref _) _ _) _ _ _); (refine wpAny_call ?_); k_dflt (walk_at "my enter")))
  k_with "my asm" => (((case k1 => k_asm); (case k2 => k_asm); (case k3 => k_asm); (case k4 => k_asm); (case k5 => k_asm); (case kK => first | exact rfl | assumption); (case kd => ktr_room); (case ku => ktr_units)))
  k_with "execs cons" => (refine wpAny_execs_cons ?_)
  k_with "execs nil" => (refine wpAny_execs_nil ?_)
  k_with "execs cons" => ((refine gen_toks (X := _ + 1 + 1 + 1 + 1) ?_; intro tkₓ htkₓ; (try dsimp only at htkₓ)))
  k_with "execs nil" => ((refine gen_toks (X := _ + 1 + 1 + 1 + 1) ?_; intro tkₓ htkₓ; (try dsimp only at htkₓ)))
  k_with "execs cons" => ((refine' gen_norm ?kS ?kF ?kE ?_; (case kS => with_reducible assumption); (case kF => with_reducible assumption); (case kE => exact rfl); intro tkₓ htkₓ; (try dsimp only at htkₓ)))
  k_with "execs nil" => ((refine' gen_norm ?kS ?kF ?kE ?_; (case kS => with_reducible assumption); (case kF => with_reducible assumption); (case kE => exact rfl); intro tkₓ htkₓ; (try dsimp only at htkₓ)))
  k_with "exec If" => (refine wpAny_If ?_)
  k_with "call type:str" => (refine P.str_of_bool ?_)
  k_with "callWith" => (first
    | ((try dsimp only); (with_reducible show wpAny _ _ (callWith _ (Value.builtin _) _ _ _) _ _ _); refine callWith_method1 ?_)
    | ((try dsimp only); (with_reducible show wpAny _ _ (callWith _ (Value.type _) _ _ _) _ _ _); refine callWith_type1 ?_))
  trivial
variable {w : World} {p : Program} {loose : List Str} {mean : ExcName → Option Value} {mg mb : Str → Option Value} {dp un : Nat} {gd : Option (List Code)} {cn : Str} {cs : Scope} {a : Addr} {ccd : Value} {cl : List (Str × Addr)} {outer : List Env} {A₀ : Around} {base h₀ : Heap} {L : Addr} {m : Str → Option Value} {s : Shared} {Q E : Value → Shared → Prop} {news : List (Addr × Obj)}
theorem filled_Cloop : (K91 = K91) ∧ (PySem.Challenge.rw_wn0091_01.most = some 63) := by
  k_fill
  exact ⟨rfl, rfl⟩

noncomputable def rankRow (st : List Int) (p : Nat) : List Int := (rangeKs 0 5).map fun i => (((st.take p).filter (fun w => decide (4 - i ≤ w))).length : Int) - i
noncomputable def rankVal (st : List Int) (p j : Nat) : Int := (((st.take p).filter (fun w => decide (4 - (j : Int) ≤ w))).length : Int) - j
theorem rank_row (st : List Int) (p : Nat) : (List.range 5).map (rankVal st p) = rankRow st p := rfl
theorem rank_len (st : List Int) (p : Nat) : (rankRow st p).length = 5 := rfl
theorem pval {t1 t2 t3 t4 : Tok} {i : Nat} {v : Value} (h : (#[Value.int 1 t1, .int 2 t2, .int 3 t3, .int 4 t4] : Array Value)[i]? = some v) : ∃ t, v = .int ((i : Int) + 1) t := by
  match i, h with
  | 0, h => exact ⟨t1, (Option.some.inj h).symm⟩
  | 1, h => exact ⟨t2, (Option.some.inj h).symm⟩
  | 2, h => exact ⟨t3, (Option.some.inj h).symm⟩
  | 3, h => exact ⟨t4, (Option.some.inj h).symm⟩
  | i + 4, h => cases h
noncomputable def ranksOf (st : List Int) : List (List Int) := [1, 2, 3, 4].map (rankRow st)
noncomputable def geB (b x : Int) : Int := if b ≤ x then 1 else 0
noncomputable def ChkOk (ms ks st xs : List Int) : Prop :=
  ms.map (fun k => k.fdiv 65536) = [0, 0, 0, 0] ∧
  (∀ p : Nat, p < 16 → sumsA 0 (ms.map fun k => (k.fdiv (2 ^ p)).fmod 2) = (ranksOf st).map (headF ([0] ++ sumsA 0 ((List.range 4).map fun q => ((p : Int).fdiv (2 ^ q)).fmod 2)))) ∧
  ∀ b ∈ xs, sumsA 0 (ks.map (geB b)) = (ranksOf st).map (headF ([0] ++ sumsA 0 (xs.map (geB b))))

theorem ne_same {A : Around} {a b : Addr} {vs us : List Value} {ns ms : List Int} (hl : s.heap.IsList a vs.toArray) (hi : IntsAre vs ns) (hl' : s.heap.IsList b us.toArray) (hi' : IntsAre us ms) (hu : A.units + 64 < cLine) (e : ns = ms)
    (h : Q (.bool false) s) : wpAny (Mo w) A (compareOp .NotEq (.ref a) (.ref b)) Q E s := ne_intsK hl hi hl' hi' hu (by rw [e]; simpa using h)

noncomputable abbrev TLoop : List Stmt := lit_of (a := B85.drop 6) (by conv => lhs; whnf)
noncomputable def sub (c : Addr) (l : List (Addr × Obj)) : List (Addr × Obj) := l.filter fun p => decide (p.1 ≠ c)
theorem sub_mem {c : Addr} {l : List (Addr × Obj)} {p : Addr × Obj} (h : p ∈ l) (hn : p.1 ≠ c) : p ∈ sub c l := List.mem_filter.mpr ⟨h, decide_eq_true hn⟩
theorem mem_sub {c : Addr} {l : List (Addr × Obj)} {p : Addr × Obj} (h : p ∈ sub c l) : p ∈ l ∧ p.1 ≠ c := ⟨(List.mem_filter.mp h).1, of_decide_eq_true (List.mem_filter.mp h).2⟩
theorem no_cell {g h : Heap} {L c r : Addr} {nw : List (Addr × Obj)} {oc : Obj} {v : Option Value} {its : Array Value} {n : Nat} (N : News g L h nw) (hc : (c, oc) ∈ nw) (hd : oc.data = .cell v) (hm : (r, listOf its n) ∈ nw) : r ≠ c := by
  rintro rfl
  have e := (N _ hc).1.symm.trans (N _ hm).1
  have e2 : oc = listOf its n := Option.some.inj e
  rw [e2] at hd
  cases hd
theorem sub_list {g h : Heap} {L c r : Addr} {nw : List (Addr × Obj)} {oc : Obj} {v : Option Value} {its : Array Value} {n : Nat} (N : News g L h nw) (hc : (c, oc) ∈ nw) (hd : oc.data = .cell v) (hm : (r, listOf its n) ∈ nw) : (r, listOf its n) ∈ sub c nw := sub_mem hm (no_cell N hc hd hm)
theorem sub_rows {g h : Heap} {L c : Addr} {nw : List (Addr × Obj)} {oc : Obj} {v : Option Value} {rvs : List Value} {rks : List (List Int)} (N : News g L h nw) (hc : (c, oc) ∈ nw) (hd : oc.data = .cell v) (hr : RowsAre nw rvs rks) : RowsAre (sub c nw) rvs rks :=
  ⟨hr.1, fun j v hv => by
    obtain ⟨r, vs, n, k, e, hm, q⟩ := hr.2 j v hv
    exact ⟨r, vs, n, k, e, sub_list N hc hd hm, q⟩⟩
section
theorem kw_Cloop_1 : True := by
  k_with "call builtin:max" => (refine stop_ ?_)
  k_with "my args" => (((case k1 => k_asm); (case k2 => k_asm); (case k3 => k_asm); (case k4 => k_asm); (case kK => k_asm); (case k5 => exact rfl); (case kd => ktr_room); (case ku => ktr_units)))
  k_with "eval ListComp" => (refine stop_ ?_)
  k_with "CompC" => (refine stop_ ?_)
  k_with "CompSrc" => (refine stop_ ?_)
  k_with "CompEnd" => (refine stop_ ?_)
  k_with "CellEnd" => (refine stop_ ?_)
  k_with "call ref" => (((with_reducible show wpAny _ _ (PySem.call (Value.ref 235) _ _) _ _ _); k_dflt ((refine' sum_ok ?k1 ?k2 ?kK ?k3 ?k4 ?k5 ?kd ?ku ?hm ?hi ?hl ?_; walk_at "my args"; (case hm => k_mem); (case hi => assumption); (case hl => first | omega | (rw [List.length_map]; omega))); intro D'ₓ svs'ₓ k'ₓ h'ₓ tk'ₓ hi'ₓ hn'ₓ F'ₓ N'ₓ l1ₓ; (try k_lt l1ₓ))))
  k_with "subscriptTail" => (((with_reducible show wpAny _ _ (subscriptTail _ _ (Value.ref _) (Value.int _ _)) _ _ _); k_dflt (refine' ksa_sub ?k1 ?k2 ?k3 ?k4 ?k5 ?k6 ?_ ?k7; (case k1 => k_asm); (case k2 => k_mem); (case k3 => with_reducible assumption); (case k4 => ksa_idx); (case k5 => ksa_idx); (case k6 => ksa_idx); (case k7 => with_unfolding_all rfl); k_whole); intro _))
  k_with "subscriptTail Name" => (((with_reducible show wpAny _ _ (subscriptTail _ _ (Value.ref _) (Value.int _ _)) _ _ _); k_dflt (refine' ksa_sub ?k1 ?k2 ?k3 ?k4 ?k5 ?k6 ?_ ?k7; (case k1 => k_asm); (case k2 => k_mem); (case k3 => with_reducible assumption); (case k4 => ksa_idx); (case k5 => ksa_idx); (case k6 => ksa_idx); (case k7 => with_unfolding_all rfl); k_whole); intro _))
  k_with "subscriptTail Name Name ref int" => (((with_reducible show wpAny _ _ (subscriptTail _ _ (Value.ref _) (Value.int _ _)) _ _ _); k_dflt (refine' ksa_sub ?k1 ?k2 ?k3 ?k4 ?k5 ?k6 ?_ ?k7; (case k1 => k_asm); (case k2 => k_mem); (case k3 => with_reducible assumption); (case k4 => ksa_idx); (case k5 => ksa_idx); (case k6 => ksa_idx); (case k7 => with_unfolding_all rfl); k_whole); intro _))
  k_with "call ref" => (((with_reducible show wpAny _ _ (PySem.call (Value.ref 240) _ _) _ _ _); k_dflt ((refine' head_ok ?k1 ?k2 ?kK ?k3 ?k4 ?k5 ?kd ?ku ?hbm ?hbi ?hb4 ?hrm ?hri ?hr4 ?_; walk_at "my args"; (case hbm => k_mem); (case hbi => assumption); (case hb4 => (simp only [List.length_map, List.length_range]; first | done | omega)); (case hrm => k_mem); (case hri => (refine rows_mono ?_ (by assumption); intro qₓ hqₓ; repeat (first | exact hqₓ | refine List.mem_cons_of_mem _ ?_))); (case hr4 => rfl)); intro D'ₓ ys'ₓ k'ₓ h'ₓ tk'ₓ hi'ₓ F'ₓ N'ₓ l1ₓ; (try k_lt l1ₓ))))
  k_with "compareOp NotEq ref ref" => (refine stop_ ?_)
  k_with "pyIter ref" => (refine stop_ ?_)
  k_with "exec Assign cons ListComp" => (refine stop_ ?_)
  k_with "exec For" => (with_unfolding_all refine wpAny_For ?_)
  k_with "exec For Name Name cons nil" => (with_unfolding_all refine wpAny_For ?_)
  k_with "exec For Name Call cons nil" => (with_unfolding_all refine wpAny_For ?_)
  k_with "CompSrcT" => (refine stop_ ?_)
  k_with "call builtin:len" => (refine stop_ ?_)
  trivial
noncomputable def mapX (u v : Option Value) (m0 : Str → Option Value) : Str → Option Value := fun y => if y = Str.ofString "told" then u else if y = Str.ofString "start" then v else m0 y
theorem mapX_self (m0 : Str → Option Value) : m0 = mapX (m0 (Str.ofString "told")) (m0 (Str.ofString "start")) m0 := by
  funext y
  unfold mapX
  by_cases h1 : y = Str.ofString "told"
  · rw [if_pos h1, h1]
  · rw [if_neg h1]
    by_cases h2 : y = Str.ofString "start"
    · rw [if_pos h2, h2]
    · rw [if_neg h2]
theorem mapX_set {u v a b : Option Value} {m0 : Str → Option Value} : (fun z => if z = Str.ofString "told" then b else (fun z => if z = Str.ofString "start" then a else mapX u v m0 z) z) = mapX b a m0 := by
  funext y
  unfold mapX
  by_cases h1 : y = Str.ofString "told"
  · rw [if_pos h1, if_pos h1]
  · rw [if_neg h1, if_neg h1]
    by_cases h2 : y = Str.ofString "start"
    · simp [h2]
    · simp [h1, h2]
theorem agr_loops {L' : Addr} {g : Heap} {mm : Str → Option Value} {Qf : Flow → Shared → Prop} {Ef : Value → Shared → Prop} {mD kD vD rD : Addr} {nm nk nv nr : Nat} {mvs kvs xvs rvs : List Value} {ms ks st xs : List Int} {o2 o3 : Obj} {nw : List (Addr × Obj)} {v2 v3 : Option Value}
   (B : Below (ktrTop dp un gd cn cs L a ccd cl outer) base (envX cn cs L a ccd cl :: outer) g)
   (F : Fr g L' s.heap (fun q => if q = Str.ofString "ranks" then some (.ref rD) else if q = Str.ofString "masks" then some (.ref mD) else if q = Str.ofString "kept" then some (.ref kD) else if q = Str.ofString "values" then some (.ref vD) else mm q)) (X : (K91 w.params).In g) (T : Top p loose mean mg mb g)
   (N : News g L' s.heap nw) (c2 : (L' + 2, o2) ∈ nw) (c3 : (L' + 3, o3) ∈ nw) (h2 : o2.data = .cell v2) (h3 : o3.data = .cell v3)
   (hd : dp + 19 < recursionLimit) (hu : un + 240 < cLine) (hk : cs.kind = .function)
   (hmm : (mD, listOf mvs.toArray nm) ∈ nw) (hkm : (kD, listOf kvs.toArray nk) ∈ nw) (hvm : (vD, listOf xvs.toArray nv) ∈ nw) (hrm : (rD, listOf rvs.toArray nr) ∈ nw) (hri : RowsAre nw rvs (ranksOf st))
   (hmi : IntsAre mvs ms) (hm4 : ms.length = 4) (hki : IntsAre kvs ks) (hk4 : ks.length = 4) (hxi : IntsAre xvs xs) (hx4 : xs.length = 4) (hck : ChkOk ms ks st xs)
   (ret : ∀ h' tk' m', Fr g L' h' m' → News g L' h' (sub (L' + 3) (sub (L' + 2) nw)) → Qf (.ret (.bool true)) { s with heap := h', toks := tk' }) :
   wpAny (Mo w) ((ktrTop dp un gd cn cs L a ccd cl outer).deeper (envOfC (Str.ofString "_law_agrees") S85 L' 245 (.ref 244))) (execs TLoop (envOfC (Str.ofString "_law_agrees") S85 L' 245 (.ref 244))) Qf Ef s := by
  have hS : St s.gens s.drawn s.os := trivial
  obtain ⟨hc1, hc2, hc3⟩ := hck
  k_steps
  refine go_ ?_
  with_reducible rename Fr _ _ _ _ => F9
  with_reducible rename News _ _ _ _ => N9
  refine forC_range (nw := sub (L' + 2) nw) (n := 16) (fun m' => ∃ u v, m' = mapX u v (fun q => if q = Str.ofString "ranks" then some (.ref rD) else if q = Str.ofString "masks" then some (.ref mD) else if q = Str.ofString "kept" then some (.ref kD) else if q = Str.ofString "values" then some (.ref vD) else mm q)) (by rfl) (by assumption) (by decide) (by rfl) (by rfl) (by rfl) (by rfl) F9 ?hN h2 (fun p hp => (mem_sub hp).2) ⟨_, _, mapX_self _⟩ ?turn ?done
  case hN =>
    intro p hp
    rcases List.mem_cons.mp hp with rfl | hp
    · exact N9 _ c2
    · exact N9 _ (mem_sub hp).1
  case turn =>
    intro i v I oI oc h tk m' hi hv hm hoc F1 N1 hI
    obtain ⟨t, rfl⟩ := hv
    obtain ⟨u0, v0, rfl⟩ := hm
    have kmm := sub_list N9 c2 h2 hmm
    have krm := sub_list N9 c2 h2 hrm
    have kri := sub_rows N9 c2 h2 hri
    clear F9 N9
    unfold mapX at F1
    k_steps
    refine go_ ?_
    refine LCg.Assign_ListComp_U (F₀ := F1) (by rfl) (by with_unfolding_all rfl) (by with_unfolding_all rfl) (by decide) (by rfl) (by decide) (by rfl) (by rfl) (by rfl) ?_
    k_steps
    refine go_ ?_
    with_reducible rename Fr _ _ _ _ => F2
    with_reducible rename News _ _ _ _ => N2
    refine fixL_range (n := 4) (fun j y => ∃ t, y = Value.int (((i : Int).fdiv (2 ^ j)).fmod 2) t) (by rfl) F2 N2 (by assumption) (by decide) (by rfl) (by decide) ?H1 ?f1
    case H1 =>
      intro gg j v2 I2 oI2 C2 oC2 D2 m2 hh2 tk2 ys2 E2 hj hv2 hC2 hx2 F3 N3 off2 ne2
      obtain ⟨t2, rfl⟩ := hv2
      clear F2 N2
      k_steps
      exact postE (by assumption) (by assumption) ⟨_, congrArg (fun z => Value.int z _) (by rw [Int.zero_add, show (0 + (j : Int)).toNat = j by omega])⟩
    case f1 =>
      intro gg ss hsl hsy
      have his := ints_of hsl hsy
      clear hsl hsy F2 N2
      k_steps
      refine go_ ?_
      with_reducible rename Fr _ _ _ _ => F4
      refine LCg.Assign_ListComp_U (F₀ := F4) (by rfl) (by with_unfolding_all rfl) (by with_unfolding_all rfl) (by decide) (by rfl) (by decide) (by rfl) (by rfl) (by rfl) ?_
      k_steps
      refine go_ ?_
      with_reducible rename News _ _ _ _ => N4
      with_reducible rename Fr _ _ _ _ => F5
      refine fixL_list (fun j y => ∃ t k, ms[j]? = some k ∧ y = Value.int ((k.fdiv (2 ^ i)).fmod 2) t) (by rfl) F5 N4 (by rw [List.size_toArray, hmi.length, hm4]; decide) (by k_mem) ?H2 ?f2
      case H2 =>
        intro gg j v2 I2 oI2 C2 oC2 D2 m2 hh2 tk2 ys2 E2 hj hv2 hC2 hx2 F3 N3 off2 ne2
        obtain ⟨k, t, hk, rfl⟩ := ints_at hmi (by simpa using hv2)
        clear F5 N4
        k_steps
        exact postE (by assumption) (by assumption) ⟨_, k, hk, congrArg (fun z => Value.int z _) (by rw [show (0 + (i : Int)).toNat = i by omega])⟩
      case f2 =>
        intro gg ts htl hty
        have hit := ints_of_list (l := ms) (f := fun k => (k.fdiv (2 ^ i)).fmod 2) (by rw [htl, List.size_toArray, hmi.length]) hty
        clear htl hty F5 N4
        k_steps
        refine go_ ?_
        with_reducible rename News _ _ _ _ => N8
        refine ne_same ⟨_, (N8 _ (.tail _ (.head _))).1, rfl, _, rfl⟩ (by assumption) ⟨_, (N8 _ (.head _)).1, rfl, _, rfl⟩ (by assumption) (by ktr_units) (hc2 i hi) ?_
        k_steps
        with_reducible rename Fr _ _ _ _ => F8
        with_reducible rename News _ _ _ _ => N7
        exact turnX_next F8 (fun q hq => N7 q (.tail _ (.tail _ (.tail _ (.tail _ hq))))) ⟨_, _, mapX_set⟩
  case done =>
    intro h tk m' oc v0 hm F1 hoc N1
    obtain ⟨u0, w0, rfl⟩ := hm
    have kc2 : (L' + 2, oc) ∈ (L' + 2, oc) :: sub (L' + 2) nw := .head _
    have kc3 : (L' + 3, o3) ∈ (L' + 2, oc) :: sub (L' + 2) nw := .tail _ (sub_mem c3 (Nat.succ_ne_self _))
    have kkm : (kD, listOf kvs.toArray nk) ∈ (L' + 2, oc) :: sub (L' + 2) nw := .tail _ (sub_list N9 c2 h2 hkm)
    have kvm : (vD, listOf xvs.toArray nv) ∈ (L' + 2, oc) :: sub (L' + 2) nw := .tail _ (sub_list N9 c2 h2 hvm)
    have krm : (rD, listOf rvs.toArray nr) ∈ (L' + 2, oc) :: sub (L' + 2) nw := .tail _ (sub_list N9 c2 h2 hrm)
    have kri : RowsAre ((L' + 2, oc) :: sub (L' + 2) nw) rvs (ranksOf st) := rows_mono (fun q hq => .tail _ hq) (sub_rows N9 c2 h2 hri)
    have ret' : ∀ h' tk' m', Fr g L' h' m' → News g L' h' (sub (L' + 3) ((L' + 2, oc) :: sub (L' + 2) nw)) → Qf (.ret (.bool true)) { s with heap := h', toks := tk' } := fun h' tk' m' F N => ret h' tk' m' F fun q hq => N q (sub_mem (.tail _ (mem_sub hq).1) (mem_sub hq).2)
    clear F9 N9 ret
    generalize (L' + 2, oc) :: sub (L' + 2) nw = n2 at *
    unfold mapX at F1
    k_steps
    refine go_ ?_
    with_reducible rename Fr _ _ _ _ => F9
    with_reducible rename News _ _ _ _ => N9
    refine forC_list (nw := sub (L' + 3) n2) (fun m' => ∃ u v, m' = mapX u v (fun q => if q = Str.ofString "ranks" then some (.ref rD) else if q = Str.ofString "masks" then some (.ref mD) else if q = Str.ofString "kept" then some (.ref kD) else if q = Str.ofString "values" then some (.ref vD) else mm q)) (by rfl) (by rfl) (by rfl) (by rfl) F9 ?hN h3 (fun p hp => (mem_sub hp).2) (sub_list N9 kc3 h3 kvm) ⟨_, _, rfl⟩ ?turn ?done
    case hN =>
      intro p hp
      rcases List.mem_cons.mp hp with rfl | hp
      · exact N9 _ kc3
      · exact N9 _ (mem_sub hp).1
    case turn =>
      intro i v I oI oc h tk m' hi hv hm hoc F1 N1 hI
      obtain ⟨b, t, hb, rfl⟩ := ints_at hxi (by simpa using hv)
      obtain ⟨u0, v0, rfl⟩ := hm
      have hbm := List.mem_of_getElem? hb
      have jkm := sub_list N9 kc3 h3 kkm
      have jvm := sub_list N9 kc3 h3 kvm
      have jrm := sub_list N9 kc3 h3 krm
      have jri := sub_rows N9 kc3 h3 kri
      clear F9 N9
      unfold mapX at F1
      k_steps
      refine go_ ?_
      refine LCg.Assign_ListComp_U (F₀ := F1) (by rfl) (by with_unfolding_all rfl) (by with_unfolding_all rfl) (by decide) (by rfl) (by decide) (by rfl) (by rfl) (by rfl) ?_
      k_steps
      refine go_ ?_
      with_reducible rename Fr _ _ _ _ => F2
      with_reducible rename News _ _ _ _ => N2
      refine fixL_list (fun j y => ∃ t k, xs[j]? = some k ∧ y = Value.int (geB b k) t) (by rfl) F2 N2 (by rw [List.size_toArray, hxi.length, hx4]; decide) (by k_mem) ?H1 ?f1
      case H1 =>
        intro gg j v2 I2 oI2 C2 oC2 D2 m2 hh2 tk2 ys2 E2 hj hv2 hC2 hx2 F3 N3 off2 ne2
        obtain ⟨k, t, hk, rfl⟩ := ints_at hxi (by simpa using hv2)
        clear F2 N2
        k_steps
        · exact postE (by assumption) (by assumption) ⟨_, k, hk, congrArg (fun z => Value.int z _) (if_pos (by assumption)).symm⟩
        · exact postE (by assumption) (by assumption) ⟨_, k, hk, congrArg (fun z => Value.int z _) (if_neg (by assumption)).symm⟩
      case f1 =>
        intro gg ss hsl hsy
        have his := ints_of_list (l := xs) (f := geB b) (by rw [hsl, List.size_toArray, hxi.length]) hsy
        clear hsl hsy F2 N2
        k_steps
        refine go_ ?_
        with_reducible rename Fr _ _ _ _ => F4
        refine LCg.Assign_ListComp_U (F₀ := F4) (by rfl) (by with_unfolding_all rfl) (by with_unfolding_all rfl) (by decide) (by rfl) (by decide) (by rfl) (by rfl) (by rfl) ?_
        k_steps
        refine go_ ?_
        with_reducible rename News _ _ _ _ => N4
        with_reducible rename Fr _ _ _ _ => F5
        refine fixL_list (fun j y => ∃ t k, ks[j]? = some k ∧ y = Value.int (geB b k) t) (by rfl) F5 N4 (by rw [List.size_toArray, hki.length, hk4]; decide) (by k_mem) ?H2 ?f2
        case H2 =>
          intro gg j v2 I2 oI2 C2 oC2 D2 m2 hh2 tk2 ys2 E2 hj hv2 hC2 hx2 F3 N3 off2 ne2
          obtain ⟨k, t, hk, rfl⟩ := ints_at hki (by simpa using hv2)
          clear F5 N4
          k_steps
          · exact postE (by assumption) (by assumption) ⟨_, k, hk, congrArg (fun z => Value.int z _) (if_pos (by assumption)).symm⟩
          · exact postE (by assumption) (by assumption) ⟨_, k, hk, congrArg (fun z => Value.int z _) (if_neg (by assumption)).symm⟩
        case f2 =>
          intro gg ts htl hty
          have hit := ints_of_list (l := ks) (f := geB b) (by rw [htl, List.size_toArray, hki.length]) hty
          clear htl hty F5 N4
          k_steps
          refine go_ ?_
          with_reducible rename News _ _ _ _ => N8
          refine ne_same ⟨_, (N8 _ (.tail _ (.head _))).1, rfl, _, rfl⟩ (by assumption) ⟨_, (N8 _ (.head _)).1, rfl, _, rfl⟩ (by assumption) (by ktr_units) (hc3 b hbm) ?_
          k_steps
          with_reducible rename Fr _ _ _ _ => F8
          with_reducible rename News _ _ _ _ => N7
          exact turnX_next F8 (fun q hq => N7 q (.tail _ (.tail _ (.tail _ (.tail _ hq))))) ⟨_, _, mapX_set⟩
    case done =>
      intro h tk m' oc v0 hm F1 hoc N1
      k_steps
      exact ret' _ _ _ (by assumption) (fun q hq => N1 q (.tail _ hq))
end
end
section
open PySem PySem.W PyProof.Rows PySem.Spec PySem.Calls
theorem kw_Cagr_0 : True := by
  k_with_none
  k_with "my enter" => ((refine' code_def ?k1 ?k2 ?k3 ?k4 ?k5 ?kA ?kF ?kK ?k6 ?k7 ?k8 ?k9 ?kB ?_ ?c2 ?c3 ?c4 ?c5; (case kA => exact rfl); (case kF => exact rfl); (case kK => first | exact rfl | assumption); (case k1 => k_asm); (case k2 => k_asm); (case k3 => k_asm); (case k4 => k_asm); (case k5 => k_asm); (case k6 => k_is); (case k7 => k_is); (case k8 => ktr_room); (case k9 => exact BindsTo.of_eq rfl); (case c5 => decide); (case kB => exact locs rfl); (case c2 => exact rfl); (case c3 => exact rfl); (case c4 => exact rfl); k_whole; intro g'ₓ L'ₓ h'ₓ FG'ₓ F'ₓ N'ₓ B'ₓ X'ₓ T'ₓ; (try dsimp only); (try k_lift B'ₓ); (try k_fold)))
  k_with "my enterC" => ((refine' code_defC ?k1 ?k2 ?k3 ?k4 ?k5 ?kA ?kF ?kK ?k6 ?k7 ?k8 ?k9 ?kB ?kD ?_ ?c2 ?c3 ?c4; (case kA => exact rfl); (case kF => exact rfl); (case kK => first | exact rfl | assumption); (case k1 => k_asm); (case k2 => k_asm); (case k3 => k_asm); (case k4 => k_asm); (case k5 => k_asm); (case k6 => k_is); (case k7 => k_is); (case k8 => ktr_room); (case k9 => exact BindsTo.of_eq rfl); (case kB => exact rfl); (case kD => decide +kernel); (case c2 => exact rfl); (case c3 => exact rfl); (case c4 => exact rfl); k_whole; intro g'ₓ L'ₓ h'ₓ tk'ₓ cells'ₓ FG'ₓ F'ₓ N'ₓ Y'ₓ B'ₓ X'ₓ T'ₓ l1ₓ; (try k_lt l1ₓ); k_cells Y'ₓ; (try simp only [List.cons_append, List.nil_append] at N'ₓ); (try dsimp only); (try k_lift B'ₓ); (try k_fold)))
  k_with "call ref" => ((k_here; (with_reducible show wpAny _ _ (PySem.call (Value.ref _) _ _) _ _ _); (refine wpAny_call ?_); k_dflt (walk_at "my enter")))
  k_with "my asm" => (((case k1 => k_asm); (case k2 => k_asm); (case k3 => k_asm); (case k4 => k_asm); (case k5 => k_asm); (case kK => first | exact rfl | assumption); (case kd => ktr_room); (case ku => ktr_units)))
  k_with "execs cons" => (refine wpAny_execs_cons ?_)
  k_with "execs nil" => (refine wpAny_execs_nil ?_)
  k_with "execs cons" => ((refine gen_toks (X := _ + 1 + 1 + 1 + 1) ?_; intro tkₓ htkₓ; (try dsimp only at htkₓ)))
  k_with "execs nil" => ((refine gen_toks (X := _ + 1 + 1 + 1 + 1) ?_; intro tkₓ htkₓ; (try dsimp only at htkₓ)))
  k_with "execs cons" => ((refine' gen_norm ?kS ?kF ?kE ?_; (case kS => with_reducible assumption); (case kF => with_reducible assumption); (case kE => exact rfl); intro tkₓ htkₓ; (try dsimp only at htkₓ)))
  k_with "execs nil" => ((refine' gen_norm ?kS ?kF ?kE ?_; (case kS => with_reducible assumption); (case kF => with_reducible assumption); (case kE => exact rfl); intro tkₓ htkₓ; (try dsimp only at htkₓ)))
  k_with "exec If" => (refine wpAny_If ?_)
  k_with "call type:str" => (refine P.str_of_bool ?_)
  k_with "callWith" => (first
    | ((try dsimp only); (with_reducible show wpAny _ _ (callWith _ (Value.builtin _) _ _ _) _ _ _); refine callWith_method1 ?_)
    | ((try dsimp only); (with_reducible show wpAny _ _ (callWith _ (Value.type _) _ _ _) _ _ _); refine callWith_type1 ?_))
  trivial
variable {w : World} {p : Program} {loose : List Str} {mean : ExcName → Option Value} {mg mb : Str → Option Value} {dp un : Nat} {gd : Option (List Code)} {cn : Str} {cs : Scope} {a : Addr} {ccd : Value} {cl : List (Str × Addr)} {outer : List Env} {A₀ : Around} {base h₀ : Heap} {L : Addr} {m : Str → Option Value} {s : Shared} {Q E : Value → Shared → Prop} {news : List (Addr × Obj)}
theorem filled_Cagr : (K91 = K91) ∧ (PySem.Challenge.rw_wn0091_01.most = some 63) := by
  k_fill
  exact ⟨rfl, rfl⟩

noncomputable abbrev TL85 : List Stmt := lit_of (a := B85.drop 3) (by conv => lhs; whnf)
theorem ints_take : ∀ {vs : List Value} {ns : List Int}, IntsAre vs ns → ∀ k : Nat, IntsAre (vs.take k) (ns.take k)
  | _, _, .nil, k => by rw [List.take_nil, List.take_nil]; exact .nil
  | _, _, .cons n t r, 0 => .nil
  | _, _, .cons n t r, k + 1 => .cons n t (ints_take r k)
theorem slice_take {A : Around} {value slice : Expr} {l : Addr} {vs : List Value} {n : Nat} {p : Int} {u : Tok} {h₀ : Heap} {L : Addr} {m : Str → Option Value} {news : List (Addr × Obj)} (F : Fr h₀ L s.heap m) (N : News h₀ L s.heap news) (hl : (l, listOf vs.toArray n) ∈ news) (hz : vs.length ≤ 1000) (hp : 0 ≤ p)
    (h : ∀ D h', Fr h₀ L h' m → News h₀ L h' ((D, listOf (vs.take p.toNat).toArray 0) :: news) → (∀ q ∈ news, q.1 < D) → Q (.ref D) { s with heap := h' })
    (hs : subscripted slice false (.ref l) (.ref s.heap.objs.size) = operate [.ref s.heap.objs.size, .ref l] (getItem (.ref l) (.ref s.heap.objs.size)) := by with_unfolding_all rfl)
    (ht : ∀ r, letTemporaryGo value (.ref l) r = pure () := by intro _; with_unfolding_all rfl) :
    wpAny (Mo w) A (subscriptTail value slice (.ref l) (.ref s.heap.objs.size)) Q E { s with heap := s.heap.push { cls := .type "slice", data := .fields #[.none, .int p u, .none] } } := by
  refine slice_list F N ⟨_, (N _ hl).1, rfl, n, rfl⟩ .none (.int p u) (fun h' F' N' => ?_) hs ht (Nat.le_trans (by rw [List.size_toArray]; exact hz) (show 1000 ≤ sizeLine by decide))
  have e : slicePick vs.toArray none (some p) none = (vs.take p.toNat).toArray := by
    rw [slicePick_plain]
    obtain ⟨k, rfl⟩ := Int.eq_ofNat_of_zero_le hp
    have : clipAt vs.toArray.size (k : Int) = min k vs.length := by rw [clipAt_nat, List.size_toArray]
    simp only [Option.elim, List.drop_zero, Nat.sub_zero]
    rw [this]
    simp only [Int.toNat_natCast]
    exact congrArg List.toArray (List.take_eq_take_min ..).symm
  rw [e] at N'
  exact h _ h' F' N' fun q hq => Nat.lt_succ_of_lt (Heap.lt_size (N q hq).1)
theorem ranks_at (st : List Int) : ∀ i, i < 4 → (ranksOf st)[i]? = some (rankRow st (i + 1))
  | 0, _ => rfl
  | 1, _ => rfl
  | 2, _ => rfl
  | 3, _ => rfl
  | i + 4, h => absurd h (by omega)
theorem dat_same {A : Around} {a b : Addr} {xs ys : List Value} {ka kb : Nat} {n₁ : List (Addr × Obj)} {ds es : List Dat} (N : News h₀ L s.heap news) (ma : (a, listOf xs.toArray ka) ∈ news) (Da : DatAll n₁ xs ds) (sa : ∀ p ∈ n₁, p ∈ news)
    (mb : (b, listOf ys.toArray kb) ∈ news) (Db : DatAll n₁ ys es) (ha : ∀ d ∈ ds, kqdOk 8 d = true) (e : ds = es) (hu : A.units + 64 < cLine) (h : Q (.bool false) s) : wpAny (Mo w) A (compareOp .NotEq (.ref a) (.ref b)) Q E s :=
  kqd_ne N ma rfl rfl Da sa mb rfl rfl Db sa ha (e ▸ ha) hu (by subst e; simpa using h)
section
theorem kw_Cagr_1 : True := by
  k_with "call builtin:max" => (refine stop_ ?_)
  k_with "my args" => (((case k1 => k_asm); (case k2 => k_asm); (case k3 => k_asm); (case k4 => k_asm); (case kK => k_asm); (case k5 => exact rfl); (case kd => ktr_room); (case ku => ktr_units)))
  k_with "eval ListComp" => (refine stop_ ?_)
  k_with "CompC" => (refine stop_ ?_)
  k_with "CompSrc" => (refine stop_ ?_)
  k_with "CompEnd" => (refine stop_ ?_)
  k_with "CellEnd" => (refine stop_ ?_)
  k_with "call ref" => (((with_reducible show wpAny _ _ (PySem.call (Value.ref 235) _ _) _ _ _); k_dflt ((refine' sum_ok ?k1 ?k2 ?kK ?k3 ?k4 ?k5 ?kd ?ku ?hm ?hi ?hl ?_; walk_at "my args"; (case hm => k_mem); (case hi => assumption); (case hl => omega)); intro D'ₓ svs'ₓ k'ₓ h'ₓ tk'ₓ hi'ₓ hn'ₓ F'ₓ N'ₓ l1ₓ; (try k_lt l1ₓ))))
  k_with "subscriptTail" => (((with_reducible show wpAny _ _ (subscriptTail _ _ (Value.ref _) (Value.int _ _)) _ _ _); k_dflt (refine' ksa_sub ?k1 ?k2 ?k3 ?k4 ?k5 ?k6 ?_ ?k7; (case k1 => k_asm); (case k2 => k_mem); (case k3 => with_reducible assumption); (case k4 => ksa_idx); (case k5 => ksa_idx); (case k6 => ksa_idx); (case k7 => with_unfolding_all rfl); k_whole); intro _))
  k_with "subscriptTail Name" => (((with_reducible show wpAny _ _ (subscriptTail _ _ (Value.ref _) (Value.int _ _)) _ _ _); k_dflt (refine' ksa_sub ?k1 ?k2 ?k3 ?k4 ?k5 ?k6 ?_ ?k7; (case k1 => k_asm); (case k2 => k_mem); (case k3 => with_reducible assumption); (case k4 => ksa_idx); (case k5 => ksa_idx); (case k6 => ksa_idx); (case k7 => with_unfolding_all rfl); k_whole); intro _))
  k_with "subscriptTail Name Name ref int" => (((with_reducible show wpAny _ _ (subscriptTail _ _ (Value.ref _) (Value.int _ _)) _ _ _); k_dflt (refine' ksa_sub ?k1 ?k2 ?k3 ?k4 ?k5 ?k6 ?_ ?k7; (case k1 => k_asm); (case k2 => k_mem); (case k3 => with_reducible assumption); (case k4 => ksa_idx); (case k5 => ksa_idx); (case k6 => ksa_idx); (case k7 => with_unfolding_all rfl); k_whole); intro _))
  k_with "call ref" => (((with_reducible show wpAny _ _ (PySem.call (Value.ref 240) _ _) _ _ _); refine stop_ ?_))
  k_with "compareOp NotEq ref ref" => (refine stop_ ?_)
  k_with "pyIter ref" => (refine stop_ ?_)
  k_with "exec Assign cons ListComp" => (refine stop_ ?_)
  k_with "exec For" => (with_unfolding_all refine wpAny_For ?_)
  k_with "exec For Name Name cons nil" => (with_unfolding_all refine wpAny_For ?_)
  k_with "exec For Name Call cons nil" => (with_unfolding_all refine wpAny_For ?_)
  k_with "CompSrcT" => (refine stop_ ?_)
  k_with "subscriptTail Name Slice ref ref" => (((with_reducible show wpAny _ _ (subscriptTail _ _ (Value.ref _) (Value.ref _)) _ _ _); k_dflt (refine' slice_take (s := ⟨_, _, _, _, _⟩) ?k1 ?k2 ?k3 ?k4 ?k5 ?_ ?k6 ?k7; (case k1 => k_asm); (case k2 => k_asm); (case k3 => k_mem); (case k4 => assumption); (case k5 => omega); (case k6 => with_unfolding_all rfl); (case k7 => intro _; with_unfolding_all rfl)); intro D'ₓ h'ₓ F'ₓ N'ₓ l1ₓ; (try k_lt l1ₓ)))
  k_with "call builtin:len" => (refine stop_ ?_)
  trivial
theorem agr_tail {L' : Addr} {g : Heap} {mm : Str → Option Value} {Qf : Flow → Shared → Prop} {Ef : Value → Shared → Prop} {mD kD sD tD eD vD : Addr} {nm nk ns nt ne nv : Nat} {mvs kvs svs tvs uvs xvs : List Value} {ms ks st xs : List Int} {ds es : List Dat} {o1 o2 o3 : Obj} {rest : List (Addr × Obj)} {v2 v3 : Option Value}
   (B : Below (ktrTop dp un gd cn cs L a ccd cl outer) base (envX cn cs L a ccd cl :: outer) g)
   (F : Fr g L' s.heap (fun q => if q = Str.ofString "masks" then some (.ref mD) else if q = Str.ofString "kept" then some (.ref kD) else if q = Str.ofString "values" then some (.ref vD) else if q = Str.ofString "seen" then some (.ref sD) else if q = Str.ofString "due" then some (.ref eD) else mm q)) (X : (K91 w.params).In g) (T : Top p loose mean mg mb g)
   (N : News g L' s.heap ((L' + 1, o1) :: (L' + 2, o2) :: (L' + 3, o3) :: (mD, listOf mvs.toArray nm) :: (kD, listOf kvs.toArray nk) :: (sD, listOf svs.toArray ns) :: (tD, listOf tvs.toArray nt) :: (eD, listOf uvs.toArray ne) :: (vD, listOf xvs.toArray nv) :: rest))
   (hd : dp + 19 < recursionLimit) (hu : un + 240 < cLine) (hk : cs.kind = .function)
   (h1 : o1.data = .cell (some (.ref tD))) (h2 : o2.data = .cell v2) (h3 : o3.data = .cell v3)
   (hmi : IntsAre mvs ms) (hm4 : ms.length = 4) (hki : IntsAre kvs ks) (hk4 : ks.length = 4) (hti : IntsAre tvs st) (ht4 : st.length = 4) (hxi : IntsAre xvs xs) (hx4 : xs.length = 4) (hck : ChkOk ms ks st xs) (hsd : DatAll rest svs ds) (hed : DatAll rest uvs es) (hde : ds = es) (hok : ∀ d ∈ ds, kqdOk 8 d = true)
   (ret : ∀ h' tk' m' nw', Fr g L' h' m' → News g L' h' nw' → (∀ q ∈ rest, q.1 ≠ L' + 2 → q.1 ≠ L' + 3 → q ∈ nw') → Qf (.ret (.bool true)) { s with heap := h', toks := tk' }) :
   wpAny (Mo w) ((ktrTop dp un gd cn cs L a ccd cl outer).deeper (envOfC (Str.ofString "_law_agrees") S85 L' 245 (.ref 244))) (execs TL85 (envOfC (Str.ofString "_law_agrees") S85 L' 245 (.ref 244))) Qf Ef s := by
  have hS : St s.gens s.drawn s.os := trivial
  obtain ⟨hc1, hc2, hc3⟩ := hck
  have htl : tvs.length ≤ 1000 := by rw [hti.length, ht4]; decide
  replace hsd := hide hsd
  replace hed := hide hed
  k_steps
  refine go_ ?_
  with_reducible rename Fr _ _ _ _ => F9
  with_reducible rename News _ _ _ _ => N9
  refine dat_same N9 (by k_mem) hsd.out (fun q hq => .tail _ (.tail _ (.tail _ (.tail _ (.tail _ (.tail _ (.tail _ (.tail _ (.tail _ hq))))))))) (by k_mem) hed.out hok hde (by ktr_units) ?_
  k_steps
  refine go_ ?_
  refine LCg.ListComp_U (F₀ := F9) (by with_unfolding_all rfl) (by decide) (by rfl) (by decide) (by rfl) ?_
  k_steps
  refine go_ ?_
  refine fixL_list (fun j y => ∃ t k, ms[j]? = some k ∧ y = Value.int (k.fdiv 65536) t) (by rfl) F9 N9 (by rw [List.size_toArray, hmi.length, hm4]; decide) (by k_mem) ?H1 ?fin1
  case H1 =>
    intro gg i2 v2 I2 oI2 C2 oC2 D2 m2 hh2 tk2 ys2 E2 hi2 hv2 hC2 hx2 F3 N3 off2 ne2
    obtain ⟨k, t, hk, rfl⟩ := ints_at hmi (by simpa using hv2)
    clear F9 N9
    k_steps
    exact postE (by assumption) (by assumption) ⟨_, k, hk, rfl⟩
  case fin1 =>
    intro gg ys hyl hy
    have hi5 := ints_of_list (l := ms) (f := fun k => k.fdiv 65536) (by rw [hyl, List.size_toArray, hmi.length]) hy
    clear hyl hy
    k_steps
    refine go_ ?_
    with_reducible rename News _ _ _ _ => N8
    refine ne_same ⟨_, (N8 _ (.tail _ (.head _))).1, rfl, _, rfl⟩ hi5 ⟨_, (N8 _ (.head _)).1, rfl, _, rfl⟩ (.cons _ _ (.cons _ _ (.cons _ _ (.cons _ _ .nil)))) (by ktr_units) hc1 ?_
    k_steps
    refine go_ ?_
    with_reducible rename Fr _ _ _ _ => F7
    with_reducible rename News _ _ _ _ => N7
    refine Assign_ListComp_C (F₀ := F7) (by rfl) (by with_unfolding_all rfl) (by with_unfolding_all rfl) (fun _ => rfl) (fun _ => rfl) rfl (by decide) (by with_unfolding_all rfl) (by rfl) (by rfl) ?_
    k_steps
    refine go_ ?_
    with_reducible rename Fr _ _ _ _ => F6
    with_reducible rename News _ _ _ _ => N6
    refine compC_list (RowJ _ (L' + 3) (ranksOf st)) (by rfl) F6 N6 ?hsz ⟨fun q hq => hq, fun q hq => .inl hq, rfl, fun j v h => by cases h⟩ (fun i ys nw h => h.1 _ (.head _)) ?turnR ?finR
    case hsz => exact (by decide : 4 ≤ sizeLine)
    case turnR =>
      refine row_turn (ob := o3) (row := fun i => rankRow st (i + 1)) (by k_mem) (ranks_at st) (fun i => rank_len _ _) ?_
      intro i v I oI C oC c oc D m₂ h tk ys nw E' hi hv hsub hC hc F1 N1 off ne
      obtain ⟨t, rfl⟩ := pval hv
      have hin : (tD, listOf tvs.toArray nt) ∈ nw := hsub _ (by k_mem)
      have hcn : (L' + 1, o1) ∈ nw := hsub _ (by k_mem)
      clear hsub
      k_steps
      refine go_ ?_
      refine ListComp_C (F₀ := F1) (by with_unfolding_all rfl) (fun _ => rfl) (fun _ => rfl) rfl (by decide) (by with_unfolding_all rfl) ?_
      k_steps
      refine go_ ?_
      with_reducible rename Fr _ _ _ _ => F2
      with_reducible rename News _ _ _ _ => N2
      refine fixC_range (n := 5) (fun j y => ∃ t, y = Value.int (rankVal st (i + 1) j) t) (by rfl) F2 N2 (by assumption) (by decide) (by rfl) (by decide) ?H2 ?fin2
      case H2 =>
        intro j v2 I2 oI2 C2 oC2 c2 oc2 D2 m2 hh2 tk2 ys2 E2 hj hv2 hC2 hc2' F3 N3 off2 ne2
        obtain ⟨t2, rfl⟩ := hv2
        clear F2 N2
        k_steps
        refine go_ ?_
        refine LCt.ListComp_T (F₀ := F3) (by with_unfolding_all rfl) (by decide) (by rfl) (by decide) (by rfl) ?_
        k_steps
        refine go_ ?_
        with_reducible rename Fr _ _ _ _ => F5
        with_reducible rename News _ _ _ _ => N5
        have hi6 := ints_take hti ((i : Int) + 1).toNat
        refine fixT_list (fun w => decide (4 - (0 + (j : Int)) ≤ w)) hi6 (by rfl) F5 N5 (by rw [List.size_toArray, List.length_take]; exact Nat.le_trans (Nat.min_le_right _ _) (Nat.le_trans htl (by decide))) (by k_mem) ?HT ?finT
        case HT =>
          intro gg k t I7 oI7 C7 oC7 D7 m7 h7 tk7 ys7 E7 hk7 hC7 hx7 F7 N7 off7 ne7
          clear F5 N5
          k_steps
          · exact postE (by assumption) (by assumption) ⟨decide_eq_true (by assumption), _, rfl⟩
          · exact postE (by assumption) (by assumption) (decide_eq_false (by assumption))
        case finT =>
          intro gg ys hys
          have hlen := hys.length
          clear F5 N5
          k_steps
          refine go_ ?_
          with_reducible rename News _ _ _ _ => N7
          have hle : ((st.take ((i : Int) + 1).toNat).filter (fun w => decide (4 - (0 + (j : Int)) ≤ w))).length ≤ 4 := Nat.le_trans (List.length_filter_le _ _) (by rw [List.length_take, ht4]; exact Nat.min_le_right _ _)
          have hval : ((ys.toArray.size : Nat) : Int) - (0 + (j : Int)) = rankVal st (i + 1) j := by
            unfold rankVal
            rw [List.size_toArray, hlen, show ((i : Int) + 1).toNat = i + 1 by omega, Int.zero_add]
          refine PyProof.Rows.len_list (items := ys.toArray) ⟨_, (N7 _ (.head _)).1, rfl, _, rfl⟩ (by rw [List.size_toArray, hlen]; omega) ?_
          k_steps
          exact postE (by assumption) (fun q hq => N7 q (.tail _ (.tail _ hq))) ⟨_, congrArg (fun z => Value.int z _) hval⟩
      case fin2 =>
        intro D4 h4 tk4 ys4 F4 N4 lt4 hl4 hy4
        have hi4 := ints_of hl4 hy4
        exact postR F4 N4 lt4 hi4
    case finR =>
      intro D h tk ys nw F1 N1 offD lt hJ
      have hall := hJ.1
      have hnw : ∀ q ∈ nw, q ∈ (D, LCg.lst ys) :: nw := fun q hq => .tail _ hq
      refine agr_loops (mm := fun q => if q = Str.ofString "seen" then some (.ref sD) else if q = Str.ofString "due" then some (.ref eD) else mm q) (st := st) (nw := (D, LCg.lst ys) :: nw) (rvs := ys) B F1 X T N1 (hnw _ (hall _ (by k_mem))) (hnw _ (hall _ (by k_mem))) h2 h3 hd hu hk (hnw _ (hall _ (by k_mem))) (hnw _ (hall _ (by k_mem))) (hnw _ (hall _ (by k_mem))) (.head _) (rows_mono hnw hJ.2.2) hmi hm4 hki hk4 hxi hx4 ⟨hc1, hc2, hc3⟩ ?_
      intro h' tk' m' F' N'
      exact ret h' tk' m' _ F' N' fun q hq n2 n3 => sub_mem (sub_mem (hnw _ (hall _ (by k_mem))) n2) n3
end
end
section
open PySem PySem.W PyProof.Rows PySem.Spec PySem.Calls
theorem kw_Cag2_0 : True := by
  k_with_none
  k_with "my enter" => ((refine' code_def ?k1 ?k2 ?k3 ?k4 ?k5 ?kA ?kF ?kK ?k6 ?k7 ?k8 ?k9 ?kB ?_ ?c2 ?c3 ?c4 ?c5; (case kA => exact rfl); (case kF => exact rfl); (case kK => first | exact rfl | assumption); (case k1 => k_asm); (case k2 => k_asm); (case k3 => k_asm); (case k4 => k_asm); (case k5 => k_asm); (case k6 => k_is); (case k7 => k_is); (case k8 => ktr_room); (case k9 => exact BindsTo.of_eq rfl); (case c5 => decide); (case kB => exact locs rfl); (case c2 => exact rfl); (case c3 => exact rfl); (case c4 => exact rfl); k_whole; intro g'ₓ L'ₓ h'ₓ FG'ₓ F'ₓ N'ₓ B'ₓ X'ₓ T'ₓ; (try dsimp only); (try k_lift B'ₓ); (try k_fold)))
  k_with "my enterC" => ((refine' code_defC ?k1 ?k2 ?k3 ?k4 ?k5 ?kA ?kF ?kK ?k6 ?k7 ?k8 ?k9 ?kB ?kD ?_ ?c2 ?c3 ?c4; (case kA => exact rfl); (case kF => exact rfl); (case kK => first | exact rfl | assumption); (case k1 => k_asm); (case k2 => k_asm); (case k3 => k_asm); (case k4 => k_asm); (case k5 => k_asm); (case k6 => k_is); (case k7 => k_is); (case k8 => ktr_room); (case k9 => exact BindsTo.of_eq rfl); (case kB => exact rfl); (case kD => decide +kernel); (case c2 => exact rfl); (case c3 => exact rfl); (case c4 => exact rfl); k_whole; intro g'ₓ L'ₓ h'ₓ tk'ₓ cells'ₓ FG'ₓ F'ₓ N'ₓ Y'ₓ B'ₓ X'ₓ T'ₓ l1ₓ; (try k_lt l1ₓ); k_cells Y'ₓ; (try simp only [List.cons_append, List.nil_append] at N'ₓ); (try dsimp only); (try k_lift B'ₓ); (try k_fold)))
  k_with "call ref" => ((k_here; (with_reducible show wpAny _ _ (PySem.call (Value.ref _) _ _) _ _ _); (refine wpAny_call ?_); k_dflt (walk_at "my enter")))
  k_with "my asm" => (((case k1 => k_asm); (case k2 => k_asm); (case k3 => k_asm); (case k4 => k_asm); (case k5 => k_asm); (case kK => first | exact rfl | assumption); (case kd => ktr_room); (case ku => ktr_units)))
  k_with "execs cons" => (refine wpAny_execs_cons ?_)
  k_with "execs nil" => (refine wpAny_execs_nil ?_)
  k_with "execs cons" => ((refine gen_toks (X := _ + 1 + 1 + 1 + 1) ?_; intro tkₓ htkₓ; (try dsimp only at htkₓ)))
  k_with "execs nil" => ((refine gen_toks (X := _ + 1 + 1 + 1 + 1) ?_; intro tkₓ htkₓ; (try dsimp only at htkₓ)))
  k_with "execs cons" => ((refine' gen_norm ?kS ?kF ?kE ?_; (case kS => with_reducible assumption); (case kF => with_reducible assumption); (case kE => exact rfl); intro tkₓ htkₓ; (try dsimp only at htkₓ)))
  k_with "execs nil" => ((refine' gen_norm ?kS ?kF ?kE ?_; (case kS => with_reducible assumption); (case kF => with_reducible assumption); (case kE => exact rfl); intro tkₓ htkₓ; (try dsimp only at htkₓ)))
  k_with "exec If" => (refine wpAny_If ?_)
  k_with "call type:str" => (refine P.str_of_bool ?_)
  k_with "callWith" => (first
    | ((try dsimp only); (with_reducible show wpAny _ _ (callWith _ (Value.builtin _) _ _ _) _ _ _); refine callWith_method1 ?_)
    | ((try dsimp only); (with_reducible show wpAny _ _ (callWith _ (Value.type _) _ _ _) _ _ _); refine callWith_type1 ?_))
  trivial
variable {w : World} {p : Program} {loose : List Str} {mean : ExcName → Option Value} {mg mb : Str → Option Value} {dp un : Nat} {gd : Option (List Code)} {cn : Str} {cs : Scope} {a : Addr} {ccd : Value} {cl : List (Str × Addr)} {outer : List Env} {A₀ : Around} {base h₀ : Heap} {L : Addr} {m : Str → Option Value} {s : Shared} {Q E : Value → Shared → Prop} {news : List (Addr × Obj)}
theorem filled_Cag2 : (K91 = K91) ∧ (PySem.Challenge.rw_wn0091_01.most = some 63) := by
  k_fill
  exact ⟨rfl, rfl⟩


mutual
theorem datIn_imp {l l' : List (Addr × Obj)} (hs : ∀ p ∈ l, (∀ v, p.2.data ≠ .cell v) → p ∈ l') : ∀ {v : Value} {d : Dat}, DatIn l v d → DatIn l' v d
  | _, _, .none => .none
  | _, _, .bool b => .bool b
  | _, _, .int i t => .int i t
  | _, _, .str x t => .str x t
  | _, _, .bytes b t => .bytes b t
  | _, _, .tuple h r => .tuple (hs _ h fun v e => by cases e) (datAll_imp hs r)
  | _, _, .list h r => .list (hs _ h fun v e => by cases e) (datAll_imp hs r)
theorem datAll_imp {l l' : List (Addr × Obj)} (hs : ∀ p ∈ l, (∀ v, p.2.data ≠ .cell v) → p ∈ l') : ∀ {vs : List Value} {ds : List Dat}, DatAll l vs ds → DatAll l' vs ds
  | _, _, .nil => .nil
  | _, _, .cons h r => .cons (datIn_imp hs h) (datAll_imp hs r)
end
theorem same_addr {g h : Heap} {L c : Addr} {nw : List (Addr × Obj)} {oc : Obj} {v : Option Value} {p : Addr × Obj} (N : News g L h nw) (hc : (c, oc) ∈ nw) (hd : oc.data = .cell v) (hp : p ∈ nw) (hn : ∀ v, p.2.data ≠ .cell v) : p.1 ≠ c := by
  intro e
  have e1 := (N _ hc).1
  have e2 := (N _ hp).1
  rw [e, e1] at e2
  exact hn v ((Option.some.inj e2) ▸ hd)
theorem map5d {f : Str → Option Value} {a b c d e : Str} {x y z u v : Option Value} (ha : f a = x) (hb : f b = y) (hc : f c = z) (hd : f d = u) (he : f e = v) : f = fun q => if q = a then x else if q = b then y else if q = c then z else if q = d then u else if q = e then v else f q := by
  funext q
  by_cases h1 : q = a
  · subst h1; simp [ha]
  by_cases h2 : q = b
  · subst h2; simp [h1, hb]
  by_cases h3 : q = c
  · subst h3; simp [h1, h2, hc]
  by_cases h4 : q = d
  · subst h4; simp [h1, h2, h3, hd]
  by_cases h5 : q = e
  · subst h5; simp [h1, h2, h3, h4, he]
  simp [h1, h2, h3, h4, h5]
theorem news_mk {g h : Heap} {L : Addr} {big l : List (Addr × Obj)} {p : Addr × Obj} (N : News g L h big) (hp : p ∈ big) (M : News g L h l) : News g L h (p :: l) := fun q hq => (List.mem_cons.mp hq).elim (fun e => e ▸ N p hp) fun hq => M q hq
theorem mem4 {α : Type} {a b c d x : α} {l : List α} (h : x ∈ l) : x ∈ a :: b :: c :: d :: l := .tail _ (.tail _ (.tail _ (.tail _ h)))
theorem fr_map {g h : Heap} {L : Addr} {f f' : Str → Option Value} (F : Fr g L h f) (e : f = f') : Fr g L h f' := e ▸ F
noncomputable def AgreeOk (evs : List Ev) (xs : List Int) : Prop :=
  (runR evs ([43690, 52428, 61680, 65280], xs, [])).2.2 = (runD evs ([3, 2, 1, 0], [])).2 ∧ (∀ d ∈ (runR evs ([43690, 52428, 61680, 65280], xs, [])).2.2, kqdOk 8 d = true) ∧
  ChkOk (runR evs ([43690, 52428, 61680, 65280], xs, [])).1 (runR evs ([43690, 52428, 61680, 65280], xs, [])).2.1 (runD evs ([3, 2, 1, 0], [])).1 xs
section
theorem kw_Cag2_1 : True := by
  k_with "call builtin:max" => (refine stop_ ?_)
  k_with "my args" => (((case k1 => k_asm); (case k2 => k_asm); (case k3 => k_asm); (case k4 => k_asm); (case kK => k_asm); (case k5 => exact rfl); (case kd => ktr_room); (case ku => ktr_units)))
  k_with "eval ListComp" => (refine stop_ ?_)
  k_with "CompC" => (refine stop_ ?_)
  k_with "CompSrc" => (refine stop_ ?_)
  k_with "CompEnd" => (refine stop_ ?_)
  k_with "CellEnd" => (refine stop_ ?_)
  k_with "call ref" => (((with_reducible show wpAny _ _ (PySem.call (Value.ref 235) _ _) _ _ _); k_dflt ((refine' sum_ok ?k1 ?k2 ?kK ?k3 ?k4 ?k5 ?kd ?ku ?hm ?hi ?hl ?_; walk_at "my args"; (case hm => k_mem); (case hi => assumption); (case hl => omega)); intro D'ₓ svs'ₓ k'ₓ h'ₓ tk'ₓ hi'ₓ hn'ₓ F'ₓ N'ₓ l1ₓ; (try k_lt l1ₓ))))
  k_with "subscriptTail" => (((with_reducible show wpAny _ _ (subscriptTail _ _ (Value.ref _) (Value.int _ _)) _ _ _); k_dflt (refine' ksa_sub ?k1 ?k2 ?k3 ?k4 ?k5 ?k6 ?_ ?k7; (case k1 => k_asm); (case k2 => k_mem); (case k3 => with_reducible assumption); (case k4 => ksa_idx); (case k5 => ksa_idx); (case k6 => ksa_idx); (case k7 => with_unfolding_all rfl); k_whole); intro _))
  k_with "subscriptTail Name" => (((with_reducible show wpAny _ _ (subscriptTail _ _ (Value.ref _) (Value.int _ _)) _ _ _); k_dflt (refine' ksa_sub ?k1 ?k2 ?k3 ?k4 ?k5 ?k6 ?_ ?k7; (case k1 => k_asm); (case k2 => k_mem); (case k3 => with_reducible assumption); (case k4 => ksa_idx); (case k5 => ksa_idx); (case k6 => ksa_idx); (case k7 => with_unfolding_all rfl); k_whole); intro _))
  k_with "subscriptTail Name Name ref int" => (((with_reducible show wpAny _ _ (subscriptTail _ _ (Value.ref _) (Value.int _ _)) _ _ _); k_dflt (refine' ksa_sub ?k1 ?k2 ?k3 ?k4 ?k5 ?k6 ?_ ?k7; (case k1 => k_asm); (case k2 => k_mem); (case k3 => with_reducible assumption); (case k4 => ksa_idx); (case k5 => ksa_idx); (case k6 => ksa_idx); (case k7 => with_unfolding_all rfl); k_whole); intro _))
  k_with "call ref" => (((with_reducible show wpAny _ _ (PySem.call (Value.ref 240) _ _) _ _ _); refine stop_ ?_))
  k_with "compareOp NotEq ref ref" => (refine stop_ ?_)
  k_with "pyIter ref" => (refine stop_ ?_)
  k_with "exec Assign cons ListComp" => (refine stop_ ?_)
  k_with "exec For" => (with_unfolding_all refine wpAny_For ?_)
  k_with "exec For Name Name cons nil" => (with_unfolding_all refine wpAny_For ?_)
  k_with "exec For Name Call cons nil" => (with_unfolding_all refine wpAny_For ?_)
  k_with "CompSrcT" => (refine stop_ ?_)
  k_with "subscriptTail Name Slice ref ref" => (((with_reducible show wpAny _ _ (subscriptTail _ _ (Value.ref _) (Value.ref _)) _ _ _); k_dflt (refine' slice_take (s := ⟨_, _, _, _, _⟩) ?k1 ?k2 ?k3 ?k4 ?k5 ?_ ?k6 ?k7; (case k1 => k_asm); (case k2 => k_asm); (case k3 => k_mem); (case k4 => assumption); (case k5 => omega); (case k6 => with_unfolding_all rfl); (case k7 => intro _; with_unfolding_all rfl)); intro D'ₓ h'ₓ F'ₓ N'ₓ l1ₓ; (try k_lt l1ₓ)))
  k_with "call builtin:len" => (refine stop_ ?_)
  k_with "call ref" => (((with_reducible show wpAny _ _ (PySem.call (Value.ref 221) _ _) _ _ _); refine stop_ ?_))
  k_with "call ref" => (((with_reducible show wpAny _ _ (PySem.call (Value.ref 228) _ _) _ _ _); refine stop_ ?_))
  k_with "execs cons" => (((with_reducible show wpAny _ _ (execs (Stmt.If _ _ _ _ :: _) _) _ _ _); refine stop_ ?_))
  trivial
theorem agr_ok {x : Str} {tx : Tok} {dD : Addr} {nd : Nat} {dvs : List Value} {dns : List Int} {times : Int} {tt : Tok} {rows : List Str} {last : Str} {evs : List Ev} (B : Below A₀ base outer h₀) (F : Fr h₀ L s.heap m) (X : (K91 w.params).In h₀) (N : News h₀ L s.heap news) (T : Top p loose mean mg mb h₀) (D : KtsDicts (fsOf outer) h₀) (XB : (K91 w.params).In base) (TB : Top p loose mean mg mb base) (hk : cs.kind = .function) (hd : dp + 30 < recursionLimit) (hu : un + 300 < cLine)
   (hdm : (dD, listOf dvs.toArray nd) ∈ news) (hdi : IntsAre dvs dns) (hd6 : dns.length = 6) (hti : 0 ≤ times ∧ times ≤ 2)
   (hx : x.length + 2 ≤ sizeLine) (hs : Txt.split x (Str.ofString "\r\n") = rows ++ [last]) (hrl : rows.length = 6) (he : evs.length = 6) (hr : ∀ (i : Nat) (y : Str) (ev : Ev), rows[i]? = some y → evs[i]? = some ev → RowOk y ev) (hdu : ∀ (i : Nat) (v : Int) (ev : Ev), dns[i]? = some v → evs[i]? = some ev → DueOk v times ev)
   (hag : AgreeOk evs (dns.take 4))
   (ret : ∀ h₁ h' tk' nw', KtsTurn (fsOf outer) h₀ h₁ → Below A₀ base outer h₁ → KtsDicts (fsOf outer) h₁ → Fr h₁ L h' m → News h₁ L h' nw' → (∀ q ∈ news, q ∈ nw') → Q (.bool true) { s with heap := h', toks := tk' }) :
   wpAny (Mo w) (ktrTop dp un gd cn cs L a ccd cl outer) (call (.ref 245) [.str x tx, .ref dD, .int times tt] []) Q E s := by
  have hS : St s.gens s.drawn s.os := trivial
  refine wpAny_call (code_SC (env := envX cn cs L a ccd cl) (K := K91 w.params) (binds := [(Str.ofString "text", .str x tx), (Str.ofString "drawn", .ref dD), (Str.ofString "times", .int times tt)]) B F X N T D rfl rfl hk (by k_is) (by k_is) (by ktr_room) (BindsTo.of_eq rfl) rfl (by decide +kernel) (fun g' L' h' tk' cells' FG F' N' Y' B' X' T' D' l1 => ?_) rfl rfl rfl)
  k_cells Y'
  simp only [List.cons_append, List.nil_append] at N'
  dsimp only

  try k_fold
  have hdl : dvs.length ≤ 1000 := by rw [hdi.length, hd6]; decide
  k_steps
  refine go_ ?_
  with_reducible rename Fr _ _ _ _ => F9
  with_reducible rename News _ _ _ _ => N9
  refine' run_ok (evs := evs) (xs := dns.take 4) ?B F9 ?X N9 ?T ?D XB TB rfl ?kd ?ku (ints_take hdi 4) ?h4 hx hs ?hrl ?he hr ?_
  case B => assumption
  case X => assumption
  case T => assumption
  case D => assumption
  case kd => ktr_room
  case ku => ktr_units
  case h4 => rw [List.length_take, hd6]; rfl
  case hrl => omega
  case he => omega
  intro h₁ D mD kD sD nm nk ns mvs kvs vs ms ks ds rest h' tk' hrun hmi hm4 hki hk4 hds hvl hsub T₁ B₁ D₁ F₁ N₁ far
  have X₁ : (K91 w.params).In h₁ := XB.keeps B₁.stays
  have TT₁ : Top p loose mean mg mb h₁ := TB.keeps B₁.stays
  have hdr : (dD, listOf dvs.toArray nd) ∈ rest := hsub _ (.tail _ (.tail _ (.tail _ (.tail _ hdm))))
  replace far := hide far
  replace hsub := hide hsub
  clear F9 N9
  k_steps
  refine go_ ?_
  with_reducible rename Fr _ _ _ _ => F9
  with_reducible rename News _ _ _ _ => N9
  refine' due_ok (evs := evs) (times := times) ?B F9 X₁ N9 TT₁ rfl ?kd ?ku ?hdm hdi hti ?he ?hrl hdu ?_
  case B => assumption
  case kd => ktr_room
  case ku => ktr_units
  case hdm => k_mem
  case hrl => omega
  case he => omega
  intro D2 tD eD nt ne tvs uvs es rest2 st h2 tk2 hrunD hti4 hst4 hes hul hsub2 F₂ N₂ far2
  have hcd3 := hsub.out _ (.tail _ (.head _))
  have hcd2 := hsub.out _ (.tail _ (.tail _ (.head _)))
  have hcd1 := hsub.out _ (.tail _ (.tail _ (.tail _ (.head _))))
  have hvd := hsub.out _ (.head _)
  have up : ∀ q ∈ rest, q ∈ rest2 := fun q hq => hsub2 q (.tail _ (.tail _ (.tail _ (.tail _ hq))))
  have jc1 := up _ hcd1
  have all2 : ∀ q ∈ rest2, q ∈ (D2, ({ cls := .type "tuple", data := .seq #[.ref tD, .ref eD] } : Obj)) :: (tD, listOf tvs.toArray nt) :: (eD, listOf uvs.toArray ne) :: rest2 := fun q hq => .tail _ (.tail _ (.tail _ hq))
  have nee : ∀ q ∈ (D2, ({ cls := .type "tuple", data := .seq #[.ref tD, .ref eD] } : Obj)) :: (tD, listOf tvs.toArray nt) :: (eD, listOf uvs.toArray ne) :: rest2, (∀ v, q.2.data ≠ .cell v) → q.1 ≠ L' + 1 := fun q hq hn => same_addr N₂ (all2 _ jc1) (by assumption) hq hn
  have e1 : @Ne Nat D2 (L' + 1) := nee _ (.head _) (fun v e => by cases e)
  have e2 : @Ne Nat tD (L' + 1) := nee _ (.tail _ (.head _)) (fun v e => by cases e)
  have e3 : @Ne Nat eD (L' + 1) := nee _ (.tail _ (.tail _ (.head _))) (fun v e => by cases e)
  have jm : (mD, listOf mvs.toArray nm) ∈ sub (L' + 1) rest2 := sub_mem (hsub2 _ (.tail _ (.head _))) (nee _ (all2 _ (hsub2 _ (.tail _ (.head _)))) (fun v e => by cases e))
  have jk : (kD, listOf kvs.toArray nk) ∈ sub (L' + 1) rest2 := sub_mem (hsub2 _ (.tail _ (.tail _ (.head _)))) (nee _ (all2 _ (hsub2 _ (.tail _ (.tail _ (.head _))))) (fun v e => by cases e))
  have js : (sD, listOf vs.toArray ns) ∈ sub (L' + 1) rest2 := sub_mem (hsub2 _ (.tail _ (.tail _ (.tail _ (.head _))))) (nee _ (all2 _ (hsub2 _ (.tail _ (.tail _ (.tail _ (.head _)))))) (fun v e => by cases e))
  have jv := sub_mem (c := L' + 1) (up _ hvd) (nee _ (all2 _ (up _ hvd)) (fun v e => by cases e))
  have j2 := sub_mem (c := L' + 1) (up _ hcd2) (Nat.succ_ne_self _)
  have j3 := sub_mem (c := L' + 1) (up _ hcd3) (Nat.ne_of_gt (Nat.lt_succ_of_lt (Nat.lt_succ_self _)))
  have hsd : DatAll (sub (L' + 1) rest2) vs ds := datAll_imp (fun p hp hn => sub_mem (up p hp) (nee _ (all2 _ (up p hp)) hn)) hds
  have hed : DatAll (sub (L' + 1) rest2) uvs es := datAll_imp (fun p hp hn => sub_mem hp (nee _ (all2 _ hp) hn)) hes
  have hold : ∀ q ∈ news, q ∈ sub (L' + 1) rest2 := fun q hq => sub_mem (up _ (hsub.out _ (.tail _ (.tail _ (.tail _ (.tail _ hq)))))) (Nat.ne_of_lt (Nat.lt_succ_of_lt (l1 q hq)))
  have N3 := N₂
  replace N3 : News h₁ L' h2 (_ :: (D2, ({ cls := .type "tuple", data := .seq #[.ref tD, .ref eD] } : Obj)) :: (tD, listOf tvs.toArray nt) :: (eD, listOf uvs.toArray ne) :: sub (L' + 1) rest2) := fun p hp => by
    rcases List.mem_cons.mp hp with rfl | hp
    · exact N₂ _ (all2 _ jc1)
    rcases List.mem_cons.mp hp with rfl | hp
    · exact N₂ _ (.head _)
    rcases List.mem_cons.mp hp with rfl | hp
    · exact N₂ _ (.tail _ (.head _))
    rcases List.mem_cons.mp hp with rfl | hp
    · exact N₂ _ (.tail _ (.tail _ (.head _)))
    · exact N₂ _ (all2 _ (mem_sub hp).1)
  have hs1 : ∀ q ∈ sub (L' + 1) rest2, q.1 ≠ L' + 1 := fun q hq => (mem_sub hq).2
  unfold AgreeOk at hag
  rw [hrun, hrunD] at hag
  obtain ⟨hg1, hg2, hg3⟩ := hag
  clear N₂ N9 F9 nee
  k_steps
  refine go_ ?_
  with_reducible rename Fr _ _ _ _ => F4
  with_reducible rename News _ _ _ _ => N4
  have F5 := fr_map F4 (map5d (a := Str.ofString "masks") (b := Str.ofString "kept") (c := Str.ofString "values") (d := Str.ofString "seen") (e := Str.ofString "due") (x := some (.ref mD)) (y := some (.ref kD)) (u := some (.ref sD)) (v := some (.ref eD)) rfl rfl rfl rfl rfl)
  refine agr_tail (st := st) (ms := ms) (ks := ks) (xs := dns.take 4) (rest := sub (L' + 1) rest2) B₁ F5 X₁ TT₁ (news_mk N4 (.head _) (news_mk N4 (mem4 j2) (news_mk N4 (mem4 j3) (news_mk N4 (mem4 jm) (news_mk N4 (mem4 jk) (news_mk N4 (mem4 js) (news_mk N4 (.tail _ (.tail _ (.head _))) (news_mk N4 (.tail _ (.tail _ (.tail _ (.head _)))) (news_mk N4 (mem4 jv) (fun p hp => N4 p (mem4 hp))))))))))) ?kd ?ku hk (by assumption) (by assumption) (by assumption) hmi hm4 hki hk4 hti4 hst4 (ints_take hdi 4) ?h4 hg3 hsd hed hg1 hg2 ?ret
  case kd => omega
  case ku => omega
  case h4 => rw [List.length_take, hd6]; rfl
  case ret =>
    intro h' tk' m' nw' F N hs'
    exact ⟨h₁, L', _, nw', T₁, F, N, fun h₂ T₂ F₂ N₂ B₂ D₂ => ret h₂ _ _ nw' T₂ B₂ D₂ F₂ N₂ fun q hq => hs' q (hold q hq) (Nat.ne_of_lt (Nat.lt_succ_of_lt (Nat.lt_succ_of_lt (l1 q hq)))) (Nat.ne_of_lt (Nat.lt_succ_of_lt (Nat.lt_succ_of_lt (Nat.lt_succ_of_lt (l1 q hq)))))⟩
end
end
section
open PySem PySem.W PyProof.Rows PySem.Spec PySem.Calls
/-! the comparing, by noughts and ones: 24 pairs of masks and one row led through them -/
noncomputable def Sts24 : List (List Int × List Int) := [([43690, 52428, 61680, 65280], [3, 2, 1, 0]), ([34952, 61166, 61680, 65280], [2, 3, 1, 0]), ([43690, 49344, 64764, 65280], [3, 1, 2, 0]), ([43690, 52428, 61440, 65520], [3, 2, 0, 1]), ([34952, 57568, 65278, 65280], [2, 1, 3, 0]), ([34952, 61166, 61440, 65520], [2, 3, 0, 1]), ([32896, 60138, 64764, 65280], [1, 3, 2, 0]), ([43690, 49344, 64512, 65532], [3, 1, 0, 2]), ([43690, 49152, 64716, 65520], [3, 0, 2, 1]), ([32896, 59624, 65278, 65280], [1, 2, 3, 0]), ([34952, 57568, 65024, 65534], [2, 1, 0, 3]), ([34952, 57344, 65262, 65520], [2, 0, 3, 1]), ([32896, 60138, 64512, 65532], [1, 3, 0, 2]), ([43690, 49152, 64704, 65532], [3, 0, 1, 2]), ([32768, 60074, 64716, 65520], [0, 3, 2, 1]), ([32896, 59624, 65024, 65534], [1, 2, 0, 3]), ([34952, 57344, 65248, 65534], [2, 0, 1, 3]), ([32768, 59528, 65262, 65520], [0, 2, 3, 1]), ([32896, 59392, 65258, 65532], [1, 0, 3, 2]), ([32768, 60074, 64704, 65532], [0, 3, 1, 2]), ([32896, 59392, 65256, 65534], [1, 0, 2, 3]), ([32768, 59528, 65248, 65534], [0, 2, 1, 3]), ([32768, 59520, 65258, 65532], [0, 1, 3, 2]), ([32768, 59520, 65256, 65534], [0, 1, 2, 3])]
noncomputable def toldP (p : Nat) (ms : List Int) : List Int := ms.map fun k => (k.fdiv (2 ^ p)).fmod 2
noncomputable def startP (p : Nat) : List Int := (List.range 4).map fun q => ((p : Int).fdiv (2 ^ q)).fmod 2
noncomputable def stepB (num : Int) (q : Nat) (s : List Int × List Int) : Bool :=
  Sts24.elem (pairM num s.1 q, swapK s.2 q) && (decide (s.1 ≠ pairM num s.1 q) == decide (s.2.getD (q + 1) 0 < s.2.getD q 0)) && (List.range 16).all fun p => toldP p (pairM num s.1 q) == swapK (toldP p s.1) q
theorem step19 : ∀ q, q < 3 → Sts24.all (stepB 19 q) = true := by decide +kernel
theorem step18 : ∀ q, q < 3 → Sts24.all (stepB 18 q) = true := by decide +kernel
theorem step15 : ∀ q, q < 3 → Sts24.all (stepB 15 q) = true := by decide +kernel
noncomputable def endB (s : List Int × List Int) : Bool :=
  (s.1.map (fun k => k.fdiv 65536) == [0, 0, 0, 0]) && (List.range 16).all fun p => sumsA 0 (toldP p s.1) == (ranksOf s.2).map (headF ([0] ++ sumsA 0 (startP p)))
theorem end24 : Sts24.all endB = true := by decide +kernel
theorem start24 : (List.range 16).all (fun p => toldP p [43690, 52428, 61680, 65280] == startP p) = true := by decide +kernel
end
section
open PySem PySem.W PyProof.Rows PySem.Spec PySem.Calls
noncomputable def EvOk (ev : Ev) : Prop := ∀ num q, ev = .ok num q → (num = 19 ∨ num = 18 ∨ num = 15) ∧ q < 3
theorem step_all {num : Int} {q : Nat} (hn : num = 19 ∨ num = 18 ∨ num = 15) (hq : q < 3) {s : List Int × List Int} (hs : s ∈ Sts24) :
    (pairM num s.1 q, swapK s.2 q) ∈ Sts24 ∧ decide (s.1 ≠ pairM num s.1 q) = decide (s.2.getD (q + 1) 0 < s.2.getD q 0) ∧ ∀ p, p < 16 → toldP p (pairM num s.1 q) = swapK (toldP p s.1) q := by
  have h : stepB num q s = true := by
    rcases hn with rfl | rfl | rfl
    · exact List.all_eq_true.mp (step19 q hq) s hs
    · exact List.all_eq_true.mp (step18 q hq) s hs
    · exact List.all_eq_true.mp (step15 q hq) s hs
  unfold stepB at h
  rw [Bool.and_eq_true, Bool.and_eq_true] at h
  refine ⟨List.elem_iff.mp h.1.1, eq_of_beq h.1.2, fun p hp => eq_of_beq (List.all_eq_true.mp h.2 p (List.mem_range.mpr hp))⟩
theorem list4 {l : List Int} (h : l.length = 4) : ∃ a b c d, l = [a, b, c, d] := by
  match l, h with
  | [a, b, c, d], _ => exact ⟨a, b, c, d, rfl⟩
theorem ge_cases (b x : Int) : (b ≤ x ∧ geB b x = 1) ∨ (x < b ∧ geB b x = 0) := by
  unfold geB
  by_cases h : b ≤ x
  · exact .inl ⟨h, if_pos h⟩
  · exact .inr ⟨by omega, if_neg h⟩
theorem swap_ge {b : Int} {ks : List Int} (h4 : ks.length = 4) {q : Nat} (hq : q < 3) : (swapK ks q).map (geB b) = swapK (ks.map (geB b)) q := by
  obtain ⟨u, v, w, z, rfl⟩ := list4 h4
  have key : ∀ x y : Int, (y < x → geB b y < geB b x ∨ geB b y = geB b x) ∧ (¬ y < x → ¬ geB b y < geB b x) := fun x y => by
    rcases ge_cases b x with ⟨h1, e1⟩ | ⟨h1, e1⟩ <;> rcases ge_cases b y with ⟨h2, e2⟩ | ⟨h2, e2⟩ <;> rw [e1, e2] <;> omega
  match q, hq with
  | 0, _ =>
    show ((if v < u then [v, u, w, z] else [u, v, w, z]).map (geB b)) = if geB b v < geB b u then [geB b v, geB b u, geB b w, geB b z] else [geB b u, geB b v, geB b w, geB b z]
    obtain ⟨k1, k2⟩ := key u v
    by_cases h : v < u
    · rw [if_pos h]
      rcases k1 h with h1 | h1
      · rw [if_pos h1]; rfl
      · rw [h1, if_neg (by omega)]; simp [h1]
    · rw [if_neg h, if_neg (k2 h)]; rfl
  | 1, _ =>
    show ((if w < v then [u, w, v, z] else [u, v, w, z]).map (geB b)) = if geB b w < geB b v then [geB b u, geB b w, geB b v, geB b z] else [geB b u, geB b v, geB b w, geB b z]
    obtain ⟨k1, k2⟩ := key v w
    by_cases h : w < v
    · rw [if_pos h]
      rcases k1 h with h1 | h1
      · rw [if_pos h1]; rfl
      · rw [h1, if_neg (by omega)]; simp [h1]
    · rw [if_neg h, if_neg (k2 h)]; rfl
  | 2, _ =>
    show ((if z < w then [u, v, z, w] else [u, v, w, z]).map (geB b)) = if geB b z < geB b w then [geB b u, geB b v, geB b z, geB b w] else [geB b u, geB b v, geB b w, geB b z]
    obtain ⟨k1, k2⟩ := key w z
    by_cases h : z < w
    · rw [if_pos h]
      rcases k1 h with h1 | h1
      · rw [if_pos h1]; rfl
      · rw [h1, if_neg (by omega)]; simp [h1]
    · rw [if_neg h, if_neg (k2 h)]; rfl
structure InvOk (xs : List Int) (r : Rst) (d : Dst) : Prop where
  mem : (r.1, d.1) ∈ Sts24
  seen : r.2.2 = d.2
  fit : ∀ e ∈ r.2.2, kqdOk 8 e = true
  four : r.2.1.length = 4
  bits : ∀ (b : Int) (p : Nat), p < 16 → xs.map (geB b) = startP p → r.2.1.map (geB b) = toldP p r.1
theorem ok_code : kqdOk 8 (.str (Str.ofString "code")) = true := by decide +kernel
theorem ok_marks : kqdOk 8 (.str (Str.ofString "marks")) = true := by decide +kernel
theorem ok_true : kqdOk 7 (tellB true) = true := by decide +kernel
theorem ok_false : kqdOk 7 (tellB false) = true := by decide +kernel
theorem ok_tell (b : Bool) : kqdOk 7 (tellB b) = true := by cases b; exact ok_false; exact ok_true
theorem ok_row (num : Int) (q : Nat) (b : Bool) : kqdOk 8 (.tuple [.int num, .int q, tellB true, tellB b]) = true := by
  show ([Dat.int num, .int q, tellB true, tellB b].all (kqdOk 7)) = true
  simp only [List.all_cons, List.all_nil, ok_tell, Bool.and_true]
  rfl
theorem inv_step {xs : List Int} {r : Rst} {d : Dst} {ev : Ev} (h : EvOk ev) (I : InvOk xs r d) : InvOk xs (stepR r ev) (stepD d ev) := by
  have push : ∀ x, kqdOk 8 x = true → ∀ e ∈ r.2.2 ++ [x], kqdOk 8 e = true := fun x hx e he => by
    rcases List.mem_append.mp he with he | he
    · exact I.fit e he
    · rw [List.mem_singleton.mp he]; exact hx
  cases ev with
  | code => exact ⟨I.mem, congrArg (· ++ _) I.seen, push _ ok_code, I.four, I.bits⟩
  | marks => exact ⟨I.mem, congrArg (· ++ _) I.seen, push _ ok_marks, I.four, I.bits⟩
  | ok num q =>
    obtain ⟨hn, hq⟩ := h num q rfl
    obtain ⟨a1, a2, a3⟩ := step_all hn hq I.mem
    refine ⟨a1, ?_, push _ (ok_row _ _ _), ?_, fun b p hp hb => ?_⟩
    · show r.2.2 ++ _ = d.2 ++ _
      rw [I.seen]
      refine congrArg (fun t => d.2 ++ [Dat.tuple [.int num, .int q, tellB true, tellB t]]) a2
    · show (swapK r.2.1 q).length = 4
      rw [swap_len]; exact I.four
    · show (swapK r.2.1 q).map (geB b) = toldP p (pairM num r.1 q)
      rw [swap_ge I.four hq, I.bits b p hp hb]
      exact (a3 p hp).symm
theorem inv_run {xs : List Int} : ∀ (evs : List Ev) {r : Rst} {d : Dst}, (∀ ev ∈ evs, EvOk ev) → InvOk xs r d → InvOk xs (runR evs r) (runD evs d)
  | [], r, d, _, I => I
  | ev :: evs, r, d, h, I => inv_run evs (r := stepR r ev) (d := stepD d ev) (fun e he => h e (.tail _ he)) (inv_step (h ev (.head _)) I)
theorem starts (a b c d : Int) (ha : a = 0 ∨ a = 1) (hb : b = 0 ∨ b = 1) (hc : c = 0 ∨ c = 1) (hd : d = 0 ∨ d = 1) : ∃ p, p < 16 ∧ [a, b, c, d] = startP p := by
  refine ⟨(a + 2 * b + 4 * c + 8 * d).toNat, by omega, ?_⟩
  rcases ha with rfl | rfl <;> rcases hb with rfl | rfl <;> rcases hc with rfl | rfl <;> rcases hd with rfl | rfl <;> decide +kernel
theorem start_of {xs : List Int} (h4 : xs.length = 4) (b : Int) : ∃ p, p < 16 ∧ xs.map (geB b) = startP p := by
  obtain ⟨u, v, w, z, rfl⟩ := list4 h4
  have g : ∀ x, geB b x = 0 ∨ geB b x = 1 := fun x => (ge_cases b x).elim (fun h => .inr h.2) fun h => .inl h.2
  exact starts _ _ _ _ (g u) (g v) (g w) (g z)
theorem agree_T {evs : List Ev} {xs : List Int} (h : ∀ ev ∈ evs, EvOk ev) (h4 : xs.length = 4) : AgreeOk evs xs := by
  have I := inv_run (xs := xs) evs (r := ([43690, 52428, 61680, 65280], xs, [])) (d := ([3, 2, 1, 0], [])) h ⟨List.Mem.head _, rfl, (fun e he => by cases he), h4, fun b p hp hb => by
    have := eq_of_beq (List.all_eq_true.mp start24 p (List.mem_range.mpr hp))
    exact hb.trans this.symm⟩
  have hend := List.all_eq_true.mp end24 _ I.mem
  unfold endB at hend
  rw [Bool.and_eq_true] at hend
  have hbits : ∀ p, p < 16 → _ := fun p hp => eq_of_beq (List.all_eq_true.mp hend.2 p (List.mem_range.mpr hp))
  refine ⟨I.seen, I.fit, eq_of_beq hend.1, fun p hp => hbits p hp, fun b hb => ?_⟩
  obtain ⟨p, hp, e⟩ := start_of h4 b
  rw [I.bits b p hp e, e]
  exact hbits p hp
end
section
open PySem PySem.W PyProof.Rows PySem.Spec PySem.Calls
/-! the plain law for the text that the law reads -/
noncomputable def lineOf (i : Nat) (v : Int) : List Nat := rowL (if dotsN v = 0 then 0 else dotsN v + i, bodyL v)
theorem flat_lines (D : List Int) (i : Nat) : flatD (itD i (rowsD D)) = ((D.map (lineOf i)).map fun p => p ++ [13, 10]).flatten := by
  rw [it_map]
  unfold flatD flatL rowsD
  simp only [List.map_map]
  rfl
theorem dots_nat (n : Nat) : dotsN (n : Int) = n / 72 % 3 := by
  unfold dotsN
  have e3 : ((n : Int).fdiv 72).fmod 3 = ((n / 72 % 3 : Nat) : Int) := fdm n 72 3 (by decide) (by decide)
  rw [e3, Int.toNat_natCast]
theorem line_signs {v : Int} (hv : 0 ≤ v) (i : Nat) : ∀ k ∈ lineOf i v, k ≠ 13 ∧ k < 128 := by
  intro k hk
  rcases List.mem_append.mp hk with h | h
  · have := (List.mem_replicate.mp h).2
    omega
  · have := okSign_facts (List.all_eq_true.mp (body_ok hv).1 k h)
    exact ⟨this.2.2.1, this.2.2.2⟩
theorem line_row {n i : Nat} (hi : i ≤ 2) : RowOk (strL (lineOf i (n : Int))) (evOf i (n : Int)) := by
  unfold evOf
  rw [Int.toNat_natCast]
  have hm : n / 72 % 3 < 3 := Nat.mod_lt _ (by decide)
  refine row_T (Nat.mod_lt _ (by decide)) (Nat.mod_lt _ (by decide)) (Nat.mod_lt _ (by decide)) (by unfold ddN; split <;> omega) ?_
  show lineOf i (n : Int) = _
  unfold lineOf rowL ddN
  rw [dots_nat, body_T]
theorem ev_ok (i : Nat) (v : Int) : EvOk (evOf i v) := by
  intro num q h
  unfold evOf evT at h
  split at h
  · cases h
  split at h
  · cases h
  injection h with h1 h2
  have := mark_is (j := v.toNat / 8 % 3) (Nat.mod_lt _ (by decide))
  omega
theorem plain_ok {D : List Int} (hd : ∀ v ∈ D, 0 ≤ v ∧ v < 1000000) (h6 : D.length = 6) {i : Nat} (hi : i ≤ 2) {x : Str} (hx : x.cps.toList = if i = 0 then flatD (rowsD D) else sentL D i) :
   ∃ (rows : List Str) (last : Str) (evs : List Ev), x.length + 2 ≤ sizeLine ∧ Txt.split x (Str.ofString "\r\n") = rows ++ [last] ∧ rows.length = 6 ∧ evs.length = 6 ∧ (∀ (j : Nat) (y : Str) (ev : Ev), rows[j]? = some y → evs[j]? = some ev → RowOk y ev) ∧ (∀ (j : Nat) (v : Int) (ev : Ev), D[j]? = some v → evs[j]? = some ev → DueOk v (i : Int) ev) ∧ AgreeOk evs (D.take 4) := by
  have hx' : x.cps.toList = flatD (itD i (rowsD D)) := by
    rw [hx]
    split
    · rename_i h0; rw [h0]; rfl
    · rename_i h0; unfold sentL; rw [if_neg h0]
  have hxl : x.cps.toList.length = x.length := Array.length_toList
  have h0 : ∀ v ∈ D, 0 ≤ v := fun v hv => (hd v hv).1
  have hlen := flat_it_len h0 h6 i (by omega)
  have hfl := hx'.trans (flat_lines D i)
  refine ⟨(D.map (lineOf i)).map strL, strL [], D.map (evOf i), ?_, ?_, by simpa using h6, by simpa using h6, ?_, ?_, ?_⟩
  · rw [← hx', hxl] at hlen
    exact Nat.le_trans (Nat.add_le_add_right hlen 2) (by decide)
  · refine split_rows (fun p hp h13 => ?_) hfl (fun h => ?_) (fun k hk => ?_)
    · obtain ⟨v, hv, rfl⟩ := List.mem_map.mp hp
      exact (line_signs (h0 v hv) i 13 h13).1 rfl
    · have := congrArg List.length h
      rw [List.length_map, h6] at this
      cases this
    · rw [hfl] at hk
      obtain ⟨p, hp, hk⟩ := List.mem_flatten.mp hk
      obtain ⟨q, hq, rfl⟩ := List.mem_map.mp hp
      obtain ⟨v, hv, rfl⟩ := List.mem_map.mp hq
      rcases List.mem_append.mp hk with hk | hk
      · exact (line_signs (h0 v hv) i k hk).2
      · simp only [List.mem_cons, List.not_mem_nil, or_false] at hk
        omega
  · intro j y ev hy hev
    rw [List.map_map, List.getElem?_map] at hy
    rw [List.getElem?_map] at hev
    cases hj : D[j]? with
    | none => rw [hj] at hy; cases hy
    | some v =>
      rw [hj] at hy hev
      obtain rfl := Option.some.inj hy
      obtain rfl := Option.some.inj hev
      obtain ⟨n, rfl⟩ := Int.eq_ofNat_of_zero_le (h0 v (List.mem_of_getElem? hj))
      exact line_row hi
  · intro j v ev hv hev
    rw [List.getElem?_map, hv] at hev
    obtain rfl := Option.some.inj hev
    have hvd := hd v (List.mem_of_getElem? hv)
    obtain ⟨n, rfl⟩ := Int.eq_ofNat_of_zero_le hvd.1
    exact due_T (by omega) i
  · refine agree_T (fun ev hev => ?_) (by rw [List.length_take, h6]; rfl)
    obtain ⟨v, _, rfl⟩ := List.mem_map.mp hev
    exact ev_ok i v
end
section
open PySem PySem.W PyProof.Rows PySem.Spec PySem.Calls
theorem kw_Claw_0 : True := by
  k_with_none
  k_with "my enter" => ((refine' code_def ?k1 ?k2 ?k3 ?k4 ?k5 ?kA ?kF ?kK ?k6 ?k7 ?k8 ?k9 ?kB ?_ ?c2 ?c3 ?c4 ?c5; (case kA => exact rfl); (case kF => exact rfl); (case kK => first | exact rfl | assumption); (case k1 => k_asm); (case k2 => k_asm); (case k3 => k_asm); (case k4 => k_asm); (case k5 => k_asm); (case k6 => k_is); (case k7 => k_is); (case k8 => ktr_room); (case k9 => exact BindsTo.of_eq rfl); (case c5 => decide); (case kB => exact locs rfl); (case c2 => exact rfl); (case c3 => exact rfl); (case c4 => exact rfl); k_whole; intro g'ₓ L'ₓ h'ₓ FG'ₓ F'ₓ N'ₓ B'ₓ X'ₓ T'ₓ; (try dsimp only); (try k_lift B'ₓ); (try k_fold)))
  k_with "my enterC" => ((refine' code_defC ?k1 ?k2 ?k3 ?k4 ?k5 ?kA ?kF ?kK ?k6 ?k7 ?k8 ?k9 ?kB ?kD ?_ ?c2 ?c3 ?c4; (case kA => exact rfl); (case kF => exact rfl); (case kK => first | exact rfl | assumption); (case k1 => k_asm); (case k2 => k_asm); (case k3 => k_asm); (case k4 => k_asm); (case k5 => k_asm); (case k6 => k_is); (case k7 => k_is); (case k8 => ktr_room); (case k9 => exact BindsTo.of_eq rfl); (case kB => exact rfl); (case kD => decide +kernel); (case c2 => exact rfl); (case c3 => exact rfl); (case c4 => exact rfl); k_whole; intro g'ₓ L'ₓ h'ₓ tk'ₓ cells'ₓ FG'ₓ F'ₓ N'ₓ Y'ₓ B'ₓ X'ₓ T'ₓ l1ₓ; (try k_lt l1ₓ); k_cells Y'ₓ; (try simp only [List.cons_append, List.nil_append] at N'ₓ); (try dsimp only); (try k_lift B'ₓ); (try k_fold)))
  k_with "call ref" => ((k_here; (with_reducible show wpAny _ _ (PySem.call (Value.ref _) _ _) _ _ _); (refine wpAny_call ?_); k_dflt (walk_at "my enter")))
  k_with "my asm" => (((case k1 => k_asm); (case k2 => k_asm); (case k3 => k_asm); (case k4 => k_asm); (case k5 => k_asm); (case kK => first | exact rfl | assumption); (case kd => ktr_room); (case ku => ktr_units)))
  k_with "execs cons" => (refine wpAny_execs_cons ?_)
  k_with "execs nil" => (refine wpAny_execs_nil ?_)
  k_with "execs cons" => ((refine gen_toks (X := _ + 1 + 1 + 1 + 1) ?_; intro tkₓ htkₓ; (try dsimp only at htkₓ)))
  k_with "execs nil" => ((refine gen_toks (X := _ + 1 + 1 + 1 + 1) ?_; intro tkₓ htkₓ; (try dsimp only at htkₓ)))
  k_with "execs cons" => ((refine' gen_norm ?kS ?kF ?kE ?_; (case kS => with_reducible assumption); (case kF => with_reducible assumption); (case kE => exact rfl); intro tkₓ htkₓ; (try dsimp only at htkₓ)))
  k_with "execs nil" => ((refine' gen_norm ?kS ?kF ?kE ?_; (case kS => with_reducible assumption); (case kF => with_reducible assumption); (case kE => exact rfl); intro tkₓ htkₓ; (try dsimp only at htkₓ)))
  k_with "exec If" => (refine wpAny_If ?_)
  k_with "call type:str" => (refine P.str_of_bool ?_)
  k_with "callWith" => (first
    | ((try dsimp only); (with_reducible show wpAny _ _ (callWith _ (Value.builtin _) _ _ _) _ _ _); refine callWith_method1 ?_)
    | ((try dsimp only); (with_reducible show wpAny _ _ (callWith _ (Value.type _) _ _ _) _ _ _); refine callWith_type1 ?_))
  trivial
variable {w : World} {p : Program} {loose : List Str} {mean : ExcName → Option Value} {mg mb : Str → Option Value} {dp un : Nat} {gd : Option (List Code)} {cn : Str} {cs : Scope} {a : Addr} {ccd : Value} {cl : List (Str × Addr)} {outer : List Env} {A₀ : Around} {base h₀ : Heap} {L : Addr} {m : Str → Option Value} {s : Shared} {Q E : Value → Shared → Prop} {news : List (Addr × Obj)}
theorem filled_Claw : (K91 = K91) ∧ (PySem.Challenge.rw_wn0091_01.most = some 63) := by
  k_fill
  exact ⟨rfl, rfl⟩


theorem slice_takeL {A : Around} {value slice : Expr} {l : Addr} {vs : List Value} {p : Int} {u : Tok} {h₀ : Heap} {L : Addr} {m : Str → Option Value} {news : List (Addr × Obj)} (F : Fr h₀ L s.heap m) (N : News h₀ L s.heap news) (hl : s.heap.IsList l vs.toArray) (hz : vs.length ≤ 1000) (hp : 0 ≤ p)
    (h : ∀ D h', Fr h₀ L h' m → News h₀ L h' ((D, listOf (vs.take p.toNat).toArray 0) :: news) → (∀ q ∈ news, q.1 < D) → Q (.ref D) { s with heap := h' })
    (hs : subscripted slice false (.ref l) (.ref s.heap.objs.size) = operate [.ref s.heap.objs.size, .ref l] (getItem (.ref l) (.ref s.heap.objs.size)) := by with_unfolding_all rfl)
    (ht : ∀ r, letTemporaryGo value (.ref l) r = pure () := by intro _; with_unfolding_all rfl) :
    wpAny (Mo w) A (subscriptTail value slice (.ref l) (.ref s.heap.objs.size)) Q E { s with heap := s.heap.push { cls := .type "slice", data := .fields #[.none, .int p u, .none] } } := by
  refine slice_list F N hl .none (.int p u) (fun h' F' N' => ?_) hs ht (Nat.le_trans (by rw [List.size_toArray]; exact hz) (show 1000 ≤ sizeLine by decide))
  have e : slicePick vs.toArray none (some p) none = (vs.take p.toNat).toArray := by
    rw [slicePick_plain]
    obtain ⟨k, rfl⟩ := Int.eq_ofNat_of_zero_le hp
    have : clipAt vs.toArray.size (k : Int) = min k vs.length := by rw [clipAt_nat, List.size_toArray]
    simp only [Option.elim, List.drop_zero, Nat.sub_zero]
    rw [this]
    simp only [Int.toNat_natCast]
    exact congrArg List.toArray (List.take_eq_take_min ..).symm
  rw [e] at N'
  exact h _ h' F' N' fun q hq => Nat.lt_succ_of_lt (Heap.lt_size (N q hq).1)
theorem ints_drop : ∀ {vs : List Value} {ns : List Int}, IntsAre vs ns → ∀ k : Nat, IntsAre (vs.drop k) (ns.drop k)
  | _, _, .nil, k => by rw [List.drop_nil, List.drop_nil]; exact .nil
  | _, _, .cons n t r, 0 => .cons n t r
  | _, _, .cons n t r, k + 1 => ints_drop r k
theorem lst_listOf (ys : List Value) : LCg.lst ys = listOf ys.toArray ys.length := rfl
theorem slice_fromL {A : Around} {value slice : Expr} {l : Addr} {vs : List Value} {ks : List Int} {p : Nat} {u : Tok} {h₀ : Heap} {L : Addr} {m : Str → Option Value} {news : List (Addr × Obj)} (F : Fr h₀ L s.heap m) (N : News h₀ L s.heap news) (hl : s.heap.IsList l vs.toArray) (hi : IntsAre vs ks) (hz : vs.length ≤ 1000)
    (h : ∀ D h', IntsAre (vs.drop p) (ks.drop p) → Fr h₀ L h' m → News h₀ L h' ((D, listOf (vs.drop p).toArray 0) :: news) → (∀ q ∈ news, q.1 < D) → Q (.ref D) { s with heap := h' })
    (hs : subscripted slice false (.ref l) (.ref s.heap.objs.size) = operate [.ref s.heap.objs.size, .ref l] (getItem (.ref l) (.ref s.heap.objs.size)) := by with_unfolding_all rfl) :
    wpAny (Mo w) A (subscriptTail value slice (.ref l) (.ref s.heap.objs.size)) Q E { s with heap := s.heap.push { cls := .type "slice", data := .fields #[.int (p : Int) u, .none, .none] } } := by
  refine tail_any (Heap.IsList.typeIs (s := { s with heap := s.heap.push { cls := .type "slice", data := .fields #[.int (p : Int) u, .none, .none] } }) (hl.push _)) list_getitem_lookup
    (wpAny_getItem_list_slice (hl.push _) (Heap.IsSliceOf.new ..) (.int p u) .none .none (by simp) ?_ (Nat.le_trans (by rw [List.size_toArray]; exact hz) (show 1000 ≤ sizeLine by decide))) hs
  have F0 := F.push { cls := .type "slice", data := .fields #[.int (p : Int) u, .none, .none] }
  have N1 := News.push F0 (N.grown fun _ _ e => Heap.get?_push_of_some _ e) (listOf (slicePick vs.toArray (some (p : Int)) none none) 0)
  have F1 := F0.push (listOf (slicePick vs.toArray (some (p : Int)) none none) 0)
  rw [Heap.size_push, slicePick_from'] at N1
  rw [slicePick_from'] at F1
  have e : ({ cls := .type "list", data := .seq (slicePick vs.toArray (some (p : Int)) none none) } : Obj) = listOf (vs.drop p).toArray 0 := by rw [slicePick_from']
  show Q (.ref (s.heap.push _).objs.size) _
  rw [Heap.size_push]
  rw [e]
  exact h _ _ (ints_drop hi p) F1 N1 fun q hq => Nat.lt_succ_of_lt (Heap.lt_size (N q hq).1)
noncomputable def dr0 (ns : List Int) : List Int := (ns.take 6).map fun k => k.fmod 1000000
noncomputable def drawnOf (ns : List Int) : List Int := dr0 ns ++ ([720, 1329, 2154, 245, 227, 575] : List Int).drop (dr0 ns).length
theorem dr0_len (ns : List Int) : (dr0 ns).length ≤ 6 := by unfold dr0; rw [List.length_map, List.length_take]; exact Nat.min_le_left _ _
theorem drawn_len (ns : List Int) : (drawnOf ns).length = 6 := by
  have := dr0_len ns
  unfold drawnOf
  rw [List.length_append, List.length_drop]
  simp only [List.length_cons, List.length_nil]
  omega
section
theorem kw_Claw_1 : True := by
  k_with "call builtin:max" => (refine stop_ ?_)
  k_with "my args" => (((case k1 => k_asm); (case k2 => k_asm); (case k3 => k_asm); (case k4 => k_asm); (case kK => k_asm); (case k5 => exact rfl); (case kd => ktr_room); (case ku => ktr_units)))
  k_with "eval ListComp" => (refine stop_ ?_)
  k_with "CompC" => (refine stop_ ?_)
  k_with "CompSrc" => (refine stop_ ?_)
  k_with "CompEnd" => (refine stop_ ?_)
  k_with "CellEnd" => (refine stop_ ?_)
  k_with "subscriptTail" => (((with_reducible show wpAny _ _ (subscriptTail _ _ (Value.ref _) (Value.int _ _)) _ _ _); k_dflt (refine' ksa_sub ?k1 ?k2 ?k3 ?k4 ?k5 ?k6 ?_ ?k7; (case k1 => k_asm); (case k2 => k_mem); (case k3 => with_reducible assumption); (case k4 => ksa_idx); (case k5 => ksa_idx); (case k6 => ksa_idx); (case k7 => with_unfolding_all rfl); k_whole); intro _))
  k_with "subscriptTail Name" => (((with_reducible show wpAny _ _ (subscriptTail _ _ (Value.ref _) (Value.int _ _)) _ _ _); k_dflt (refine' ksa_sub ?k1 ?k2 ?k3 ?k4 ?k5 ?k6 ?_ ?k7; (case k1 => k_asm); (case k2 => k_mem); (case k3 => with_reducible assumption); (case k4 => ksa_idx); (case k5 => ksa_idx); (case k6 => ksa_idx); (case k7 => with_unfolding_all rfl); k_whole); intro _))
  k_with "subscriptTail Name Name ref int" => (((with_reducible show wpAny _ _ (subscriptTail _ _ (Value.ref _) (Value.int _ _)) _ _ _); k_dflt (refine' ksa_sub ?k1 ?k2 ?k3 ?k4 ?k5 ?k6 ?_ ?k7; (case k1 => k_asm); (case k2 => k_mem); (case k3 => with_reducible assumption); (case k4 => ksa_idx); (case k5 => ksa_idx); (case k6 => ksa_idx); (case k7 => with_unfolding_all rfl); k_whole); intro _))
  k_with "compareOp NotEq ref ref" => (refine stop_ ?_)
  k_with "pyIter ref" => (refine stop_ ?_)
  k_with "exec Assign cons ListComp" => (refine stop_ ?_)
  k_with "exec For" => (with_unfolding_all refine wpAny_For ?_)
  k_with "exec For Name Name cons nil" => (with_unfolding_all refine wpAny_For ?_)
  k_with "exec For Name Call cons nil" => (with_unfolding_all refine wpAny_For ?_)
  k_with "CompSrcT" => (refine stop_ ?_)
  k_with "call builtin:len" => (refine stop_ ?_)
  k_with "call ref" => (refine stop_ ?_)
  k_with "subscriptTail" => (((with_reducible show wpAny _ _ (subscriptTail _ _ (Value.ref _) (Value.ref _)) _ _ _); refine stop_ ?_))
  k_with "subscriptTail Name Slice ref ref" => (refine stop_ ?_)
  k_with "exec Assign cons ListComp" => (with_unfolding_all refine wpAny_Assign_Name ?_)
  trivial
theorem strs_of_list {α : Type} {ys : List Value} {l : List α} {f : α → Str} (hl : ys.length = l.length) (h : ∀ (j : Nat) (y : Value), ys[j]? = some y → ∃ t k, l[j]? = some k ∧ y = Value.str (f k) t) : StrsAre ys (l.map f) := by
  induction ys generalizing l with
  | nil =>
    cases l with
    | nil => exact .nil
    | cons a l => cases hl
  | cons y ys ih =>
    cases l with
    | nil => cases hl
    | cons a l =>
      obtain ⟨t, k, hk, rfl⟩ := h 0 y rfl
      obtain rfl : a = k := Option.some.inj hk
      exact .cons _ _ (ih (Nat.succ.inj hl) fun j y hj => h (j + 1) y hj)
theorem item3 {A : Around} {value slice : Expr} {l : Addr} {a b c : Str} {ta tb tc u : Tok} {e : Int} (hl : s.heap.IsList l #[.str a ta, .str b tb, .str c tc]) (he : e = 0 ∨ e = 1 ∨ e = 2) (h : ∀ t, Q (.str (if e = 0 then a else if e = 1 then b else c) t) s)
    (hs : subscripted slice false (.ref l) (.int e u) = operate [.ref l, .int e u] (getItem (.ref l) (.int e u)) := by with_unfolding_all rfl) : wpAny (Mo w) A (subscriptTail value slice (.ref l) (.int e u)) Q E s := by
  rcases he with rfl | rfl | rfl
  · exact tail_any hl.typeIs slot_list_getitem.lookup (wpAny_getItem_list hl (by decide) (by decide) (by rfl) (h ta)) hs
  · exact tail_any hl.typeIs slot_list_getitem.lookup (wpAny_getItem_list hl (by decide) (by decide) (by rfl) (h tb)) hs
  · exact tail_any hl.typeIs slot_list_getitem.lookup (wpAny_getItem_list hl (by decide) (by decide) (by rfl) (h tc)) hs
theorem ints_get : ∀ {vs : List Value} {ns : List Int}, IntsAre vs ns → ∀ {i : Nat} {n : Int}, ns[i]? = some n → ∃ t, vs[i]? = some (.int n t)
  | _, _, .nil, i, n, h => by cases i <;> cases h
  | _, _, .cons n t _, 0, m, h => ⟨t, by rw [← Option.some.inj h]; rfl⟩
  | _, _, .cons _ _ r, i + 1, n, h => ints_get r (i := i) h
theorem mod3 (v : Int) : (v.fdiv 24).fmod 3 = 0 ∨ (v.fdiv 24).fmod 3 = 1 ∨ (v.fdiv 24).fmod 3 = 2 := by
  have h1 := Int.fmod_nonneg_of_pos (v.fdiv 24) (show (0 : Int) < 3 by decide)
  have h2 := Int.fmod_lt_of_pos (v.fdiv 24) (show (0 : Int) < 3 by decide)
  omega
theorem sum_lens {B : Nat} : ∀ {ys : List Str}, (∀ y ∈ ys, y.length ≤ B) → (ys.map (·.length)).sum ≤ ys.length * B
  | [], _ => Nat.zero_le _
  | y :: ys, h => by
    have h1 := h y (.head _)
    have h2 := sum_lens fun z hz => h z (.tail _ hz)
    simp only [List.map_cons, List.sum_cons, List.length_cons, Nat.succ_mul]
    omega
noncomputable def mailOf (ns : List Int) : Str := Txt.join (Str.ofString "") ((drawnOf ns).map fun v => rowOf v ++ eolOf v)
noncomputable def mapS (x : Str) (tx : Tok) (u : Option Value) (m0 : Str → Option Value) : Str → Option Value := fun y => if y = Str.ofString "sent" then some (.str x tx) else if y = Str.ofString "turn" then u else m0 y
theorem mapS_start {x : Str} {tx : Tok} {m0 : Str → Option Value} : (fun y => if y = Str.ofString "sent" then some (.str x tx) else m0 y) = mapS x tx (m0 (Str.ofString "turn")) m0 := by
  funext y
  unfold mapS
  by_cases h1 : y = Str.ofString "sent"
  · rw [if_pos h1, if_pos h1]
  · rw [if_neg h1, if_neg h1]
    by_cases h2 : y = Str.ofString "turn"
    · rw [if_pos h2, h2]
    · rw [if_neg h2]
theorem mapS_set {x z : Str} {tx tz : Tok} {u v : Option Value} {m0 : Str → Option Value} : (fun y => if y = Str.ofString "sent" then some (.str z tz) else (fun y => if y = Str.ofString "turn" then v else mapS x tx u m0 y) y) = mapS z tz v m0 := by
  funext y
  unfold mapS
  by_cases h1 : y = Str.ofString "sent"
  · rw [if_pos h1, if_pos h1]
  · rw [if_neg h1, if_neg h1]
    by_cases h2 : y = Str.ofString "turn"
    · simp [h2]
    · simp [h1, h2]
theorem times_is (x : Int) : ∃ n : Nat, 1 + x.fmod 2 = (n : Int) ∧ (n = 1 ∨ n = 2) := by
  have h1 := Int.fmod_nonneg_of_pos x (show (0 : Int) < 2 by decide)
  have h2 := Int.fmod_lt_of_pos x (show (0 : Int) < 2 by decide)
  refine ⟨(1 + x.fmod 2).toNat, ?_, ?_⟩ <;> omega
theorem drawn_in {ns : List Int} (v : Int) (h : v ∈ drawnOf ns) : 0 ≤ v ∧ v < 1000000 := by
  unfold drawnOf dr0 at h
  rcases List.mem_append.mp h with h | h
  · obtain ⟨k, -, rfl⟩ := List.mem_map.mp h
    exact ⟨Int.fmod_nonneg_of_pos _ (by decide), Int.fmod_lt_of_pos _ (by decide)⟩
  · have hm := List.mem_of_mem_drop h
    simp only [List.mem_cons, List.not_mem_nil, or_false] at hm
    omega
theorem n_le2 {n : Nat} (h : n = 1 ∨ n = 2) : n ≤ 2 := by rcases h with rfl | rfl <;> decide
theorem n_ne0 {n : Nat} (h : n = 1 ∨ n = 2) : ¬ n = 0 := by rcases h with rfl | rfl <;> decide
theorem n_in2 {n : Nat} (h : n = 1 ∨ n = 2) : (0 : Int) ≤ n ∧ (n : Int) ≤ 2 := by rcases h with rfl | rfl <;> decide
theorem turn_fr {h₀ h₁ h : Heap} {L : Addr} {m : Str → Option Value} (R : KtsTurn (fsOf []) h₀ h₁) (F : Fr h₁ L h m) : Fr h₀ L h m := ⟨F.ns, fun b o e => F.keep b o (R.other b o e (by intro hb; cases hb)), by rw [← R.size]; exact F.above⟩
theorem turn_news {h₀ h₁ h : Heap} {L : Addr} {news : List (Addr × Obj)} (R : KtsTurn (fsOf []) h₀ h₁) (N : News h₁ L h news) : News h₀ L h news := fun q hq => ⟨(N q hq).1, (N q hq).2.1, by
  cases e : h₀.get? q.1 with
  | none => rfl
  | some o => have := R.other q.1 o e (by intro hb; cases hb); rw [(N q hq).2.2] at this; cases this⟩
theorem kw_Claw_2 : True := by
  k_with "subscriptTail Name Name ref int" => (refine stop_ ?_)
  k_with "subscriptTail" => (((with_reducible show wpAny _ _ (subscriptTail (Expr.List _ _) _ (Value.ref _) (Value.int _ _)) _ _ _); refine stop_ ?_))
  k_with "binaryOp Add str str" => (refine stop_ ?_)
  k_with "call builtin:str.join" => (refine stop_ ?_)
  trivial
theorem law_ok {sa : Addr} {vs : List Value} {ns : List Int} {o1 o2 o3 : Obj} {x1 x2 x3 : Option Value} {Qf : Flow → Shared → Prop} {Ef : Value → Shared → Prop}
   (B : Below callerA h₀ [] h₀) (F : Fr h₀ L s.heap (fun q => if q = Str.ofString "script" then some (.ref sa) else m q)) (X : (K91 w.params).In h₀) (T : Top p loose mean mg mb h₀)
   (N : News h₀ L s.heap [(L + 3, o3), (L + 2, o2), (L + 1, o1)]) (h1 : o1.data = .cell x1) (h2 : o2.data = .cell x2) (h3 : o3.data = .cell x3)
   (hsl : h₀.IsList sa vs.toArray) (hsi : IntsAre vs ns) (hsn : ns.length ≤ 63)
   (ret : ∀ h' tk' m', Fr h₀ L h' m' → Qf (.ret (.bool true)) { s with heap := h', toks := tk' }) :
   wpAny (Mo w) (callerA.deeper (envOfC (Str.ofString "law") S86 L a ccd)) (execs B86 (envOfC (Str.ofString "law") S86 L a ccd)) Qf Ef s := by
  have hS : St s.gens s.drawn s.os := trivial
  k_steps
  refine go_ ?_
  refine LCg.ListComp_U (F₀ := F) (by with_unfolding_all rfl) (by decide) (by rfl) (by decide) (by rfl) ?_
  k_steps
  refine go_ ?_
  have hvl : vs.length ≤ 1000 := by have := hsi.length; omega
  refine slice_takeL (s := ⟨_, _, _, _, _⟩) (p := 6) F N (by obtain ⟨o, e, r⟩ := hsl; exact ⟨o, F.keep _ _ e, r⟩) hvl (by decide) ?_
  intro D1 h1' F1 N1 l1
  k_lt l1
  k_steps
  refine go_ ?_
  have hs6 := ints_take hsi 6
  refine fixL_list (fun j y => ∃ t k, (ns.take 6)[j]? = some k ∧ y = Value.int (k.fmod 1000000) t) (by rfl) F1 N1 (by rw [List.size_toArray, List.length_take]; exact Nat.le_trans (Nat.min_le_right _ _) (Nat.le_trans hvl (by decide))) (.head _) ?H1 ?f1
  case H1 =>
    intro gg j v2 I2 oI2 C2 oC2 D2 m2 hh2 tk2 ys2 E2 hj hv2 hC2 hx2 F3 N3 off2 ne2
    obtain ⟨k, t, hk, rfl⟩ := ints_at hs6 (i := j) (by simpa using hv2)
    clear F1 N1
    k_steps
    exact postE (by assumption) (by assumption) ⟨_, k, hk, rfl⟩
  case f1 =>
    intro gg ds hdl hdy
    have hd0 := ints_of_list (l := ns.take 6) (f := fun k => k.fmod 1000000) (by rw [hdl, List.size_toArray]; exact hs6.length) hdy
    replace hd0 : IntsAre ds (dr0 ns) := hd0
    have h6 := dr0_len ns
    clear hdl hdy F1 N1
    k_steps
    refine go_ ?_
    with_reducible rename News _ _ _ _ => N2
    rw [lst_listOf] at N2
    refine PyProof.Rows.len_list (items := ds.toArray) ⟨_, (N2 _ (.tail _ (.head _))).1, rfl, _, rfl⟩ (by rw [List.size_toArray, hd0.length]; omega) ?_
    k_steps
    refine go_ ?_
    with_reducible rename Fr _ _ _ _ => F3
    refine slice_fromL (s := ⟨_, _, _, _, _⟩) (p := ds.toArray.size) (ks := [720, 1329, 2154, 245, 227, 575]) F3 N2 ⟨_, (N2 _ (.head _)).1, rfl, _, rfl⟩ (.cons _ _ (.cons _ _ (.cons _ _ (.cons _ _ (.cons _ _ (.cons _ _ .nil)))))) (Nat.le_of_ble_eq_true rfl) ?_
    intro D3 h3' hi3 F4 N4 l3
    k_lt l3
    clear F3 N2
    k_steps
    with_reducible rename IntsAre _ (dr0 ns ++ _) => hws
    have edr : dr0 ns ++ List.drop ds.toArray.size ([720, 1329, 2154, 245, 227, 575] : List Int) = drawnOf ns := by unfold drawnOf; rw [List.size_toArray, hd0.length]
    rw [edr] at hws
    have hw6 := drawn_len ns
    refine go_ ?_
    with_reducible rename Fr _ _ _ _ => F5
    refine LCg.ListComp_U (F₀ := F5) (by with_unfolding_all rfl) (by decide) (by rfl) (by decide) (by rfl) ?_
    k_steps
    refine go_ ?_
    with_reducible rename Fr _ _ _ _ => F6
    with_reducible rename News _ _ _ _ => N6
    refine fixL_list (fun j y => ∃ t v, (drawnOf ns)[j]? = some v ∧ y = Value.str (rowOf v) t) (by rfl) F6 N6 (by rw [List.size_toArray, hws.length, hw6]; decide) (.head _) ?H2 ?f2
    case H2 =>
      intro gg j v2 I2 oI2 C2 oC2 D2 m2 hh2 tk2 ys2 E2 hj hv2 hC2 hx2 F3 N3 off2 ne2
      obtain ⟨v, t, hk, rfl⟩ := ints_at hws (i := j) (by simpa using hv2)
      have hv := drawn_in _ (List.mem_of_getElem? hk)
      obtain ⟨n, rfl⟩ := Int.eq_ofNat_of_zero_le hv.1
      clear F6 N6
      k_steps
      refine go_ ?_
      refine' row_raw (c := markN n) ?k1 ?k2 ?kK ?k3 ?k4 ?k5 ?kd ?ku ?e1 (mark_at n) (mark_in n) (show (1 : Nat) ≤ 1 by decide) (port_le n) (dots_le n) ?_
      walk_at "my args"
      case e1 => omega
      intro y t' h' tk' hy F' N'
      subst hy
      exact postE F' N' ⟨t', _, hk, rfl⟩
    case f2 =>
      intro gg rs hrl hry
      replace hrl : rs.length = 6 := by rw [hrl, List.size_toArray, hws.length, hw6]
      clear F6 N6
      k_steps
      refine go_ ?_
      with_reducible rename Fr _ _ _ _ => F7
      refine LCg.ListComp_U (F₀ := F7) (by with_unfolding_all rfl) (by decide) (by rfl) (by decide) (by rfl) ?_
      k_steps
      refine go_ ?_
      with_reducible rename Fr _ _ _ _ => F8
      with_reducible rename News _ _ _ _ => N8
      refine fixL_range (n := 6) (fun j y => ∃ t v, (drawnOf ns)[j]? = some v ∧ y = Value.str (rowOf v ++ eolOf v) t) (by rfl) F8 N8 (by assumption) (by decide) (by rfl) (by decide) ?H3 ?f3
      case H3 =>
        intro gg j v2 I2 oI2 C2 oC2 D2 m2 hh2 tk2 ys2 E2 hj hv2 hC2 hx2 F3 N3 off2 ne2
        obtain ⟨t2, rfl⟩ := hv2
        obtain ⟨y, hy⟩ : ∃ y, rs[j]? = some y := ⟨_, List.getElem?_eq_getElem (by omega)⟩
        obtain ⟨ty, v, hv, rfl⟩ := hry j y hy
        clear F8 N8
        k_steps
        refine go_ ?_
        have ej : (0 + (j : Int)).toNat = j := by omega
        have hv0 := drawn_in _ (List.mem_of_getElem? hv)
        refine PyProof.Rows.item_list (items := rs.toArray) (x := .str (rowOf v) ty) ⟨_, (N3 _ (.tail _ (.tail _ (.tail _ (.head _))))).1, rfl, _, rfl⟩ (by omega) (by omega) (by rw [ej]; simpa using hy) ?_
        k_steps
        refine go_ ?_
        obtain ⟨tw, hw⟩ := ints_get hws hv
        with_reducible rename News _ _ _ _ => N9
        refine PyProof.Rows.item_list (items := _) (x := .int v tw) ⟨_, (N9 _ (.tail _ (.tail _ (.tail _ (.tail _ (.tail _ (.head _)))))) ).1, rfl, _, rfl⟩ (by omega) (by omega) (by rw [ej]; simpa using hw) ?_
        k_steps
        refine go_ ?_
        refine item3 ⟨_, (N9 _ (.head _)).1, rfl, _, rfl⟩ (mod3 v) ?_
        intro te
        k_steps
        refine go_ ?_
        refine PyProof.Rows.add_str (fun t' tk => ?_) (Nat.le_trans (Nat.add_le_add (row_len hv0.1) (eol_len v)) (show 22 ≤ sizeLine by decide))
        exact postE (by assumption) (fun q hq => N9 q (.tail _ hq)) ⟨_, v, hv, rfl⟩
      case f3 =>
        intro gg ms hml hmy
        have hmi := strs_of_list (l := drawnOf ns) (f := fun v => rowOf v ++ eolOf v) (by rw [hml, hw6]) hmy
        clear hml hmy F8 N8
        k_steps
        refine go_ ?_
        with_reducible rename News _ _ _ _ => N9
        refine join_listW (items := ms.toArray) ⟨_, (N9 _ (.head _)).1, rfl, _, rfl⟩ hmi (by decide +kernel) ?hw ?_
        case hw =>
          have h1 := sum_lens (B := 22) (ys := (drawnOf ns).map fun v => rowOf v ++ eolOf v) (fun y hy => by
            obtain ⟨v, hv, rfl⟩ := List.mem_map.mp hy
            rw [Str.length_append]
            have := row_len (drawn_in v hv).1
            have := eol_len v
            omega)
          rw [List.length_map, hw6] at h1 ⊢
          omega
        intro tm km
        k_steps
        refine go_ ?_
        obtain ⟨n, hn, hn2⟩ := times_is (drawnOf ns).sum
        have hd0 : ∀ v ∈ drawnOf ns, 0 ≤ v := fun v hv => (drawn_in v hv).1
        with_reducible rename Fr _ _ _ _ => F10
        with_reducible rename News _ _ _ _ => N10
        with_reducible rename IsRange _ _ _ _ _ _ _ _ => hr10
        rw [hn] at hr10
        refine forL_range (n := n) (fun i m' => ∃ x tx u, m' = mapS x tx u (fun y => if y = Str.ofString "mail" then some (.str (mailOf ns) tm) else if y = Str.ofString "script" then some (.ref sa) else m y) ∧ x.cps.toList = sentL (drawnOf ns) i) (by rfl) hr10 (by rcases hn2 with rfl | rfl <;> decide) (by rcases hn2 with rfl | rfl <;> rfl) (by rfl) (by rfl) F10 N10 ⟨mailOf ns, tm, _, mapS_start, mail_L hd0⟩ ?turn ?done
        case turn =>
          intro i I oI hh tk m' t hi hm F1 N1 lt1
          obtain ⟨x, tx, u, rfl, hx⟩ := hm
          have ex : x.cps = (sentL (drawnOf ns) i).toArray := by rw [← hx]
          clear F10 N10 hr10
          unfold mapS at F1
          k_steps
          refine go_ ?_
          refine' quote_ok (o2 := flatD (itD i (rowsD (drawnOf ns)))) (out := sentL (drawnOf ns) (i + 1)) ?k1 ?k2 ?kK ?k3 ?k4 ?k5 ?kd ?ku ?hx ?S ?hx2 ?S2 ?_
          walk_at "my args"
          case hx =>
            have := sent_len hd0 hw6 i (by omega)
            rw [ex, List.size_toArray]
            omega
          case hx2 =>
            have := flat_it_len hd0 hw6 i (by omega)
            omega
          case S => rw [ex]; exact sent_fix hd0 i
          case S2 => exact sent_quote hd0 i
          intro z tz h7 tk7 hz F7 N7
          k_steps
          with_reducible rename Fr _ _ _ _ => F8
          with_reducible rename News _ _ _ _ => N8
          exact turnX_next F8 N8 ⟨z, tz, _, mapS_set, hz⟩
        case done =>
          intro hh tk m' hm F1 N1
          obtain ⟨x, tx, u, rfl, hx⟩ := hm
          clear F10 N10 hr10
          unfold mapS at F1
          k_steps
          refine go_ ?_
          with_reducible rename Fr _ _ _ _ => F11
          refine LCg.ListComp_U (F₀ := F11) (by with_unfolding_all rfl) (by decide) (by rfl) (by decide) (by rfl) ?_
          k_steps
          refine go_ ?_
          with_reducible rename Fr _ _ _ _ => F12
          with_reducible rename News _ _ _ _ => N12
          refine fixL_list (fun j y => ∃ t v, (drawnOf ns)[j]? = some v ∧ y = Value.str (dueS n v) t) (by rfl) F12 N12 (by rw [List.size_toArray, hrl]; decide) (by k_mem) ?H4 ?f4
          case H4 =>
            intro gg j v2 I2 oI2 C2 oC2 D2 m2 hh2 tk2 ys2 E2 hj hv2 hC2 hx2 F3 N3 off2 ne2
            obtain ⟨ty, v, hv, rfl⟩ := hry j v2 (by simpa using hv2)
            have hv0 := (drawn_in _ (List.mem_of_getElem? hv)).1
            clear F12 N12
            have hch := row_head hv0
            k_steps
            refine item_eq hch (by omega) ?_
            intro th kh
            k_steps
            · refine go_ ?_
              have hd := head_dot (by assumption)
              have hm2 := mul_le2 hn2
              rw [← hn] at hm2
              have hl2 := row_len hv0
              refine PyProof.Rows.add_str (fun t' tk => ?_) (Nat.le_trans (Nat.add_le_add hm2 hl2) (show 22 ≤ sizeLine by decide))
              k_steps
              refine go_ ?_
              refine PyProof.Rows.add_str (fun t' tk => ?_) (Nat.le_trans (Nat.add_le_add (show (_ ++ rowOf v : Str).length ≤ 22 by rw [Str.length_append]; omega) crlf_len) (show 24 ≤ sizeLine by decide))
              exact postE (by assumption) (by assumption) ⟨_, v, hv, congrArg (fun z => Value.str z _) (by unfold dueS; rw [if_neg hd, hn])⟩
            · refine go_ ?_
              have hd := head_two (by assumption)
              refine PyProof.Rows.add_str (fun t' tk => ?_) (Nat.le_trans (Nat.add_le_add (row_len hv0) crlf_len) (show 22 ≤ sizeLine by decide))
              exact postE (by assumption) (by assumption) ⟨_, v, hv, congrArg (fun z => Value.str z _) (by unfold dueS; rw [if_pos hd])⟩
          case f4 =>
            intro gg ws2 hwl hwy
            have hwi := strs_of_list (l := drawnOf ns) (f := dueS n) (by rw [hwl, List.size_toArray, hrl, hw6]) hwy
            clear hwl hwy F12 N12
            k_steps
            refine go_ ?_
            with_reducible rename News _ _ _ _ => N13
            refine join_listW (items := ws2.toArray) ⟨_, (N13 _ (.head _)).1, rfl, _, rfl⟩ hwi (by decide +kernel) ?hw2 ?_
            case hw2 =>
              have h1 := sum_lens (B := 24) (ys := (drawnOf ns).map (dueS n)) (fun y hy => by
                obtain ⟨v, hv, rfl⟩ := List.mem_map.mp hy
                exact due_len hn2 (drawn_in v hv).1)
              rw [List.length_map, hw6] at h1 ⊢
              omega
            intro tj kj
            have hxe : x = Txt.join (Str.ofString "") ((drawnOf ns).map (dueS n)) := Str.ext' (by
              rw [← Array.toList_inj, hx, due_L hn2 hd0])
            rw [← hxe]
            k_steps
            · exfalso
              with_reducible rename (_ != _) = true => hc
              simp at hc
            refine go_ ?_
            with_reducible rename Fr _ _ _ _ => F14
            with_reducible rename News _ _ _ _ => N14
            refine' fix_ok (out := flatD (rowsD (drawnOf ns))) ?k1 ?k2 ?kK ?k3 ?k4 ?k5 ?kd ?ku ?hx ?S ?_
            walk_at "my args"
            case hx =>
              have em : (mailOf ns).cps = (mailL (drawnOf ns)).toArray := by
                have := mail_L hd0
                rw [← this]; rfl
              have := mail_len hd0 hw6
              rw [em, List.size_toArray]
              omega
            case S =>
              have em : (mailOf ns).cps = (mailL (drawnOf ns)).toArray := by
                have := mail_L hd0
                rw [← this]; rfl
              rw [em]; exact fixM hd0
            intro z tz h7 tk7 hz F7 N7
            clear F14 N14
            k_steps
            refine go_ ?_
            with_reducible rename Fr _ _ _ _ => F15
            with_reducible rename News _ _ _ _ => N15
            obtain ⟨rows, last, evs, p1, p2, p3, p4, p5, p6, p7⟩ := plain_ok (x := z) (i := 0) drawn_in hw6 (by decide) (by rw [hz, if_pos rfl])
            refine' agr_ok (A₀ := callerA) (base := h₀) (outer := []) (dns := drawnOf ns) (times := 0) (evs := evs) (rows := rows) (last := last) B ?F X ?N T ?D X T ?kk ?kd ?ku ?hdm hws hw6 (by decide) p1 p2 p3 p4 p5 p6 p7 ?_
            case F => exact F15
            case N => exact N15
            case D => intro b hb; cases hb
            case kk => first | rfl | exact rfl | with_unfolding_all rfl
            case kd => ktr_room
            case ku => ktr_units
            case hdm => k_mem
            intro h₁ h8 tk8 nw8 R1 B1 D1' F16 N16 sub16
            replace F16 := turn_fr R1 F16
            replace N16 := turn_news R1 N16
            have N17 : News h₀ L h8 _ := fun q hq => N16 q (sub16 q hq)
            clear N15 N16 sub16 F15 R1 B1 D1'
            k_steps
            refine go_ ?_
            with_reducible rename Fr _ _ _ _ => F18
            with_reducible rename News _ _ _ _ => N18
            obtain ⟨rows', last', evs', p1', p2', p3', p4', p5', p6', p7'⟩ := plain_ok (x := x) (i := n) drawn_in hw6 (n_le2 hn2) (by rw [hx, if_neg (n_ne0 hn2)])
            rw [hn]
            refine' agr_ok (A₀ := callerA) (base := h₀) (outer := []) (dns := drawnOf ns) (times := (n : Int)) (evs := evs') (rows := rows') (last := last') B ?F X ?N T ?D X T ?kk ?kd ?ku ?hdm hws hw6 (n_in2 hn2) p1' p2' p3' p4' p5' p6' p7' ?_
            case F => exact F18
            case N => exact N18
            case D => intro b hb; cases hb
            case kk => rfl
            case kd => ktr_room
            case ku => ktr_units
            case hdm => k_mem
            intro h₂ h9 tk9 nw9 R2 B2 D2' F19 N19 sub19
            replace F19 := turn_fr R2 F19
            exact ret _ _ _ F19
end
end
end
end
end
end W91
open PySem PySem.W PyProof.Rows
set_option Elab.async true
set_option maxRecDepth 100000
set_option maxHeartbeats 8000000
def W91.A91 : List Addr := [2, 3, 32, 39, 40, 41, 42, 45, 52, 53, 54, 57, 64, 65, 66, 69, 71, 72, 74, 75, 76, 78, 79, 81, 82, 83, 85, 86, 88, 89, 90, 92, 93, 95, 96, 97, 99, 100, 102, 103, 104, 106, 107, 109, 110, 111, 113, 114, 116, 117, 118, 120, 121, 123, 124, 125, 127, 128, 130, 131, 132, 134, 135, 137, 138, 139, 141, 142, 144, 145, 146, 148, 149, 151, 152, 153, 155, 156, 158, 159, 160, 162, 163, 165, 166, 170, 171, 175, 176, 177, 179, 180, 182, 183, 184, 186, 187, 189, 190, 191, 194, 196, 197, 199, 200, 201, 203, 204, 206, 207, 208, 210, 211, 213, 214, 215, 217, 218, 220, 221, 222, 224, 225, 227, 228, 229, 231, 232, 234, 235, 236, 239, 240, 241, 244, 245, 246, 249, 250]
def W91.main.tw10236399870674205657 : Unit := () -- W91.main.o_1_42
def W91.main.tw1292531627724902659 : Unit := () -- W91.main.o_1_373
def W91.main.tw4861808292195923908 : Unit := () -- W91.main.view_1_39
def W91.main.tw16116282070682686674 : Unit := () -- W91.main.heap_1_342
def W91.main.tw2099216726240532411 : Unit := () -- W91.main.tree_1_340
def W91.main.tw1260790420342394738 : Unit := () -- W91.main.sts_1_280
def W91.main.tw16490047550250763331 : Unit := () -- W91.main.tree_1_275
def W91.main.tw12027186019364976717 : Unit := () -- W91.main.tree_1_268
def W91.main.tw9066048182042572695 : Unit := () -- W91.main.tree_1_264
def W91.main.tw2183569924719472002 : Unit := () -- W91.main.tree_1_240
def W91.main.tw3027779316328470947 : Unit := () -- W91.main.o_1_281
def W91.main.tw17658415774441764604 : Unit := () -- W91.main.o_1_271
def W91.main.tw18092866648885151385 : Unit := () -- W91.main.o_1_267
def W91.main.tw13486294508792173451 : Unit := () -- PySem.Challenge.pw_wn0091_01
def W91.main.tw11065590981329495757 : Unit := () -- W91.main.sts_1_270
def W91.main.tw15217460297197648019 : Unit := () -- W91.main.tree_1_167
def W91.main.tw12224955587895420534 : Unit := () -- W91.main.o_1_243
def W91.main.tw14236355010741408765 : Unit := () -- W91.main.o_1_310
def W91.main.tw3406741335223932885 : Unit := () -- W91.main.o_1_308
def W91.main.tw16265406650582465335 : Unit := () -- W91.main.o_1_332
def W91.main.tw11177572408727813323 : Unit := () -- W91.main.sts_1_242
def W91.main.tw18393433045423219929 : Unit := () -- W91.main.o_1_272
def W91.main.tw13821134527860095312 : Unit := () -- W91.main.o_1_334
def W91.main.tw13415409602633225702 : Unit := () -- W91.main.tree_1_114
def W91.main.tw95727442582395466 : Unit := () -- W91.main.o_1_339
def W91.main.tw17460342774706391504 : Unit := () -- W91.main.o_1_337
def W91.main.tw14373199910280032514 : Unit := () -- W91.main.sts_1_116
def W91.main.tw17525043088372717777 : Unit := () -- W91.main.sts_1_169
def W91.main.tw14468829651607856111 : Unit := () -- W91.main.o_1_170
def W91.main.tw8117843027166312812 : Unit := () -- W91.main.tree_1_96
def W91.main.tw18154997451280830060 : Unit := () -- W91.main.o_1_315
def W91.main.tw4947161832080586548 : Unit := () -- W91.main.o_1_138
def W91.main.tw11656382429490902869 : Unit := () -- W91.main.o_1_317
def W91.main.tw2759609289255365723 : Unit := () -- W91.main.heap_1_75
def W91.main.tw14252201355878239398 : Unit := () -- W91.main.o_1_136
def W91.main.tw7875097468277322323 : Unit := () -- W91.main.o_1_60
def W91.main.tw6639450676897373789 : Unit := () -- W91.main.o_1_303
def W91.main.tw13831561820836730510 : Unit := () -- W91.main.o_1_327
def W91.main.tw6015504744834506943 : Unit := () -- W91.main.o_1_301
def W91.main.tw13173203068078084677 : Unit := () -- W91.main.o_1_80
def W91.main.tw1146865749201670409 : Unit := () -- W91.main.o_1_53
def W91.main.tw15134419085501097511 : Unit := () -- W91.main.tree_1_77
def W91.main.tw6780674638546307032 : Unit := () -- W91.main.o_1_296
def W91.main.tw14968617383373414820 : Unit := () -- W91.main.sts_1_266
def W91.main.tw4329881872115708503 : Unit := () -- W91.main.o_1_117
def W91.main.tw9310435121414724288 : Unit := () -- W91.main.o_1_294
def W91.main.tw16008255890518353552 : Unit := () -- W91.main.o_1_55
def W91.main.tw13107213227006909904 : Unit := () -- W91.main.o_1_273
def W91.main.tw10143770898267788463 : Unit := () -- W91.main.o_1_329
def W91.main.tw9077585036461781300 : Unit := () -- W91.main.o_1_99
def W91.main.tw13569153664488656025 : Unit := () -- W91.main.o_1_63
def W91.main.tw14459332946368124089 : Unit := () -- W91.K91 (in the joined file alone)
open W91 in
theorem W91.main : PySem.Challenge.rw_wn0091_01.Holds := by
  (w_on; k_with_none; o_law; o_head (kHook K91 W91.A91 (fun _ => by kernel_rfl)); (case hw => w_witness2); w_strict (k_go0; (with_reducible rename Fr _ _ _ _ => F); (with_reducible rename News _ _ _ _ => N); (with_reducible rename Top _ _ _ _ _ _ => T); (with_reducible rename Below _ _ _ _ => B); (with_reducible rename Frag.In _ _ => X); (with_reducible rename IntsAre _ _ => hI); (with_reducible rename Heap.IsList _ _ _ => hL); (refine W91.law_ok (m := fun _ => none) B (W91.fr_map F ?hf) X T N (by assumption) (by assumption) (by assumption) hL hI ?hn ?ret); (case hf => kernel_rfl); (case hn => omega); (case ret => (intro h' tk' m' F'; k_steps))))
theorem PySem.Challenge.cw_wn0091_01_holds : PySem.Challenge.rw_wn0091_01.Holds :=
  W91.main

