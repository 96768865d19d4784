import PyProof.Rows.All
import Wide.All
import OpenK.AllK
import Wide.FinOn
import Lean
import PySem.Challenge.RW_mr0370_01
section
open PySem PySem.W PyProof.Rows
set_option Elab.async false
set_option maxRecDepth 100000
namespace Mine
noncomputable def keepL : List Nat := [0, 1, 3, 5, 7, 8, 10, 12, 13, 14, 16, 17, 18, 19, 20, 22, 23, 24, 25, 26, 28, 30, 31, 32, 33, 34, 35, 37, 38, 39, 40, 41, 42, 43, 44, 45, 46, 47, 48, 49, 50, 51, 52, 53, 54]
noncomputable def vw : Program := view PySem.Challenge.pw_mr0370_01 keepL
noncomputable def vs (s : String) (t : Nat) : Value := .str (Str.ofString s) t
noncomputable def en (P : Params) (n : Str) (t : Nat) (v : Value) : DictEntry := ⟨PyData.keyHash P n, .str n t, v⟩
noncomputable def fl : String := "/claim/cut.py"
noncomputable def co (vs : List Value) : Obj := { cls := .type "code", data := .fields vs.toArray }
noncomputable def doc (d t : Nat) : Value := match PySem.Challenge.pw_mr0370_01.main.body[d]? with
  | some (.FunctionDef _ _ body ..) => (match docOf body with | some s => .str s t | none => .none)
  | _ => .none
noncomputable def fo (i : Nat) (dv : Value) (d dt : Nat) (m : String) (mt c : Nat) : Obj := match PySem.Challenge.pw_mr0370_01.main.body[i]? with
  | some (.FunctionDef name args body _ _ _ scope _ _ _) => { cls := .type "function", data := .func ⟨name, name, args, .stmts body, scope, mainGlobals, [], dv, .none, doc d dt, .str (Str.ofString m) mt, none, .ref c, .none, builtinsNs⟩ }
  | _ => default
noncomputable def frag (P : Params) : Frag := [
  (3, { cls := .type "dict", data := .dict [
    en P (Str.ofString "__name__") 165 (vs "law_mr0370_01" 550),
    en P (Str.ofString "__doc__") 166 .none,
    en P (Str.ofString "__package__") 167 .none,
    en P (Str.ofString "__loader__") 168 (.builtin "__main__.__loader__#opaque"),
    en P (Str.ofString "__spec__") 169 .none,
    en P (Str.ofString "__annotations__") 170 (.ref 6),
    en P (Str.ofString "__builtins__") 171 (.ref 4),
    en P (Str.ofString "__file__") 173 (vs "/claim/cut.py" 172),
    en P (Str.ofString "__cached__") 174 .none,
    en P (Str.ofString "_wall") 193 (.ref 21),
    en P (Str.ofString "_pe_doc") 202 (.ref 28),
    en P (Str.ofString "_plain_name") 213 (.ref 35),
    en P (Str.ofString "ABCMeta") 239 (.ref 52),
    en P (Str.ofString "_ABCLike") 282 (.ref 85),
    en P (Str.ofString "_abc_plain_meta") 289 (.ref 94),
    en P (Str.ofString "fspath") 301 (.ref 101),
    en P (Str.ofString "commonprefix") 315 (.ref 108),
    en P (Str.ofString "_splitext") 330 (.ref 115),
    en P (Str.ofString "_check_arg_types") 341 (.ref 122),
    en P (Str.ofString "_get_sep") 350 (.ref 129),
    en P (Str.ofString "isabs") 359 (.ref 136),
    en P (Str.ofString "join") 371 (.ref 143),
    en P (Str.ofString "split") 383 (.ref 150),
    en P (Str.ofString "splitext") 392 (.ref 157),
    en P (Str.ofString "splitroot") 435 (.ref 167),
    en P (Str.ofString "basename") 445 (.ref 174),
    en P (Str.ofString "dirname") 456 (.ref 181),
    en P (Str.ofString "normpath") 472 (.ref 188),
    en P (Str.ofString "abspath") 480 (.ref 195),
    en P (Str.ofString "relpath") 498 (.ref 203),
    en P (Str.ofString "commonpath") 505 (.ref 208),
    en P (Str.ofString "_raise_serialization_error") 514 (.ref 215),
    en P (Str.ofString "_escape_cdata") 521 (.ref 222),
    en P (Str.ofString "_escape_attrib") 528 (.ref 229),
    en P (Str.ofString "_escape_attrib_html") 535 (.ref 236),
    en P (Str.ofString "_escape_cdata_c14n") 542 (.ref 243),
    en P (Str.ofString "_escape_attrib_c14n") 549 (.ref 250),
    en P (Str.ofString "_law_path") 559 (.ref 257),
    en P (Str.ofString "_law_write") 568 (.ref 264),
    en P (Str.ofString "_law_spelled") 574 (.ref 269),
    en P (Str.ofString "_law_front") 580 (.ref 274),
    en P (Str.ofString "_law_joined") 589 (.ref 281),
    en P (Str.ofString "_law_parted") 598 (.ref 288),
    en P (Str.ofString "_law_root") 606 (.ref 295),
    en P (Str.ofString "_law_walk") 616 (.ref 302),
    en P (Str.ofString "_law_ending") 624 (.ref 309),
    en P (Str.ofString "_law_common") 630 (.ref 314),
    en P (Str.ofString "_law_way") 641 (.ref 321),
    en P (Str.ofString "_law_told") 651 (.ref 328),
    en P (Str.ofString "_law_did") 666 (.ref 335),
    en P (Str.ofString "_law_kind") 675 (.ref 342),
    en P (Str.ofString "_law_more") 681 (.ref 347),
    en P (Str.ofString "_law_led") 687 (.ref 352),
    en P (Str.ofString "_law_seen") 698 (.ref 359),
    en P (Str.ofString "law") 704 (.ref 364)].toArray 55 }),
  (100, co [(vs "fspath" 292), (vs "fspath" 293), (vs fl 294), (.int 43 0), (.int 1 0), (.int 0 0), (.int 0 0), (.int 3 0), (.ref 95), (.bool true), (.int 181 0), (.ref 96), .none, (.ref 97), (.ref 98), (.ref 99), (.int 299 0), (.int 43 0), (vs fl 300)]),
  (101, fo 10 .none 10 0 "os" 290 100),
  (107, co [(vs "commonprefix" 304), (vs "commonprefix" 305), (vs fl 306), (.int 60 0), (.int 1 0), (.int 0 0), (.int 0 0), (.int 3 0), (.ref 102), (.bool true), (.int 181 0), (.ref 103), .none, (.ref 104), (.ref 105), (.ref 106), (.int 312 0), (.int 60 0), (vs fl 313)]),
  (108, fo 12 .none 12 314 "cpy313.genericpath" 302 107),
  (114, co [(vs "_splitext" 316), (vs "_splitext" 317), (vs fl 318), (.int 72 0), (.int 4 0), (.int 0 0), (.int 0 0), (.int 3 0), (.ref 109), (.bool true), (.int 181 0), (.ref 110), .none, (.ref 111), (.ref 112), (.ref 113), (.int 327 0), (.int 72 0), (vs fl 328)]),
  (115, fo 13 .none 13 329 "cpy313.genericpath" 302 114),
  (121, co [(vs "_check_arg_types" 331), (vs "_check_arg_types" 332), (vs fl 333), (.int 89 0), (.int 1 0), (.int 0 0), (.int 0 0), (.int 7 0), (.ref 116), (.bool true), (.int 181 0), (.ref 117), .none, (.ref 118), (.ref 119), (.ref 120), (.int 339 0), (.int 89 0), (vs fl 340)]),
  (122, fo 14 .none 14 0 "cpy313.genericpath" 302 121),
  (128, co [(vs "_get_sep" 344), (vs "_get_sep" 345), (vs fl 346), (.int 101 0), (.int 1 0), (.int 0 0), (.int 0 0), (.int 3 0), (.ref 123), (.bool true), (.int 181 0), (.ref 124), .none, (.ref 125), (.ref 126), (.ref 127), (.int 348 0), (.int 101 0), (vs fl 349)]),
  (129, fo 16 .none 16 0 "cpy313.posixpath" 342 128),
  (135, co [(vs "isabs" 351), (vs "isabs" 352), (vs fl 353), (.int 106 0), (.int 1 0), (.int 0 0), (.int 0 0), (.int 3 0), (.ref 130), (.bool true), (.int 181 0), (.ref 131), .none, (.ref 132), (.ref 133), (.ref 134), (.int 356 0), (.int 106 0), (vs fl 357)]),
  (136, fo 17 .none 17 358 "cpy313.posixpath" 342 135),
  (142, co [(vs "join" 360), (vs "join" 361), (vs fl 362), (.int 111 0), (.int 1 0), (.int 0 0), (.int 0 0), (.int 7 0), (.ref 137), (.bool true), (.int 181 0), (.ref 138), .none, (.ref 139), (.ref 140), (.ref 141), (.int 368 0), (.int 111 0), (vs fl 369)]),
  (143, fo 18 .none 18 370 "cpy313.posixpath" 342 142),
  (149, co [(vs "split" 372), (vs "split" 373), (vs fl 374), (.int 132 0), (.int 1 0), (.int 0 0), (.int 0 0), (.int 3 0), (.ref 144), (.bool true), (.int 181 0), (.ref 145), .none, (.ref 146), (.ref 147), (.ref 148), (.int 380 0), (.int 132 0), (vs fl 381)]),
  (150, fo 19 .none 19 382 "cpy313.posixpath" 342 149),
  (156, co [(vs "splitext" 384), (vs "splitext" 385), (vs fl 386), (.int 142 0), (.int 1 0), (.int 0 0), (.int 0 0), (.int 3 0), (.ref 151), (.bool true), (.int 181 0), (.ref 152), .none, (.ref 153), (.ref 154), (.ref 155), (.int 390 0), (.int 142 0), (vs fl 391)]),
  (157, fo 20 .none 13 329 "cpy313.posixpath" 342 156),
  (166, co [(vs "splitroot" 426), (vs "splitroot" 427), (vs fl 428), (.int 152 0), (.int 1 0), (.int 0 0), (.int 0 0), (.int 3 0), (.ref 161), (.bool true), (.int 181 0), (.ref 162), .none, (.ref 163), (.ref 164), (.ref 165), (.int 432 0), (.int 152 0), (vs fl 433)]),
  (167, fo 22 .none 22 434 "cpy313.posixpath" 342 166),
  (173, co [(vs "basename" 436), (vs "basename" 437), (vs fl 438), (.int 169 0), (.int 1 0), (.int 0 0), (.int 0 0), (.int 3 0), (.ref 168), (.bool true), (.int 181 0), (.ref 169), .none, (.ref 170), (.ref 171), (.ref 172), (.int 442 0), (.int 169 0), (vs fl 443)]),
  (174, fo 23 .none 23 444 "cpy313.posixpath" 342 173),
  (180, co [(vs "dirname" 446), (vs "dirname" 447), (vs fl 448), (.int 175 0), (.int 1 0), (.int 0 0), (.int 0 0), (.int 3 0), (.ref 175), (.bool true), (.int 181 0), (.ref 176), .none, (.ref 177), (.ref 178), (.ref 179), (.int 453 0), (.int 175 0), (vs fl 454)]),
  (181, fo 24 .none 24 455 "cpy313.posixpath" 342 180),
  (187, co [(vs "normpath" 457), (vs "normpath" 458), (vs fl 459), (.int 184 0), (.int 1 0), (.int 0 0), (.int 0 0), (.int 3 0), (.ref 182), (.bool true), (.int 181 0), (.ref 183), .none, (.ref 184), (.ref 185), (.ref 186), (.int 469 0), (.int 184 0), (vs fl 470)]),
  (188, fo 25 .none 25 471 "cpy313.posixpath" 342 187),
  (194, co [(vs "abspath" 473), (vs "abspath" 474), (vs fl 475), (.int 210 0), (.int 1 0), (.int 0 0), (.int 0 0), (.int 3 0), (.ref 189), (.bool true), (.int 181 0), (.ref 190), .none, (.ref 191), (.ref 192), (.ref 193), (.int 477 0), (.int 210 0), (vs fl 478)]),
  (195, fo 26 .none 26 479 "cpy313.posixpath" 342 194),
  (202, co [(vs "relpath" 481), (vs "relpath" 482), (vs fl 483), (.int 219 0), (.int 2 0), (.int 0 0), (.int 0 0), (.int 3 0), (.ref 197), (.bool true), (.int 181 0), (.ref 198), .none, (.ref 199), (.ref 200), (.ref 201), (.int 495 0), (.int 219 0), (vs fl 496)]),
  (203, fo 27 (.ref 196) 27 497 "cpy313.posixpath" 342 202),
  (207, co [(vs "commonpath" 499), (vs "commonpath" 500), (vs fl 501), (.int 249 0), (.int 1 0), (.int 0 0), (.int 0 0), (.int 3 0), (.ref 204), (.bool true), (.int 181 0), (.ref 205), .none, .none, .none, (.ref 206), (.int 502 0), (.int 249 0), (vs fl 503)]),
  (208, fo 28 .none 28 504 "cpy313.posixpath" 342 207),
  (214, co [(vs "_raise_serialization_error" 508), (vs "_raise_serialization_error" 509), (vs fl 510), (.int 280 0), (.int 1 0), (.int 0 0), (.int 0 0), (.int 3 0), (.ref 209), (.bool true), (.int 181 0), (.ref 210), .none, (.ref 211), (.ref 212), (.ref 213), (.int 512 0), (.int 280 0), (vs fl 513)]),
  (215, fo 30 .none 30 0 "cpy313.xml.etree.ElementTree" 506 214),
  (221, co [(vs "_escape_cdata" 515), (vs "_escape_cdata" 516), (vs fl 517), (.int 282 0), (.int 1 0), (.int 0 0), (.int 0 0), (.int 3 0), (.ref 216), (.bool true), (.int 181 0), (.ref 217), .none, (.ref 218), (.ref 219), (.ref 220), (.int 519 0), (.int 282 0), (vs fl 520)]),
  (222, fo 31 .none 31 0 "cpy313.xml.etree.ElementTree" 506 221),
  (228, co [(vs "_escape_attrib" 522), (vs "_escape_attrib" 523), (vs fl 524), (.int 293 0), (.int 1 0), (.int 0 0), (.int 0 0), (.int 3 0), (.ref 223), (.bool true), (.int 181 0), (.ref 224), .none, (.ref 225), (.ref 226), (.ref 227), (.int 526 0), (.int 293 0), (vs fl 527)]),
  (229, fo 32 .none 32 0 "cpy313.xml.etree.ElementTree" 506 228),
  (235, co [(vs "_escape_attrib_html" 529), (vs "_escape_attrib_html" 530), (vs fl 531), (.int 312 0), (.int 1 0), (.int 0 0), (.int 0 0), (.int 3 0), (.ref 230), (.bool true), (.int 181 0), (.ref 231), .none, (.ref 232), (.ref 233), (.ref 234), (.int 533 0), (.int 312 0), (vs fl 534)]),
  (236, fo 33 .none 33 0 "cpy313.xml.etree.ElementTree" 506 235),
  (242, co [(vs "_escape_cdata_c14n" 536), (vs "_escape_cdata_c14n" 537), (vs fl 538), (.int 323 0), (.int 1 0), (.int 0 0), (.int 0 0), (.int 3 0), (.ref 237), (.bool true), (.int 181 0), (.ref 238), .none, (.ref 239), (.ref 240), (.ref 241), (.int 540 0), (.int 323 0), (vs fl 541)]),
  (243, fo 34 .none 34 0 "cpy313.xml.etree.ElementTree" 506 242),
  (249, co [(vs "_escape_attrib_c14n" 543), (vs "_escape_attrib_c14n" 544), (vs fl 545), (.int 336 0), (.int 1 0), (.int 0 0), (.int 0 0), (.int 3 0), (.ref 244), (.bool true), (.int 181 0), (.ref 245), .none, (.ref 246), (.ref 247), (.ref 248), (.int 547 0), (.int 336 0), (vs fl 548)]),
  (250, fo 35 .none 35 0 "cpy313.xml.etree.ElementTree" 506 249),
  (256, co [(vs "_law_path" 552), (vs "_law_path" 553), (vs fl 554), (.int 354 0), (.int 1 0), (.int 0 0), (.int 0 0), (.int 3 0), (.ref 251), (.bool true), (.int 181 0), (.ref 252), .none, (.ref 253), (.ref 254), (.ref 255), (.int 557 0), (.int 354 0), (vs fl 558)]),
  (257, fo 37 .none 37 0 "law_mr0370_01" 550 256),
  (263, co [(vs "_law_write" 560), (vs "_law_write" 561), (vs fl 562), (.int 357 0), (.int 2 0), (.int 0 0), (.int 0 0), (.int 3 0), (.ref 258), (.bool true), (.int 181 0), (.ref 259), .none, (.ref 260), (.ref 261), (.ref 262), (.int 566 0), (.int 357 0), (vs fl 567)]),
  (264, fo 38 .none 38 0 "law_mr0370_01" 550 263),
  (268, co [(vs "_law_spelled" 569), (vs "_law_spelled" 570), (vs fl 571), (.int 370 0), (.int 2 0), (.int 0 0), (.int 0 0), (.int 3 0), (.ref 265), (.bool true), (.int 181 0), (.ref 266), .none, .none, .none, (.ref 267), (.int 572 0), (.int 370 0), (vs fl 573)]),
  (269, fo 39 .none 39 0 "law_mr0370_01" 550 268),
  (273, co [(vs "_law_front" 575), (vs "_law_front" 576), (vs fl 577), (.int 376 0), (.int 1 0), (.int 0 0), (.int 0 0), (.int 3 0), (.ref 270), (.bool true), (.int 181 0), (.ref 271), .none, .none, .none, (.ref 272), (.int 578 0), (.int 376 0), (vs fl 579)]),
  (274, fo 40 .none 40 0 "law_mr0370_01" 550 273),
  (280, co [(vs "_law_joined" 581), (vs "_law_joined" 582), (vs fl 583), (.int 381 0), (.int 2 0), (.int 0 0), (.int 0 0), (.int 3 0), (.ref 275), (.bool true), (.int 181 0), (.ref 276), .none, (.ref 277), (.ref 278), (.ref 279), (.int 587 0), (.int 381 0), (vs fl 588)]),
  (281, fo 41 .none 41 0 "law_mr0370_01" 550 280),
  (287, co [(vs "_law_parted" 590), (vs "_law_parted" 591), (vs fl 592), (.int 386 0), (.int 1 0), (.int 0 0), (.int 0 0), (.int 3 0), (.ref 282), (.bool true), (.int 181 0), (.ref 283), .none, (.ref 284), (.ref 285), (.ref 286), (.int 596 0), (.int 386 0), (vs fl 597)]),
  (288, fo 42 .none 42 0 "law_mr0370_01" 550 287),
  (294, co [(vs "_law_root" 599), (vs "_law_root" 600), (vs fl 601), (.int 394 0), (.int 1 0), (.int 0 0), (.int 0 0), (.int 3 0), (.ref 289), (.bool true), (.int 181 0), (.ref 290), .none, (.ref 291), (.ref 292), (.ref 293), (.int 604 0), (.int 394 0), (vs fl 605)]),
  (295, fo 43 .none 43 0 "law_mr0370_01" 550 294),
  (301, co [(vs "_law_walk" 607), (vs "_law_walk" 608), (vs fl 609), (.int 397 0), (.int 1 0), (.int 0 0), (.int 0 0), (.int 3 0), (.ref 296), (.bool true), (.int 181 0), (.ref 297), .none, (.ref 298), (.ref 299), (.ref 300), (.int 614 0), (.int 397 0), (vs fl 615)]),
  (302, fo 44 .none 44 0 "law_mr0370_01" 550 301),
  (308, co [(vs "_law_ending" 617), (vs "_law_ending" 618), (vs fl 619), (.int 408 0), (.int 1 0), (.int 0 0), (.int 0 0), (.int 3 0), (.ref 303), (.bool true), (.int 181 0), (.ref 304), .none, (.ref 305), (.ref 306), (.ref 307), (.int 622 0), (.int 408 0), (vs fl 623)]),
  (309, fo 45 .none 45 0 "law_mr0370_01" 550 308),
  (313, co [(vs "_law_common" 625), (vs "_law_common" 626), (vs fl 627), (.int 411 0), (.int 1 0), (.int 0 0), (.int 0 0), (.int 3 0), (.ref 310), (.bool true), (.int 181 0), (.ref 311), .none, .none, .none, (.ref 312), (.int 628 0), (.int 411 0), (vs fl 629)]),
  (314, fo 46 .none 46 0 "law_mr0370_01" 550 313),
  (320, co [(vs "_law_way" 631), (vs "_law_way" 632), (vs fl 633), (.int 416 0), (.int 2 0), (.int 0 0), (.int 0 0), (.int 3 0), (.ref 315), (.bool true), (.int 181 0), (.ref 316), .none, (.ref 317), (.ref 318), (.ref 319), (.int 639 0), (.int 416 0), (vs fl 640)]),
  (321, fo 47 .none 47 0 "law_mr0370_01" 550 320),
  (327, co [(vs "_law_told" 642), (vs "_law_told" 643), (vs fl 644), (.int 420 0), (.int 4 0), (.int 0 0), (.int 0 0), (.int 3 0), (.ref 322), (.bool true), (.int 181 0), (.ref 323), .none, (.ref 324), (.ref 325), (.ref 326), (.int 649 0), (.int 420 0), (vs fl 650)]),
  (328, fo 48 .none 48 0 "law_mr0370_01" 550 327),
  (334, co [(vs "_law_did" 652), (vs "_law_did" 653), (vs fl 654), (.int 438 0), (.int 4 0), (.int 0 0), (.int 0 0), (.int 3 0), (.ref 329), (.bool true), (.int 181 0), (.ref 330), .none, (.ref 331), (.ref 332), (.ref 333), (.int 664 0), (.int 438 0), (vs fl 665)]),
  (335, fo 49 .none 49 0 "law_mr0370_01" 550 334),
  (341, co [(vs "_law_kind" 667), (vs "_law_kind" 668), (vs fl 669), (.int 462 0), (.int 3 0), (.int 0 0), (.int 0 0), (.int 3 0), (.ref 336), (.bool true), (.int 181 0), (.ref 337), .none, (.ref 338), (.ref 339), (.ref 340), (.int 673 0), (.int 462 0), (vs fl 674)]),
  (342, fo 50 .none 50 0 "law_mr0370_01" 550 341),
  (346, co [(vs "_law_more" 676), (vs "_law_more" 677), (vs fl 678), (.int 468 0), (.int 3 0), (.int 0 0), (.int 0 0), (.int 3 0), (.ref 343), (.bool true), (.int 181 0), (.ref 344), .none, .none, .none, (.ref 345), (.int 679 0), (.int 468 0), (vs fl 680)]),
  (347, fo 51 .none 51 0 "law_mr0370_01" 550 346),
  (351, co [(vs "_law_led" 682), (vs "_law_led" 683), (vs fl 684), (.int 471 0), (.int 3 0), (.int 0 0), (.int 0 0), (.int 3 0), (.ref 348), (.bool true), (.int 181 0), (.ref 349), .none, .none, .none, (.ref 350), (.int 685 0), (.int 471 0), (vs fl 686)]),
  (352, fo 52 .none 52 0 "law_mr0370_01" 550 351),
  (358, co [(vs "_law_seen" 688), (vs "_law_seen" 689), (vs fl 690), (.int 486 0), (.int 3 0), (.int 0 0), (.int 0 0), (.int 3 0), (.ref 353), (.bool true), (.int 181 0), (.ref 354), .none, (.ref 355), (.ref 356), (.ref 357), (.int 696 0), (.int 486 0), (vs fl 697)]),
  (359, fo 53 .none 53 0 "law_mr0370_01" 550 358),
  (363, co [(vs "law" 699), (vs "law" 700), (vs fl 701), (.int 491 0), (.int 1 0), (.int 0 0), (.int 0 0), (.int 3 0), (.ref 360), (.bool true), (.int 181 0), (.ref 361), .none, .none, .none, (.ref 362), (.int 702 0), (.int 491 0), (vs fl 703)]),
  (364, fo 54 .none 54 0 "law_mr0370_01" 550 363),
  (196, { cls := .type "tuple", data := .seq #[.none] })]
noncomputable def fragAs : List Addr := [3, 100, 101, 107, 108, 114, 115, 121, 122, 128, 129, 135, 136, 142, 143, 149, 150, 156, 157, 166, 167, 173, 174, 180, 181, 187, 188, 194, 195, 202, 203, 207, 208, 214, 215, 221, 222, 228, 229, 235, 236, 242, 243, 249, 250, 256, 257, 263, 264, 268, 269, 273, 274, 280, 281, 287, 288, 294, 295, 301, 302, 308, 309, 313, 314, 320, 321, 327, 328, 334, 335, 341, 342, 346, 347, 351, 352, 358, 359, 363, 364, 196]
theorem frag_as (P : Params) : fragAs = (frag P).map (·.1) := by kernel_rfl
noncomputable def XtF (s : Shared) : Bool := xlAt vw [] s && recOk [] s
noncomputable def YfF (s : Shared) : List (Option Obj) := fragAs.map s.heap.get?
noncomputable def YaF (w : World) : List (Option Obj) := (frag w.params).map fun p => some p.2
noncomputable def hdS (i : Nat) : Option Stmt := PySem.Challenge.pw_mr0370_01.main.body[i]?
noncomputable def hdC (c j : Nat) : Option Stmt := match hdS c with
  | some (.ClassDef _ _ _ body ..) => body[j]?
  | _ => none
noncomputable def hdTu (vs : Array Value) : Obj := { cls := .type "tuple", data := .seq vs }
noncomputable def hdN (vs : Array Value) : Obj := { cls := .none, data := .fields vs }
noncomputable def hdH (s : Option Stmt) (q : Option String) : Obj := match s with
  | some (.FunctionDef name args body _ _ _ scope _ _ _) => { cls := .none, data := .func ⟨name, (match q with | some q => Str.ofString q | none => name), args, .stmts body, scope, builtinsNs, [], .none, .none, .none, .none, none, .none, .none, builtinsNs⟩ }
  | _ => default
noncomputable def hdF (s : Option Stmt) (q : Option String) (m c : Value) : Obj := match s with
  | some (.FunctionDef name args body _ _ _ scope _ _ _) => { cls := .type "function", data := .func ⟨name, (match q with | some q => Str.ofString q | none => name), args, .stmts body, scope, mainGlobals, [], .none, .none, .none, m, none, c, .none, builtinsNs⟩ }
  | _ => default
noncomputable def hdX (P : Params) (a : Nat) : Obj := match (frag P).find? (fun p => p.1 == a) with
  | some p => p.2
  | none => default
noncomputable def hdO (P : Params) : List Obj := [
  boot_o_0 P,
  boot_o_1 P,
  boot_o_2 P,
  hdX P 3,
  boot_o_4 P,
  boot_o_5 P,
  boot_o_6 P,
  boot_o_7 P,
  boot_o_8 P,
  boot_o_9 P,
  boot_o_10 P,
  hdTu #[],
  hdN #[(.int 1 0), (.int 0 0), (.ref 20), (.int 4 0), (.int 0 0), (.ref 27), (.int 13 0), (.int 0 0), (.ref 34), (.int 19 0), (.int 0 0), (.ref 41), (.int 24 0), (.int 0 0), (.ref 60), (.int 39 0), (.int 0 0), (.ref 93), (.int 43 0), (.int 0 0), (.ref 100), (.int 60 0), (.int 0 0), (.ref 107), (.int 72 0), (.int 0 0), (.ref 114), (.int 89 0), (.int 0 0), (.ref 121), (.int 101 0), (.int 0 0), (.ref 128), (.int 106 0), (.int 0 0), (.ref 135), (.int 111 0), (.int 0 0), (.ref 142), (.int 132 0), (.int 0 0), (.ref 149), (.int 142 0), (.int 0 0), (.ref 156), (.int 152 0), (.int 0 0), (.ref 166), (.int 169 0), (.int 0 0), (.ref 173), (.int 175 0), (.int 0 0), (.ref 180), (.int 184 0), (.int 0 0), (.ref 187), (.int 210 0), (.int 0 0), (.ref 194), (.int 219 0), (.int 0 0), (.ref 202), (.int 249 0), (.int 0 0), (.ref 207), (.int 280 0), (.int 0 0), (.ref 214), (.int 282 0), (.int 0 0), (.ref 221), (.int 293 0), (.int 0 0), (.ref 228), (.int 312 0), (.int 0 0), (.ref 235), (.int 323 0), (.int 0 0), (.ref 242), (.int 336 0), (.int 0 0), (.ref 249), (.int 354 0), (.int 0 0), (.ref 256), (.int 357 0), (.int 0 0), (.ref 263), (.int 370 0), (.int 0 0), (.ref 268), (.int 376 0), (.int 0 0), (.ref 273), (.int 381 0), (.int 0 0), (.ref 280), (.int 386 0), (.int 0 0), (.ref 287), (.int 394 0), (.int 0 0), (.ref 294), (.int 397 0), (.int 0 0), (.ref 301), (.int 408 0), (.int 0 0), (.ref 308), (.int 411 0), (.int 0 0), (.ref 313), (.int 416 0), (.int 0 0), (.ref 320), (.int 420 0), (.int 0 0), (.ref 327), (.int 438 0), (.int 0 0), (.ref 334), (.int 462 0), (.int 0 0), (.ref 341), (.int 468 0), (.int 0 0), (.ref 346), (.int 471 0), (.int 0 0), (.ref 351), (.int 486 0), (.int 0 0), (.ref 358), (.int 491 0), (.int 0 0), (.ref 363)],
  co [(vs "<module>" 182), (vs "<module>" 183), (vs fl 184), (.int 1 0), (.int 0 0), (.int 0 0), (.int 0 0), (.int 0 0), (.ref 11), (.bool false), (.int 181 0), (.ref 12), .none, .none, .none, .none, (.int 185 0), (.int 1 0), (vs fl 186)],
  ⟨(.type "frame"), none, .plain, #[some (.ref 13), some (.ref 3), some (.ref 3), none, some (vs "__main__" 164), none, some (.ref 0)]⟩,
  hdTu #[],
  hdN #[],
  hdTu #[(vs "k" 190)],
  hdTu #[],
  hdH (hdS 0) none,
  co [(vs "_wall" 187), (vs "_wall" 188), (vs fl 189), (.int 1 0), (.int 1 0), (.int 0 0), (.int 0 0), (.int 3 0), (.ref 15), (.bool true), (.int 181 0), (.ref 16), .none, (.ref 17), (.ref 18), (.ref 19), (.int 191 0), (.int 1 0), (vs fl 192)],
  hdF (hdS 0) none (vs "__main__" 164) (.ref 20),
  hdTu #[],
  hdN #[],
  hdTu #[(vs "x" 197), (vs "t" 198), (vs "f" 199)],
  hdTu #[],
  hdH (hdS 1) none,
  co [(vs "_pe_doc" 194), (vs "_pe_doc" 195), (vs fl 196), (.int 4 0), (.int 1 0), (.int 0 0), (.int 0 0), (.int 3 0), (.ref 22), (.bool true), (.int 181 0), (.ref 23), .none, (.ref 24), (.ref 25), (.ref 26), (.int 200 0), (.int 4 0), (vs fl 201)],
  hdF (hdS 1) none (vs "__main__" 164) (.ref 27),
  hdTu #[],
  hdN #[],
  hdTu #[(vs "x" 208), (vs "what" 209), (vs "kind" 210)],
  hdTu #[],
  hdH (hdS 3) none,
  co [(vs "_plain_name" 205), (vs "_plain_name" 206), (vs fl 207), (.int 13 0), (.int 2 0), (.int 0 0), (.int 0 0), (.int 3 0), (.ref 29), (.bool true), (.int 181 0), (.ref 30), .none, (.ref 31), (.ref 32), (.ref 33), (.int 211 0), (.int 13 0), (vs fl 212)],
  hdF (hdS 3) none (vs "os" 203) (.ref 34),
  hdTu #[(.type "type")],
  ⟨(.type "builtin_function_or_method"), none, (.fields #[(.builtin "type.__prepare__"), (.type "type")]), #[]⟩,
  ⟨(.type "dict"), none, (.dict #[en P (Str.ofString "__module__") 223 (vs "abc" 214), en P (Str.ofString "__qualname__") 225 (vs "ABCMeta" 224), en P (Str.ofString "__firstlineno__") 227 (.int 19 226), en P (Str.ofString "register") 235 (.ref 49), en P (Str.ofString "__static_attributes__") 236 (.ref 50)] 5), #[]⟩,
  hdTu #[],
  hdN #[(.int 21 0), (.int 4 0), (.ref 48)],
  co [(vs "ABCMeta" 218), (vs "ABCMeta" 219), (vs fl 220), (.int 19 0), (.int 0 0), (.int 0 0), (.int 0 0), (.int 0 0), (.ref 39), (.bool false), (.int 181 0), (.ref 40), .none, .none, .none, .none, (.int 221 0), (.int 19 0), (vs fl 222)],
  ⟨(.type "frame"), none, .plain, #[some (.ref 41), some (.ref 3), some (.ref 38), none, some (vs "abc" 214), none, some (.ref 0)]⟩,
  hdTu #[],
  hdN #[],
  hdTu #[(vs "cls" 231), (vs "subclass" 232)],
  hdTu #[],
  hdH (hdC 5 0) (some "ABCMeta.register"),
  co [(vs "register" 228), (vs "ABCMeta.register" 229), (vs fl 230), (.int 21 0), (.int 2 0), (.int 0 0), (.int 0 0), (.int 3 0), (.ref 43), (.bool true), (.int 181 0), (.ref 44), .none, (.ref 45), (.ref 46), (.ref 47), (.int 233 0), (.int 21 0), (vs fl 234)],
  hdF (hdC 5 0) (some "ABCMeta.register") (vs "abc" 214) (.ref 48),
  hdTu #[],
  ⟨(.type "dict"), none, (.dict #[en P (Str.ofString "__module__") 223 (vs "abc" 214), en P (Str.ofString "__firstlineno__") 227 (.int 19 226), en P (Str.ofString "register") 235 (.ref 49), en P (Str.ofString "__static_attributes__") 236 (.ref 50), en P (Str.ofString "__doc__") 237 .none] 2), #[]⟩,
  ⟨(.type "type"), none, (.cls ⟨(Str.ofString "ABCMeta"), [(.type "type")], [(.ref 52), (.type "type"), (.type "object")], 51, (Str.ofString "ABCMeta"), true, [], [(.ref 85)], false, none, false⟩), #[some (.ref 36), none, some (vs "ABCMeta" 216), some (vs "ABCMeta" 224), some (.builtin "type.__new__"), some (.bool true)]⟩,
  ⟨(.type "super"), none, (.fields #[(.ref 52), (.ref 52), (.ref 52)]), #[]⟩,
  ⟨(.type "builtin_function_or_method"), none, (.fields #[(.builtin "object.__init_subclass__"), (.ref 52)]), #[]⟩,
  hdTu #[(.ref 52)],
  ⟨(.type "builtin_function_or_method"), none, (.fields #[(.builtin "type.__prepare__"), (.type "type")]), #[]⟩,
  ⟨(.type "dict"), none, (.dict #[en P (Str.ofString "__module__") 249 (vs "collections.abc" 240), en P (Str.ofString "__qualname__") 251 (vs "_ABCLike" 250), en P (Str.ofString "__firstlineno__") 253 (.int 24 252), en P (Str.ofString "__instancecheck__") 262 (.ref 68), en P (Str.ofString "__subclasscheck__") 270 (.ref 75), en P (Str.ofString "register") 278 (.ref 82), en P (Str.ofString "__static_attributes__") 279 (.ref 83)] 7), #[]⟩,
  hdTu #[],
  hdN #[(.int 26 0), (.int 4 0), (.ref 67), (.int 32 0), (.int 4 0), (.ref 74), (.int 37 0), (.int 4 0), (.ref 81)],
  co [(vs "_ABCLike" 244), (vs "_ABCLike" 245), (vs fl 246), (.int 24 0), (.int 0 0), (.int 0 0), (.int 0 0), (.int 0 0), (.ref 58), (.bool false), (.int 181 0), (.ref 59), .none, .none, .none, .none, (.int 247 0), (.int 24 0), (vs fl 248)],
  ⟨(.type "frame"), none, .plain, #[some (.ref 60), some (.ref 3), some (.ref 57), none, some (vs "collections.abc" 240), none, some (.ref 0)]⟩,
  hdTu #[],
  hdN #[],
  hdTu #[(vs "cls" 257), (.str ⟨⟨[105, 110, 115, 116, 97, 110, 99, 101]⟩⟩ 258), (vs "C" 259)],
  hdTu #[],
  hdH (hdC 7 0) (some "_ABCLike.__instancecheck__"),
  co [(vs "__instancecheck__" 254), (vs "_ABCLike.__instancecheck__" 255), (vs fl 256), (.int 26 0), (.int 2 0), (.int 0 0), (.int 0 0), (.int 3 0), (.ref 62), (.bool true), (.int 181 0), (.ref 63), .none, (.ref 64), (.ref 65), (.ref 66), (.int 260 0), (.int 26 0), (vs fl 261)],
  hdF (hdC 7 0) (some "_ABCLike.__instancecheck__") (vs "collections.abc" 240) (.ref 67),
  hdTu #[],
  hdN #[],
  hdTu #[(vs "cls" 266), (vs "C" 267)],
  hdTu #[],
  hdH (hdC 7 1) (some "_ABCLike.__subclasscheck__"),
  co [(vs "__subclasscheck__" 263), (vs "_ABCLike.__subclasscheck__" 264), (vs fl 265), (.int 32 0), (.int 2 0), (.int 0 0), (.int 0 0), (.int 3 0), (.ref 69), (.bool true), (.int 181 0), (.ref 70), .none, (.ref 71), (.ref 72), (.ref 73), (.int 268 0), (.int 32 0), (vs fl 269)],
  hdF (hdC 7 1) (some "_ABCLike.__subclasscheck__") (vs "collections.abc" 240) (.ref 74),
  hdTu #[],
  hdN #[],
  hdTu #[(vs "cls" 274), (vs "subclass" 275)],
  hdTu #[],
  hdH (hdC 7 2) (some "_ABCLike.register"),
  co [(vs "register" 271), (vs "_ABCLike.register" 272), (vs fl 273), (.int 37 0), (.int 2 0), (.int 0 0), (.int 0 0), (.int 3 0), (.ref 76), (.bool true), (.int 181 0), (.ref 77), .none, (.ref 78), (.ref 79), (.ref 80), (.int 276 0), (.int 37 0), (vs fl 277)],
  hdF (hdC 7 2) (some "_ABCLike.register") (vs "collections.abc" 240) (.ref 81),
  hdTu #[],
  ⟨(.type "dict"), none, (.dict #[en P (Str.ofString "__module__") 249 (vs "collections.abc" 240), en P (Str.ofString "__firstlineno__") 253 (.int 24 252), en P (Str.ofString "__instancecheck__") 262 (.ref 68), en P (Str.ofString "__subclasscheck__") 270 (.ref 75), en P (Str.ofString "register") 278 (.ref 82), en P (Str.ofString "__static_attributes__") 279 (.ref 83), en P (Str.ofString "__doc__") 280 .none] 2), #[]⟩,
  ⟨(.type "type"), none, (.cls ⟨(Str.ofString "_ABCLike"), [(.ref 52)], [(.ref 85), (.ref 52), (.type "type"), (.type "object")], 84, (Str.ofString "_ABCLike"), true, [], [], false, none, false⟩), #[some (.ref 55), none, some (vs "_ABCLike" 242), some (vs "_ABCLike" 250), some (.builtin "type.__new__"), some (.bool true)]⟩,
  ⟨(.type "super"), none, (.fields #[(.ref 85), (.ref 85), (.ref 85)]), #[]⟩,
  ⟨(.type "builtin_function_or_method"), none, (.fields #[(.builtin "object.__init_subclass__"), (.ref 85)]), #[]⟩,
  hdTu #[],
  hdN #[],
  hdTu #[(vs "C" 286)],
  hdTu #[],
  hdH (hdS 8) none,
  co [(vs "_abc_plain_meta" 283), (vs "_abc_plain_meta" 284), (vs fl 285), (.int 39 0), (.int 1 0), (.int 0 0), (.int 0 0), (.int 3 0), (.ref 88), (.bool true), (.int 181 0), (.ref 89), .none, (.ref 90), (.ref 91), (.ref 92), (.int 287 0), (.int 39 0), (vs fl 288)],
  hdF (hdS 8) none (vs "collections.abc" 240) (.ref 93),
  hdTu #[],
  hdN #[],
  hdTu #[(vs "path" 295), (vs "kind" 296), (vs "hook" 297), (vs "given" 298)],
  hdTu #[],
  hdH (hdS 10) none,
  hdX P 100,
  hdX P 101,
  hdTu #[],
  hdN #[],
  hdTu #[(vs "m" 307), (vs "s1" 308), (vs "s2" 309), (vs "i" 310), (vs "c" 311)],
  hdTu #[],
  hdH (hdS 12) none,
  hdX P 107,
  hdX P 108,
  hdTu #[],
  hdN #[],
  hdTu #[(vs "p" 319), (vs "sep" 320), (vs "altsep" 321), (vs "extsep" 322), (vs "sepIndex" 323), (vs "altsepIndex" 324), (vs "dotIndex" 325), (vs "filenameIndex" 326)],
  hdTu #[],
  hdH (hdS 13) none,
  hdX P 114,
  hdX P 115,
  hdTu #[],
  hdN #[],
  hdTu #[(vs "funcname" 334), (vs "args" 335), (vs "hasstr" 336), (vs "hasbytes" 337), (vs "s" 338)],
  hdTu #[],
  hdH (hdS 14) none,
  hdX P 121,
  hdX P 122,
  hdTu #[],
  hdN #[],
  hdTu #[(vs "path" 347)],
  hdTu #[],
  hdH (hdS 16) none,
  hdX P 128,
  hdX P 129,
  hdTu #[],
  hdN #[],
  hdTu #[(vs "s" 354), (vs "sep" 355)],
  hdTu #[],
  hdH (hdS 17) none,
  hdX P 135,
  hdX P 136,
  hdTu #[],
  hdN #[],
  hdTu #[(vs "a" 363), (vs "p" 364), (vs "sep" 365), (vs "path" 366), (vs "b" 367)],
  hdTu #[],
  hdH (hdS 18) none,
  hdX P 142,
  hdX P 143,
  hdTu #[],
  hdN #[],
  hdTu #[(vs "p" 375), (vs "sep" 376), (vs "i" 377), (vs "head" 378), (vs "tail" 379)],
  hdTu #[],
  hdH (hdS 19) none,
  hdX P 149,
  hdX P 150,
  hdTu #[],
  hdN #[],
  hdTu #[(vs "p" 387), (vs "sep" 388), (vs "extsep" 389)],
  hdTu #[],
  hdH (hdS 20) none,
  hdX P 156,
  hdX P 157,
  ⟨(.type "frame"), none, (.dict #[en P (Str.ofString "x") 393 (.ref 115), en P (Str.ofString "t") 395 (.type "function"), en P (Str.ofString "f") 407 (.ref 115)] 3), #[]⟩,
  hdTu #[(vs "abc" 398), (vs "collections.abc" 399), (vs "os" 400)],
  hdTu #[(vs "abc" 415), (vs "collections.abc" 416), (vs "os" 417)],
  hdTu #[],
  hdN #[],
  hdTu #[(vs "p" 429), (vs "sep" 430), (vs "empty" 431)],
  hdTu #[],
  hdH (hdS 22) none,
  hdX P 166,
  hdX P 167,
  hdTu #[],
  hdN #[],
  hdTu #[(vs "p" 439), (vs "sep" 440), (vs "i" 441)],
  hdTu #[],
  hdH (hdS 23) none,
  hdX P 173,
  hdX P 174,
  hdTu #[],
  hdN #[],
  hdTu #[(vs "p" 449), (vs "sep" 450), (vs "i" 451), (vs "head" 452)],
  hdTu #[],
  hdH (hdS 24) none,
  hdX P 180,
  hdX P 181,
  hdTu #[],
  hdN #[],
  hdTu #[(vs "path" 460), (vs "sep" 461), (vs "dot" 462), (vs "dotdot" 463), (vs "_" 464), (vs "initial_slashes" 465), (vs "comps" 466), (vs "new_comps" 467), (vs "comp" 468)],
  hdTu #[],
  hdH (hdS 25) none,
  hdX P 187,
  hdX P 188,
  hdTu #[],
  hdN #[],
  hdTu #[(vs "path" 476)],
  hdTu #[],
  hdH (hdS 26) none,
  hdX P 194,
  hdX P 195,
  hdX P 196,
  hdTu #[],
  hdN #[],
  hdTu #[(vs "path" 484), (vs "start" 485), (vs "curdir" 486), (vs "sep" 487), (vs "pardir" 488), (vs "start_tail" 489), (vs "path_tail" 490), (vs "start_list" 491), (vs "path_list" 492), (vs "i" 493), (vs "rel_list" 494)],
  hdTu #[],
  hdH (hdS 27) none,
  hdX P 202,
  hdX P 203,
  hdTu #[],
  hdN #[],
  hdH (hdS 28) none,
  hdX P 207,
  hdX P 208,
  hdTu #[],
  hdN #[],
  hdTu #[(vs "text" 511)],
  hdTu #[],
  hdH (hdS 30) none,
  hdX P 214,
  hdX P 215,
  hdTu #[],
  hdN #[],
  hdTu #[(vs "text" 518)],
  hdTu #[],
  hdH (hdS 31) none,
  hdX P 221,
  hdX P 222,
  hdTu #[],
  hdN #[],
  hdTu #[(vs "text" 525)],
  hdTu #[],
  hdH (hdS 32) none,
  hdX P 228,
  hdX P 229,
  hdTu #[],
  hdN #[],
  hdTu #[(vs "text" 532)],
  hdTu #[],
  hdH (hdS 33) none,
  hdX P 235,
  hdX P 236,
  hdTu #[],
  hdN #[],
  hdTu #[(vs "text" 539)],
  hdTu #[],
  hdH (hdS 34) none,
  hdX P 242,
  hdX P 243,
  hdTu #[],
  hdN #[],
  hdTu #[(vs "text" 546)],
  hdTu #[],
  hdH (hdS 35) none,
  hdX P 249,
  hdX P 250,
  hdTu #[],
  hdN #[],
  hdTu #[(vs "q" 555), (vs "marks" 556)],
  hdTu #[],
  hdH (hdS 37) none,
  hdX P 256,
  hdX P 257,
  hdTu #[],
  hdN #[],
  hdTu #[(vs "text" 563), (vs "hands" 564), (vs "hand" 565)],
  hdTu #[],
  hdH (hdS 38) none,
  hdX P 263,
  hdX P 264,
  hdTu #[],
  hdN #[],
  hdH (hdS 39) none,
  hdX P 268,
  hdX P 269,
  hdTu #[],
  hdN #[],
  hdH (hdS 40) none,
  hdX P 273,
  hdX P 274,
  hdTu #[],
  hdN #[],
  hdTu #[(vs "one" 584), (vs "two" 585), (vs "pieces" 586)],
  hdTu #[],
  hdH (hdS 41) none,
  hdX P 280,
  hdX P 281,
  hdTu #[],
  hdN #[],
  hdTu #[(vs "text" 593), (vs "pieces" 594), (vs "front" 595)],
  hdTu #[],
  hdH (hdS 42) none,
  hdX P 287,
  hdX P 288,
  hdTu #[],
  hdN #[],
  hdTu #[(vs "text" 602), (vs "slashes" 603)],
  hdTu #[],
  hdH (hdS 43) none,
  hdX P 294,
  hdX P 295,
  hdTu #[],
  hdN #[],
  hdTu #[(vs "text" 610), (vs "ups" 611), (vs "names" 612), (vs "piece" 613)],
  hdTu #[],
  hdH (hdS 44) none,
  hdX P 301,
  hdX P 302,
  hdTu #[],
  hdN #[],
  hdTu #[(vs "text" 620), (vs "name" 621)],
  hdTu #[],
  hdH (hdS 45) none,
  hdX P 308,
  hdX P 309,
  hdTu #[],
  hdN #[],
  hdH (hdS 46) none,
  hdX P 313,
  hdX P 314,
  hdTu #[],
  hdN #[],
  hdTu #[(vs "one" 634), (vs "two" 635), (vs "goal" 636), (vs "start" 637), (vs "shared" 638)],
  hdTu #[],
  hdH (hdS 47) none,
  hdX P 320,
  hdX P 321,
  hdTu #[],
  hdN #[],
  hdTu #[(vs "kind" 645), (vs "one" 646), (vs "two" 647), (vs "last" 648)],
  hdTu #[],
  hdH (hdS 48) none,
  hdX P 327,
  hdX P 328,
  hdTu #[],
  hdN #[],
  hdTu #[(vs "kind" 655), (vs "one" 656), (vs "two" 657), (vs "last" 658), (vs "stem" 659), (vs "ending" 660), (vs "drive" 661), (vs "root" 662), (vs "rest" 663)],
  hdTu #[],
  hdH (hdS 49) none,
  hdX P 334,
  hdX P 335,
  hdTu #[],
  hdN #[],
  hdTu #[(vs "kind" 670), (vs "one" 671), (vs "two" 672)],
  hdTu #[],
  hdH (hdS 50) none,
  hdX P 341,
  hdX P 342,
  hdTu #[],
  hdN #[],
  hdH (hdS 51) none,
  hdX P 346,
  hdX P 347,
  hdTu #[],
  hdN #[],
  hdH (hdS 52) none,
  hdX P 351,
  hdX P 352,
  hdTu #[],
  hdN #[],
  hdTu #[(vs "path" 691), (vs "text" 692), (vs "hands" 693), (vs "head" 694), (vs "tail" 695)],
  hdTu #[],
  hdH (hdS 53) none,
  hdX P 358,
  hdX P 359,
  hdTu #[],
  hdN #[],
  hdH (hdS 54) none,
  hdX P 363,
  hdX P 364]
noncomputable def hdE (P : Params) : Heap := { objs := Array.mk (hdO P) }
theorem hdRunF (w : World) : (openEnds treeTable PySem.Challenge.pw_mr0370_01 (w.withFollow "special-get-raises" false) 4652).map (fun s => (s.heap, s.gens)) = some (hdE (w.withFollow "special-get-raises" false).params, Array.mk []) := by
  unfold openEnds fencedOpening topFrom
  (try rw [PySem.W.Fast.te10274390034422433532])
  (try rw [PySem.W.Fast.te14289696077712309145])
  (try rw [PySem.W.Fast.te14082659384304107361])
  (try rw [PySem.W.Fast.te4187177175401517315])
  (try rw [PySem.W.Fast.te14364793385576792824])
  (try rw [PySem.W.Fast.te1435165496053646825])
  kernel_rfl
theorem hdRunT (w : World) : (openEnds treeTable PySem.Challenge.pw_mr0370_01 (w.withFollow "special-get-raises" true) 4652).map (fun s => (s.heap, s.gens)) = some (hdE (w.withFollow "special-get-raises" true).params, Array.mk []) := by
  unfold openEnds fencedOpening topFrom
  (try rw [PySem.W.Fast.te10274390034422433532])
  (try rw [PySem.W.Fast.te14289696077712309145])
  (try rw [PySem.W.Fast.te14082659384304107361])
  (try rw [PySem.W.Fast.te4187177175401517315])
  (try rw [PySem.W.Fast.te14364793385576792824])
  (try rw [PySem.W.Fast.te1435165496053646825])
  kernel_rfl
theorem hdRun (w : World) : (openEnds treeTable PySem.Challenge.pw_mr0370_01 w 4652).map (fun s => (s.heap, s.gens)) = some (hdE w.params, Array.mk []) :=
  byRow2 "special-get-raises" (P := fun w => (openEnds treeTable PySem.Challenge.pw_mr0370_01 w 4652).map (fun s => (s.heap, s.gens)) = some (hdE w.params, Array.mk [])) hdRunF hdRunT w
theorem hdSeen (w : World) (d : Drawn) (t : Nat) (o : OsState) : openSeen vw [Str.ofString "relpath"] (importedModules PySem.Challenge.pw_mr0370_01.main.body) XtF true ⟨hdE w.params, Array.mk [], d, t, o⟩ = openGood vw [Str.ofString "relpath"] := by
  (try rw [PySem.W.Fast.te10274390034422433532])
  (try rw [PySem.W.Fast.te14289696077712309145])
  (try rw [PySem.W.Fast.te14082659384304107361])
  (try rw [PySem.W.Fast.te4187177175401517315])
  (try rw [PySem.W.Fast.te14364793385576792824])
  (try rw [PySem.W.Fast.te1435165496053646825])
  kernel_rfl
theorem hdHeap (w : World) (d : Drawn) (t : Nat) (o : OsState) : YfF ⟨hdE w.params, Array.mk [], d, t, o⟩ = YaF w := by kernel_rfl
theorem hdLeft {α : Type} {F : Shared → α} {a : α} {H : Heap} : ∀ {r : Option Shared}, r.map (fun s => (s.heap, s.gens)) = some (H, Array.mk []) → (∀ d t o, F ⟨H, Array.mk [], d, t, o⟩ = a) → r.map F = some a
  | none, h, _ => by cases h
  | some ⟨h1, g1, d, t, o⟩, h, k => by
    injection h with h; injection h with e1 e2
    subst e1; subst e2
    exact congrArg some (k d t o)
theorem left_ : LeftO PySem.Challenge.pw_mr0370_01 vw [Str.ofString "relpath"] XtF YfF YaF 4652 := fun w => hdLeft (hdRun w) fun d t o => looks_pair (hdSeen w d t o) (hdHeap w d t o)
theorem saidN : noRoadLSs { strict := false, foot := none, bare := [] } PySem.Challenge.rw_mr0370_01.row.prog.main.body = true := by
  rw [PySem.W.Fast.te8326940854005059898]; kernel_rfl
theorem roadOf {b : List Stmt} : ∀ {r r0}, r = r0 → noRoadLSs r0 b = true → noRoadLSs r b = true
  | _, _, rfl, h => h
theorem saidB : (["vars", "dir", "locals"] : List Str).filter (readsOut PySem.Challenge.rw_mr0370_01.row.prog PySem.Challenge.rw_mr0370_01.row.prog.main.body) = [] := by
  rw [PySem.W.Fast.te13343964577679436407]; kernel_rfl
theorem roadB {s : Bool} {l : List Str} : ∀ {f : Str → Bool}, s = false → l.filter f = [] → ({ strict := s, foot := none, bare := l.filter f } : Look) = { strict := false, foot := none, bare := [] } := fun a b => by rw [a, b]
theorem saidA : looksOpen PySem.Challenge.rw_mr0370_01.row.prog = true := by
  unfold looksOpen
  refine look_both (look_both ?_ (roadOf ?_ saidN)) ?_
  · rw [PySem.W.Fast.te11788848310118352699, PySem.W.Fast.te8377067652309620493, PySem.W.Fast.te18344453789297297638]
    (try rw [PySem.W.Fast.te9807087744658564304])
    (try rw [PySem.W.Fast.te12862048085361865435])
    kernel_rfl
  · exact roadB (by kernel_rfl) saidB
  · rw [PySem.W.Fast.te17119622794617984870]
    kernel_rfl
theorem saidR : PySem.Challenge.rw_mr0370_01.row.wellSaid = true := by
  unfold OpenRow.wellSaid OpenRow.partSaid
  rw [saidA]
  kernel_rfl
theorem said_ : PySem.Challenge.rw_mr0370_01.wellSaid = true := by
  rw [PySem.W.Fast.te9446332074065402090]
  delta PySem.W.Fast.tw9446332074065402090
  rw [← PySem.W.Fast.te17960256430627541270, ← PySem.W.Fast.te2368527892694137696]
  rw [saidR]
  kernel_rfl
theorem promised_ : (OpenRow.toRowW (OpenLaw.row PySem.Challenge.rw_mr0370_01)).promised := by w_witness2
end Mine
end
section
open PySem PySem.W PyProof.Rows PySem.Calls
set_option Elab.async false
set_option linter.unusedVariables false
namespace Mine
theorem runs_sz {M : Model} {Γ : Ctx} {p : Pos} {t : Sem Fin} {fs : List Frame} {s s' : Shared} {e : End} (h : Runs M Γ p t fs s e s') : s.heap.objs.size ≤ s'.heap.objs.size := by
  induction h <;> (try simp only [Shared.setGen, Heap.size_push, Heap.size_after_update] at *) <;> omega
theorem wakes_sz {M : Model} {Γ : Ctx} {p : Pos} {g : Nat} {r : Resume} {s s' : Shared} {res : GenResult} (h : Wakes M Γ p g r s res s') : s.heap.objs.size ≤ s'.heap.objs.size := by
  unfold Wakes at h
  repeat' split at h
  all_goals first | exact h.elim | exact h.2 ▸ Nat.le_refl _ | (rcases h with ⟨_, s₁, q, _, _, e⟩; have : (s.setGen g .running).heap.objs.size ≤ s₁.heap.objs.size := runs_sz q; rw [e]; exact this)
theorem wp_sz' {α : Type} (M : Model) (Γ : Ctx) (n : Nat) (t : Sem α) : ∀ (Q : α → Pos → Shared → Prop) (E : Value → Pos → Shared → Prop) (p : Pos) (s : Shared), n ≤ s.heap.objs.size → Sem.wp M Γ t Q E p s →
    Sem.wp M Γ t (fun a p' s' => n ≤ s'.heap.objs.size ∧ Q a p' s') (fun e p' s' => n ≤ s'.heap.objs.size ∧ E e p' s') p s := by
  induction t <;> intro Q E p s hn h
  case call ih => exact h.imp fun r h => h.imp fun s' h => ⟨h.1, ih r Q E p s' (Nat.le_trans hn (runs_sz h.1)) h.2⟩
  case resume ih => exact h.imp fun r h => h.imp fun s' h => ⟨h.1, ih r Q E p s' (Nat.le_trans hn (wakes_sz h.1)) h.2⟩
  case alloc ih => exact ih _ Q E p _ (by rw [Heap.size_push]; omega) h
  case update ih => exact h.imp_right (ih _ Q E p _ (by rwa [Heap.size_after_update]))
  case load ih => exact h.imp fun o h => h.imp_right (ih o Q E p s hn)
  case genState ih => exact h.imp fun o h => h.imp_right (ih _ Q E p s hn)
  case choose ih => exact h.imp_right (ih _ Q E p _ hn)
  all_goals first | exact ⟨hn, h⟩ | exact h | (rename_i ih; exact ih _ Q E _ _ hn h)
/-- the heap's growth comes of itself -/
theorem wp_sz {α : Type} {M : Model} {A : Around} {t : Sem α} {Q : α → Shared → Prop} {E : Value → Shared → Prop} {s : Shared} (h : wpAny M A t (fun v s' => s.heap.objs.size ≤ s'.heap.objs.size → Q v s') (fun e s' => s.heap.objs.size ≤ s'.heap.objs.size → E e s') s) : wpAny M A t Q E s := by
  have h' : wpAny M A t (fun v s' => s.heap.objs.size ≤ s'.heap.objs.size ∧ (s.heap.objs.size ≤ s'.heap.objs.size → Q v s')) (fun e s' => s.heap.objs.size ≤ s'.heap.objs.size ∧ (s.heap.objs.size ≤ s'.heap.objs.size → E e s')) s :=
    fun Γ p hΓ => wp_sz' M Γ s.heap.objs.size t _ _ p s (Nat.le_refl _) (h Γ p hΓ)
  exact wpAny_mono h' (fun _ _ q => q.2 q.1) fun _ _ q => q.2 q.1
end Mine
end
section
open PySem PySem.W PyProof.Rows PySem.Calls
set_option Elab.async false
set_option linter.unusedVariables false
namespace Mine
/-- some of a kind, and many facts at once: one case each -/
inductive Pk3 {α β γ : Type} (P : α → β → γ → Prop) : Prop
  | mk (a : α) (b : β) (c : γ) (h : P a b c)
inductive Pk6 {α β γ δ ε ζ : Type} (P : α → β → γ → δ → ε → ζ → Prop) : Prop
  | mk (a : α) (b : β) (c : γ) (d : δ) (e : ε) (f : ζ) (h : P a b c d e f)
inductive Pk7 {α β γ δ ε ζ η : Type} (P : α → β → γ → δ → ε → ζ → η → Prop) : Prop
  | mk (a : α) (b : β) (c : γ) (d : δ) (e : ε) (f : ζ) (g : η) (h : P a b c d e f g)
inductive Pk11 {α β γ δ ε ζ η θ ι κ μ : Type} (P : α → β → γ → δ → ε → ζ → η → θ → ι → κ → μ → Prop) : Prop
  | mk (a : α) (b : β) (c : γ) (d : δ) (e : ε) (f : ζ) (g : η) (i : θ) (j : ι) (k : κ) (l : μ) (h : P a b c d e f g i j k l)
inductive C10 (a b c d e f g i j k : Prop) : Prop
  | mk (h1 : a) (h2 : b) (h3 : c) (h4 : d) (h5 : e) (h6 : f) (h7 : g) (h8 : i) (h9 : j) (h10 : k)
inductive C6 (a b c d e f : Prop) : Prop
  | mk (h1 : a) (h2 : b) (h3 : c) (h4 : d) (h5 : e) (h6 : f)
inductive C7 (a b c d e f g : Prop) : Prop
  | mk (h1 : a) (h2 : b) (h3 : c) (h4 : d) (h5 : e) (h6 : f) (h7 : g)
inductive C11 (a b c d e f g i j k l : Prop) : Prop
  | mk (h1 : a) (h2 : b) (h3 : c) (h4 : d) (h5 : e) (h6 : f) (h7 : g) (h8 : i) (h9 : j) (h10 : k) (h11 : l)
inductive C12 (a b c d e f g i j k l m : Prop) : Prop
  | mk (h1 : a) (h2 : b) (h3 : c) (h4 : d) (h5 : e) (h6 : f) (h7 : g) (h8 : i) (h9 : j) (h10 : k) (h11 : l) (h12 : m)

/-- below it: the program's own objects -/
noncomputable def cut : Nat := 365
/-- every object stays, but that a frame's dict may come to hold its frame -/
noncomputable def Near (h h' : Heap) : Prop := ∀ b o, h.get? b = some o → ∃ sl, h'.get? b = some { o with slots := sl } ∧ ((b < cut ∨ ∀ es n, o.data ≠ .dict es n) → sl = o.slots)
theorem Near.of {h h' : Heap} (k : h.StaysIn h') : Near h h' := fun b o e => ⟨o.slots, k b o e, fun _ => rfl⟩
theorem Near.refl (h : Heap) : Near h h := .of fun _ _ e => e
theorem Near.trans {h h' h'' : Heap} (x : Near h h') (y : Near h' h'') : Near h h'' := fun b o e => by
  obtain ⟨sl, e1, k1⟩ := x b o e
  obtain ⟨sl', e2, k2⟩ := y b _ e1
  exact ⟨sl', e2, fun q => (k2 q).trans (k1 q)⟩
theorem Near.at_ {h h' : Heap} (x : Near h h') {b : Addr} {o : Obj} (e : h.get? b = some o) (hd : ∀ es n, o.data ≠ .dict es n) : h'.get? b = some o := by
  obtain ⟨sl, e1, k1⟩ := x b o e
  rw [e1, k1 (.inr hd)]
theorem Near.seq {h h' : Heap} (x : Near h h') {a : Addr} {c : Value} {its : Array Value} {n : Nat} (e : h.get? a = some { cls := c, data := .seq its n }) : h'.get? a = some { cls := c, data := .seq its n } := x.at_ e (fun es n q => by cases q)
theorem Near.low {h h' : Heap} (x : Near h h') {b : Addr} {o : Obj} (hb : b < cut) (e : h.get? b = some o) : h'.get? b = some o := by
  obtain ⟨sl, e1, k1⟩ := x b o e
  rw [e1, k1 (.inl hb)]
theorem Near.ns {h h' : Heap} (x : Near h h') {a : Addr} {m : Str → Option Value} (e : h.Ns a m) : h'.Ns a m := by
  obtain ⟨o, es, ep, h1, h2, r⟩ := e
  obtain ⟨sl, e1, _⟩ := x a o h1
  exact ⟨_, es, ep, e1, h2, r⟩

set_option genInjectivity false in
/-- what stays the same all along -/
structure Base where
  prog : Program
  w : World
  K : Frag
  view : Program
  loose : List Str
  mg : Str → Option Value
  mb : Str → Option Value
  low : ∀ a o, K.lookup a = some o → a < cut

structure Tp (B : Base) (h : Heap) : Prop where
  K : B.K.In h
  T : TopRead B.view B.loose B.mg B.mb h
  big : cut ≤ h.objs.size

theorem Tp.keeps {B : Base} {h h' : Heap} (x : Tp B h) (k : Near h h') (hs : h.objs.size ≤ h'.objs.size) : Tp B h' :=
  ⟨fun a o e => k.low (B.low a o e) (x.K a o e), ⟨k.ns x.T.g, k.ns x.T.b, by
    obtain ⟨mc, h1, h2⟩ := x.T.nolimit
    exact ⟨mc, k.ns h1, h2⟩, x.T.builtins, x.T.free⟩, Nat.le_trans x.big hs⟩

/-- abstract values -/
inductive AV where
  | none
  | bool (b : Bool)
  | int (i : Int)
  | str (x : List Nat)
  | raw (v : Value)
  | list (xs : List AV)
  | tup (xs : List AV)
  | dict (es : List (List Nat × List Nat))

noncomputable abbrev View := Addr → Option Obj
noncomputable def View.le (G G' : View) : Prop := ∀ a o, G a = some o → G' a = some o
noncomputable def View.on (G : View) (h : Heap) : Prop := ∀ a o, G a = some o → h.get? a = some o
theorem View.le_refl (G : View) : G.le G := fun _ _ e => e
theorem View.le_trans {G G' G'' : View} (x : G.le G') (y : G'.le G'') : G.le G'' := fun a o e => y a o (x a o e)
noncomputable def View.add (G : View) (a : Addr) (o : Obj) : View := fun b => if b = a then some o else G b
theorem View.add_self (G : View) (a : Addr) (o : Obj) : (G.add a o) a = some o := if_pos rfl
theorem View.add_ne (G : View) {a b : Addr} (o : Obj) (h : b ≠ a) : (G.add a o) b = G b := if_neg h
theorem View.le_add {G : View} {a : Addr} (o : Obj) (h : G a = none) : G.le (G.add a o) := fun b ob e => by
  by_cases hb : b = a
  · subst hb; rw [h] at e; cases e
  · rw [View.add_ne G o hb]; exact e

inductive DRows : List DictEntry → List (List Nat × List Nat) → Prop
  | nil : DRows [] []
  | cons {e : DictEntry} {x y : Str} {t u : Tok} {es : List DictEntry} {D : List (List Nat × List Nat)} : e.key = .str x t → e.val = .str y u → DRows es D → DRows (e :: es) ((x.cps.toList, y.cps.toList) :: D)
mutual
inductive VRel (G : View) : Value → AV → Prop
  | none : VRel G .none .none
  | bool (b : Bool) : VRel G (.bool b) (.bool b)
  | int (i : Int) (t : Tok) : VRel G (.int i t) (.int i)
  | str (x : Str) (t : Tok) : VRel G (.str x t) (.str x.cps.toList)
  | raw (v : Value) : VRel G v (.raw v)
  | list {a : Addr} {n : Nat} {vs : List Value} {xs : List AV} : G a = some { cls := .type "list", data := .seq vs.toArray n } → VRels G vs xs → VRel G (.ref a) (.list xs)
  | tup {a : Addr} {vs : List Value} {xs : List AV} : G a = some { cls := .type "tuple", data := .seq vs.toArray } → VRels G vs xs → VRel G (.ref a) (.tup xs)
  | dict {a : Addr} {o : Obj} {es : Array DictEntry} {ep : Nat} {D : List (List Nat × List Nat)} : (a == sysModules) = false → G a = some o → o.ExactDict → o.data = .dict es ep → DRows es.toList D → VRel G (.ref a) (.dict D)
inductive VRels (G : View) : List Value → List AV → Prop
  | nil : VRels G [] []
  | cons {v : Value} {vs : List Value} {x : AV} {xs : List AV} : VRel G v x → VRels G vs xs → VRels G (v :: vs) (x :: xs)
end
theorem VRels.oneI {G : View} {vs : List Value} {a : AV} (h : VRels G vs [a]) : ∃ v, vs = [v] ∧ VRel G v a := by
  cases h with
  | cons r1 r2 => cases r2; exact ⟨_, rfl, r1⟩
theorem VRels.twoI {G : View} {vs : List Value} {a b : AV} (h : VRels G vs [a, b]) : ∃ v u, vs = [v, u] ∧ VRel G v a ∧ VRel G u b := by
  cases h with
  | cons r1 r2 =>
    obtain ⟨u, rfl, q⟩ := r2.oneI
    exact ⟨_, _, rfl, r1, q⟩
theorem VRel.rawI {G : View} {v u : Value} (h : VRel G v (.raw u)) : v = u := by cases h; rfl
theorem VRel.intI {G : View} {v : Value} {n : Int} (h : VRel G v (.int n)) : ∃ t, v = .int n t := by cases h; exact ⟨_, rfl⟩
theorem VRel.boolI {G : View} {v : Value} {b : Bool} (h : VRel G v (.bool b)) : v = .bool b := by cases h; rfl
theorem VRel.strI {G : View} {v : Value} {l : List Nat} (h : VRel G v (.str l)) : ∃ x t, v = .str x t ∧ x.cps.toList = l := by cases h; exact ⟨_, _, rfl, rfl⟩
theorem VRel.listI {G : View} {v : Value} {xs : List AV} (h : VRel G v (.list xs)) : ∃ a n vs, v = .ref a ∧ G a = some { cls := .type "list", data := .seq (List.toArray vs) n } ∧ VRels G vs xs := by
  cases h with
  | list g r => exact ⟨_, _, _, rfl, g, r⟩
theorem VRel.tupI {G : View} {v : Value} {xs : List AV} (h : VRel G v (.tup xs)) : ∃ a vs, v = .ref a ∧ G a = some { cls := .type "tuple", data := .seq (List.toArray vs) } ∧ VRels G vs xs := by
  cases h with
  | tup g r => exact ⟨_, _, rfl, g, r⟩

mutual
theorem VRel.le {G G' : View} (h : G.le G') : ∀ {v : Value} {x : AV}, VRel G v x → VRel G' v x
  | _, _, .none => .none
  | _, _, .bool b => .bool b
  | _, _, .int i t => .int i t
  | _, _, .str x t => .str x t
  | _, _, .raw v => .raw v
  | _, _, .list a d => .list (h _ _ a) (VRels.le h d)
  | _, _, .tup a d => .tup (h _ _ a) (VRels.le h d)
  | _, _, .dict a b c d e => .dict a (h _ _ b) c d e
theorem VRels.le {G G' : View} (h : G.le G') : ∀ {vs : List Value} {xs : List AV}, VRels G vs xs → VRels G' vs xs
  | _, _, .nil => .nil
  | _, _, .cons a b => .cons (VRel.le h a) (VRels.le h b)
end

/-- what a piece of a run may do: make, and leave all else as it was -/
structure Up0 (s s' : Shared) (G G' : View) : Prop where
  keep : Near s.heap s'.heap
  size : s.heap.objs.size ≤ s'.heap.objs.size
  gens : s'.gens = s.gens
  os : s'.os = s.os
  le : G.le G'
  on : G'.on s'.heap
  new : ∀ a o, G' a = some o → (G a).isSome = true ∨ s.heap.objs.size ≤ a

theorem Up0.refl {s : Shared} {G : View} (h : G.on s.heap) : Up0 s s G G := ⟨Near.refl _, Nat.le_refl _, rfl, rfl, G.le_refl, h, fun _ _ e => .inl (by rw [e]; rfl)⟩
theorem Up0.trans {s s' s'' : Shared} {G G' G'' : View} (x : Up0 s s' G G') (y : Up0 s' s'' G' G'') : Up0 s s'' G G'' :=
  ⟨x.keep.trans y.keep, Nat.le_trans x.size y.size, y.gens.trans x.gens, y.os.trans x.os, View.le_trans x.le y.le, y.on, fun a o e => by
    rcases y.new a o e with h | h
    · obtain ⟨o', ho'⟩ := Option.isSome_iff_exists.mp h
      exact x.new a o' ho'
    · exact .inr (Nat.le_trans x.size h)⟩
theorem Up0.tok {s s' : Shared} {G G' : View} (x : Up0 s s' G G') (t : Nat) : Up0 s { s' with toks := t } G G' := ⟨x.keep, x.size, x.gens, x.os, x.le, x.on, x.new⟩
theorem Up0.ofTok {s : Shared} {G : View} (h : G.on s.heap) (t : Nat) : Up0 s { s with toks := t } G G := (Up0.refl h).tok t
/-- a new object, put into the view -/
theorem Up0.push {s s' : Shared} {G G' : View} (x : Up0 s s' G G') (o : Obj) (hf : o.isFreed = false) : Up0 s { s' with heap := s'.heap.push o } G (G'.add s'.heap.objs.size o) := by
  have hn : G' s'.heap.objs.size = none := by
    cases q : G' s'.heap.objs.size with
    | none => rfl
    | some o' => exact absurd (Heap.lt_size (x.on _ _ q)) (Nat.lt_irrefl _)
  refine ⟨x.keep.trans (.of fun b ob e => Heap.get?_push_of_some _ e), ?_, x.gens, x.os, View.le_trans x.le (View.le_add o hn), fun a ob e => ?_, fun a ob e => ?_⟩
  · show _ ≤ (s'.heap.push o).objs.size
    rw [Heap.size_push]; exact Nat.le_succ_of_le x.size
  · by_cases ha : a = s'.heap.objs.size
    · subst ha; rw [View.add_self] at e; cases e; exact Heap.get?_push_size _ hf
    · rw [View.add_ne _ _ ha] at e; exact Heap.get?_push_of_some _ (x.on _ _ e)
  · by_cases ha : a = s'.heap.objs.size
    · subst ha; exact .inr x.size
    · rw [View.add_ne _ _ ha] at e; exact x.new _ _ e
/-- a new object, not put into the view -/
theorem Up0.pushOut {s s' : Shared} {G G' : View} (x : Up0 s s' G G') (o : Obj) : Up0 s { s' with heap := s'.heap.push o } G G' :=
  ⟨x.keep.trans (.of fun b ob e => Heap.get?_push_of_some _ e), by show _ ≤ (s'.heap.push o).objs.size; rw [Heap.size_push]; exact Nat.le_succ_of_le x.size, x.gens, x.os, x.le, fun a ob e => Heap.get?_push_of_some _ (x.on _ _ e), x.new⟩

/-- the frames that lie behind -/
inductive FrOk (G : View) (h : Heap) (e : Env) : Prop
  | mk (h1 : e.scope.kind ≠ .module) (L : Addr) (o : Obj) (es : Array DictEntry) (n : Nat) (h2 : e.frame = some L) (h3 : cut ≤ L) (hG : G L = none) (h4 : h.get? L = some o) (h5 : o.data = .dict es n)
noncomputable def FramesOk (A : Around) (G : View) (h : Heap) : Prop := ∃ fs, A.frames = some fs ∧ ∀ e ∈ fs, FrOk G h e
theorem FramesOk.near {A : Around} {G G' : View} {h h' : Heap} (x : FramesOk A G h) (k : Near h h') (hn : ∀ a o, G' a = some o → (G a).isSome = true ∨ h.objs.size ≤ a) : FramesOk A G' h' := by
  obtain ⟨fs, e, x⟩ := x
  refine ⟨fs, e, fun e he => ?_⟩
  obtain ⟨h1, L, o, es, n, h2, h3, hG, h4, h5⟩ := x e he
  obtain ⟨sl, e1, _⟩ := k L o h4
  refine ⟨h1, L, _, es, n, h2, h3, ?_, e1, h5⟩
  cases q : G' L with
  | none => rfl
  | some o' =>
    rcases hn L o' q with h' | h'
    · rw [hG] at h'; cases h'
    · exact absurd (Heap.lt_size h4) (Nat.not_lt.mpr h')
theorem FramesOk.keeps {A : Around} {s s' : Shared} {G G' : View} (x : FramesOk A G s.heap) (u : Up0 s s' G G') : FramesOk A G' s'.heap := x.near u.keep u.new
theorem FramesOk.like {A A' : Around} {G : View} {h : Heap} (x : FramesOk A G h) (e : A'.frames = A.frames) : FramesOk A' G h := by
  obtain ⟨fs, h1, x⟩ := x
  exact ⟨fs, e.trans h1, x⟩

/-- and its tokens grow -/
structure Up (s s' : Shared) (G G' : View) : Prop extends Up0 s s' G G' where
  tk : s.toks ≤ s'.toks
theorem Up.refl {s : Shared} {G : View} (h : G.on s.heap) : Up s s G G := ⟨Up0.refl h, Nat.le_refl _⟩
theorem Up.trans {s s' s'' : Shared} {G G' G'' : View} (x : Up s s' G G') (y : Up s' s'' G' G'') : Up s s'' G G'' := ⟨x.toUp0.trans y.toUp0, Nat.le_trans x.tk y.tk⟩
theorem Up.ofTok {s : Shared} {G : View} (h : G.on s.heap) : Up s { s with toks := s.toks + 1 } G G := ⟨Up0.ofTok h _, Nat.le_succ _⟩
theorem Up.push {s s' : Shared} {G G' : View} (x : Up s s' G G') (o : Obj) (hf : o.isFreed = false) : Up s { s' with heap := s'.heap.push o } G (G'.add s'.heap.objs.size o) := ⟨x.toUp0.push o hf, x.tk⟩
/-- the tokens' growth comes of itself -/
theorem wp_tk {α : Type} {M : Model} {A : Around} {t : Sem α} {Q : α → Shared → Prop} {E : Value → Shared → Prop} {s : Shared} (h : wpAny M A t (fun v s' => s.toks ≤ s'.toks → Q v s') E s) : wpAny M A t Q E s :=
  wpAny_mono (wpAny_toks_of (Nat.le_refl _) h) (fun _ _ q => q.2 q.1) fun _ _ q => q.2

/-- names, by their place -/
inductive At : List Str → Nat → Str → Prop
  | here {x : Str} {r : List Str} : At (x :: r) 0 x
  | there {x y : Str} {r : List Str} {i : Nat} : At r i x → At (y :: r) (i + 1) x
theorem At.get {N : List Str} {i : Nat} {x : Str} (h : At N i x) : N[i]? = some x := by
  induction h with
  | here => rfl
  | there _ ih => simpa using ih
theorem At.mem {N : List Str} {i : Nat} {x : Str} (h : At N i x) : x ∈ N := List.mem_of_getElem? h.get
theorem At.inj {N : List Str} (hN : N.Nodup) : ∀ {i j : Nat} {x : Str}, At N i x → At N j x → i = j := by
  intro i j x h
  induction h generalizing j with
  | here =>
    intro h'
    cases h' with
    | here => rfl
    | there h' => exact absurd rfl ((List.pairwise_cons.mp hN).1 _ h'.mem)
  | there h ih =>
    intro h'
    cases h' with
    | here => exact absurd rfl ((List.pairwise_cons.mp hN).1 _ h.mem)
    | there h' => exact congrArg (· + 1) (ih (List.pairwise_cons.mp hN).2 h')

inductive Bnd where
  | no
  | val (a : AV)
  | own (xs : List AV)
/-- a name's binding, and its change -/
inductive Var : List Str → List Bnd → Str → Bnd → Prop
  | here {x : Str} {N : List Str} {b : Bnd} {σ : List Bnd} : Var (x :: N) (b :: σ) x b
  | there {x y : Str} {N : List Str} {b c : Bnd} {σ : List Bnd} : Var N σ x b → Var (y :: N) (c :: σ) x b
inductive Set1 : List Str → List Bnd → Str → Bnd → List Bnd → Prop
  | here {x : Str} {N : List Str} {b c : Bnd} {σ : List Bnd} : Set1 (x :: N) (c :: σ) x b (b :: σ)
  | there {x y : Str} {N : List Str} {b c : Bnd} {σ τ : List Bnd} : Set1 N σ x b τ → Set1 (y :: N) (c :: σ) x b (c :: τ)
theorem Var.at_ {N : List Str} {σ : List Bnd} {x : Str} {b : Bnd} (h : Var N σ x b) : ∃ i, At N i x ∧ σ[i]? = some b := by
  induction h with
  | here => exact ⟨0, .here, rfl⟩
  | there _ ih => obtain ⟨i, a, e⟩ := ih; exact ⟨i + 1, .there a, by simpa using e⟩
theorem Set1.at_ {N : List Str} {σ τ : List Bnd} {x : Str} {b : Bnd} (h : Set1 N σ x b τ) : ∃ i, At N i x ∧ τ = σ.set i b := by
  induction h with
  | here => exact ⟨0, .here, rfl⟩
  | there _ ih => obtain ⟨i, a, e⟩ := ih; exact ⟨i + 1, .there a, by rw [e]; rfl⟩
noncomputable def Bnd.isOwn : Bnd → Bool
  | .own _ => true
  | _ => false

set_option genInjectivity false in
/-- a frame: what does not turn in it -/
structure FI (B : Base) (sc : Scope) (N : List Str) where
  s₀ : Shared
  G₀ : View
  A : Around
  env : Env
  lvl : Nat
  own : Bool
  top : Tp B s₀.heap
  ht : 1 ≤ s₀.toks
  fr : ∃ fs, A.frames = some fs ∧ ∀ e ∈ fs, e.scope.kind ≠ .module ∧ ∃ L, e.frame = some L ∧ cut ≤ L ∧ (L = env.locals ∨ (G₀ L = none ∧ ∃ o es n, s₀.heap.get? L = some o ∧ o.data = .dict es n))
  hh : A.handled = none
  hd : A.depth + lvl < recursionLimit
  hu : A.units + 8 * lvl + 200 < cLine
  hsc : env.scope = sc
  hk : sc.kind = .function
  hg : env.globals = mainGlobals
  hb : env.builtins = builtinsNs
  hL : s₀.heap.objs.size ≤ env.locals
  hN : N.Nodup
  hv : ∀ x ∈ N, sc.names.lookup x = some .local ∨ ((sc.names.lookup x = some .cell ∨ sc.names.lookup x = some .free) ∧ ∃ c, env.cells.lookup x = some c)
  hdbg : ∀ x ∈ N, (x == ("__debug__" : Str)) = false ∧ (x == ("__classdict__" : Str)) = false
  hap : own = true → env.cells.Pairwise fun x y => x.2 ≠ y.2
  habove : own = true → ∀ p ∈ env.cells, env.locals < p.2
  hne : ∀ p ∈ env.cells, p.2 ≠ env.locals
  hown : own = true → ∀ x ∈ N, sc.names.lookup x ≠ some .free

section
variable {B : Base} {sc : Scope} {N : List Str}

noncomputable def Loc (X : FI B sc N) (m : Str → Option Value) (h : Heap) (x : Str) (v : Value) : Prop :=
  (sc.names.lookup x = some .local ∧ m x = some v) ∨ ((sc.names.lookup x = some .cell ∨ sc.names.lookup x = some .free) ∧ ∃ c, X.env.cells.lookup x = some c ∧ h.IsCell c (some v))

structure OwnIs (X : FI B sc N) (G : View) (h : Heap) (v : Value) (xs : List AV) : Prop where
  ex : ∃ a vs, v = .ref a ∧ h.PlainList a vs.toArray ∧ VRels G vs xs ∧ G a = none ∧ X.s₀.heap.objs.size ≤ a ∧ a ≠ X.env.locals ∧ ∀ x c, X.env.cells.lookup x = some c → c ≠ a

noncomputable def BndIs (X : FI B sc N) (G : View) (h : Heap) (v : Value) : Bnd → Prop
  | .no => True
  | .val a => VRel G v a
  | .own xs => OwnIs X G h v xs

structure Sat (X : FI B sc N) (G : View) (σ : List Bnd) (s : Shared) : Prop where
  up : Up X.s₀ s X.G₀ G
  nL : G X.env.locals = none
  nC : ∀ x c, X.env.cells.lookup x = some c → G c = none
  cells : ∀ x c, X.env.cells.lookup x = some c → ∃ v, s.heap.IsCell c v
  ns : ∃ m, s.heap.Ns X.env.locals m ∧ ∀ i x b, At N i x → σ[i]? = some b → b = .no ∨ ∃ v, Loc X m s.heap x v ∧ BndIs X G s.heap v b


/-! the predicates of the logic -/
structure Ex (X : FI B sc N) (σ : List Bnd) (e : Expr) (r : AV) : Prop where
  run :
  ∀ (G : View) (s : Shared) (Q : Value → Shared → Prop) (E : Value → Shared → Prop), Sat X G σ s →
    (∀ v s' G', Up s s' G G' → VRel G' v r → Q v s') → wpAny (model B.prog B.w) X.A (eval e X.env) Q E s

structure Tst (X : FI B sc N) (σ : List Bnd) (e : Expr) (b : Bool) : Prop where
  run :
  ∀ (G : View) (s : Shared) (Q : Bool → Shared → Prop) (E : Value → Shared → Prop), Sat X G σ s →
    (∀ s' G', Up s s' G G' → Q b s') → wpAny (model B.prog B.w) X.A (isTrue e X.env (eval e X.env)) Q E s

inductive Out where
  | next (σ : List Bnd)
  | brk (σ : List Bnd)
  | cont (σ : List Bnd)
  | ret (r : AV)

noncomputable def Flowed (X : FI B sc N) (G' : View) (s' : Shared) : Out → Flow → Prop
  | .next σ, .next => Sat X G' σ s'
  | .brk σ, .brk => Sat X G' σ s'
  | .cont σ, .cont => Sat X G' σ s'
  | .ret r, .ret v => Up X.s₀ s' X.G₀ G' ∧ VRel G' v r
  | _, _ => False

structure Sx (X : FI B sc N) (σ : List Bnd) (ss : List Stmt) (o : Out) : Prop where
  run :
  ∀ (G : View) (s : Shared) (Q : Flow → Shared → Prop) (E : Value → Shared → Prop), Sat X G σ s →
    (∀ fl s' G', G.le G' → Flowed X G' s' o fl → Q fl s') → wpAny (model B.prog B.w) X.A (execs ss X.env) Q E s

structure S1 (X : FI B sc N) (σ : List Bnd) (st : Stmt) (o : Out) : Prop where
  run :
  ∀ (G : View) (s : Shared) (Q : Flow → Shared → Prop) (E : Value → Shared → Prop), Sat X G σ s →
    (∀ fl s' G', G.le G' → Flowed X G' s' o fl → Q fl s') → wpAny (model B.prog B.w) X.A (exec st X.env) Q E s

/-- a callable's contract -/
noncomputable def Fn (B : Base) (f : Value) (lvl : Nat) (args : List AV) (r : AV) : Prop :=
  ∀ (A : Around) (G : View) (s : Shared) (vs : List Value) (Q : Value → Shared → Prop) (E : Value → Shared → Prop),
    A.handled = none → A.depth + lvl < recursionLimit → A.units + 8 * lvl + 200 < cLine → Tp B s.heap → FramesOk A G s.heap → 1 ≤ s.toks → G.on s.heap → VRels G vs args →
    (∀ v s' G', Up s s' G G' → VRel G' v r → Q v s') → wpAny (model B.prog B.w) A (call f vs) Q E s

/-! the state's laws -/
theorem Sat.top {X : FI B sc N} {G : View} {σ : List Bnd} {s : Shared} (S : Sat X G σ s) : Tp B s.heap := X.top.keeps S.up.keep S.up.size
theorem Sat.tk {X : FI B sc N} {G : View} {σ : List Bnd} {s : Shared} (S : Sat X G σ s) : 1 ≤ s.toks := Nat.le_trans X.ht S.up.tk
theorem Sat.on {X : FI B sc N} {G : View} {σ : List Bnd} {s : Shared} (S : Sat X G σ s) : G.on s.heap := S.up.on

theorem cell_near {h h' : Heap} {c : Addr} {v : Option Value} (l : h.IsCell c v) (k : Near h h') : h'.IsCell c v := by
  obtain ⟨o, h1, h2⟩ := l
  exact ⟨o, k.at_ h1 (fun es n q => by rw [q] at h2; cases h2), h2⟩
theorem Sat.frames {X : FI B sc N} {G : View} {σ : List Bnd} {s : Shared} (S : Sat X G σ s) : FramesOk X.A G s.heap := by
  obtain ⟨fs, hf, x⟩ := X.fr
  refine ⟨fs, hf, fun e he => ?_⟩
  obtain ⟨h1, L, h2, h3, h4⟩ := x e he
  rcases h4 with rfl | ⟨hG, o, es, n, h4, h5⟩
  · obtain ⟨m, ⟨o, es, ep, h6, h7, _⟩, _⟩ := S.ns
    exact ⟨h1, _, o, _, _, h2, h3, S.nL, h6, h7⟩
  · obtain ⟨sl, e1, _⟩ := S.up.keep L o h4
    refine ⟨h1, L, _, es, n, h2, h3, ?_, e1, h5⟩
    cases q : G L with
    | none => rfl
    | some o' =>
      rcases S.up.new L o' q with h' | h'
      · rw [hG] at h'; cases h'
      · exact absurd (Heap.lt_size h4) (Nat.not_lt.mpr h')
theorem Loc.keeps {X : FI B sc N} {m : Str → Option Value} {h h' : Heap} {x : Str} {v : Value} (l : Loc X m h x v) (k : Near h h') : Loc X m h' x v := by
  rcases l with l | ⟨a, c, hc, i⟩
  · exact .inl l
  · exact .inr ⟨a, c, hc, cell_near i k⟩

theorem BndIs.up {X : FI B sc N} {s s' : Shared} {G G' : View} {v : Value} {b : Bnd} (u : Up0 s s' G G') (hG : G.on s.heap) (h : BndIs X G s.heap v b) : BndIs X G' s'.heap v b := by
  cases b with
  | no => trivial
  | val a => exact VRel.le u.le h
  | own xs =>
    obtain ⟨a, vs, e, hl, hr, hn, h1, h2, h3⟩ := h.ex
    refine ⟨a, vs, e, (let ⟨n, ho⟩ := hl; ⟨n, u.keep.at_ ho (fun es n q => by cases q)⟩), VRels.le u.le hr, ?_, h1, h2, h3⟩
    cases q : G' a with
    | none => rfl
    | some o =>
      obtain ⟨n, ho⟩ := hl
      rcases u.new a o q with h' | h'
      · rw [hn] at h'; cases h'
      · exact absurd (Heap.lt_size ho) (Nat.not_lt.mpr h')

theorem Sat.upd {X : FI B sc N} {G G' : View} {σ : List Bnd} {s s' : Shared} (S : Sat X G σ s) (u : Up s s' G G') : Sat X G' σ s' := by
  obtain ⟨m, hm, hv⟩ := S.ns
  refine ⟨S.up.trans u, ?_, fun y c hp => ?_, fun y c hp => ?_, m, u.keep.ns hm, fun i x b ha hb => ?_⟩
  · cases q : G' X.env.locals with
    | none => rfl
    | some o =>
      rcases u.new _ o q with h' | h'
      · rw [S.nL] at h'; cases h'
      · obtain ⟨oL, _, _, hL, _⟩ := hm
        exact absurd (Heap.lt_size hL) (Nat.not_lt.mpr h')
  · cases q : G' c with
    | none => rfl
    | some o =>
      rcases u.new _ o q with h' | h'
      · rw [S.nC y c hp] at h'; cases h'
      · obtain ⟨v, hv⟩ := S.cells y c hp
        exact absurd hv.lt (Nat.not_lt.mpr h')
  · obtain ⟨v, hv⟩ := S.cells y c hp
    exact ⟨v, cell_near hv u.keep⟩
  · rcases hv i x b ha hb with h | ⟨v, hl, hb⟩
    · exact .inl h
    · exact .inr ⟨v, hl.keeps u.keep, hb.up u.toUp0 S.on⟩

end
end Mine
end
section
open PySem PySem.W PyProof.Rows PySem.Calls
open PySem.Builtin PySem.Builtin.Str
set_option Elab.async false
set_option linter.unusedVariables false
namespace Mine

/-- the text of a list of signs -/
noncomputable abbrev S (l : List Nat) : Str := ⟨l.toArray⟩
theorem len_toList (x : Str) : x.length = x.cps.toList.length := by simp [Str.length]

/-- the pieces between the signs c -/
noncomputable def splitc (c : Nat) : List Nat → List (List Nat)
  | [] => [[]]
  | a :: r => if a = c then [] :: splitc c r else
    match splitc c r with
    | p :: ps => (a :: p) :: ps
    | [] => [[a]]
theorem splitc_cons (c a : Nat) (r : List Nat) : splitc c (a :: r) = if a = c then [] :: splitc c r else match splitc c r with | p :: ps => (a :: p) :: ps | [] => [[a]] := rfl
theorem splitc_ne (c : Nat) : ∀ l, splitc c l ≠ []
  | [] => by simp [splitc]
  | a :: r => by
    rw [splitc_cons]; split
    · simp
    · split <;> simp
noncomputable def joinc (c : List Nat) : List (List Nat) → List Nat
  | [] => []
  | [p] => p
  | p :: q :: r => p ++ c ++ joinc c (q :: r)
theorem joinc_cons (c p : List Nat) {ps : List (List Nat)} (h : ps ≠ []) : joinc c (p :: ps) = p ++ c ++ joinc c ps := by
  cases ps with
  | nil => exact absurd rfl h
  | cons q r => rfl
theorem join_splitc (c : Nat) : ∀ l, joinc [c] (splitc c l) = l
  | [] => rfl
  | a :: r => by
    have ih := join_splitc c r
    rw [splitc_cons]
    split
    · rename_i h
      subst h
      rw [joinc_cons _ _ (splitc_ne _ _), ih]; rfl
    · cases h : splitc c r with
      | nil => exact absurd h (splitc_ne _ _)
      | cons p ps =>
        rw [h] at ih
        cases ps with
        | nil => simp only [joinc] at ih ⊢; rw [ih]
        | cons q qs => simp only [joinc] at ih ⊢; rw [List.cons_append, List.cons_append, ih]
/-- what has no c in its pieces and joins to l is its split -/
theorem splitc_append (c : Nat) (p : List Nat) (hp : c ∉ p) (r : List Nat) : splitc c (p ++ c :: r) = p :: splitc c r := by
  induction p with
  | nil => simp [splitc]
  | cons a p ih =>
    have ha : a ≠ c := fun e => hp (by rw [e]; exact .head _)
    rw [List.cons_append]
    show (if a = c then _ else _) = _
    rw [if_neg ha, ih (fun h => hp (.tail _ h))]
theorem splitc_free (c : Nat) (p : List Nat) (hp : c ∉ p) : splitc c p = [p] := by
  induction p with
  | nil => rfl
  | cons a p ih =>
    have ha : a ≠ c := fun e => hp (by rw [e]; exact .head _)
    show (if a = c then _ else _) = _
    rw [if_neg ha, ih (fun h => hp (.tail _ h))]
theorem splitc_join (c : Nat) : ∀ ps : List (List Nat), ps ≠ [] → (∀ p ∈ ps, c ∉ p) → splitc c (joinc [c] ps) = ps
  | [], h, _ => absurd rfl h
  | [p], _, hp => splitc_free c p (hp p (.head _))
  | p :: q :: r, _, hp => by
    rw [joinc_cons _ _ (by simp), List.append_assoc]
    show splitc c (p ++ c :: joinc [c] (q :: r)) = _
    rw [splitc_append c p (hp p (.head _)), splitc_join c (q :: r) (by simp) fun p' h' => hp p' (.tail _ h')]
theorem splitc_mem (c : Nat) : ∀ l, ∀ p ∈ splitc c l, c ∉ p
  | [], p, h => by simp [splitc] at h; subst h; simp
  | a :: r, p, h => by
    have ih := splitc_mem c r
    rw [splitc_cons] at h
    split at h
    · rcases List.mem_cons.mp h with rfl | h
      · simp
      · exact ih p h
    · rename_i ha
      split at h
      · rename_i q qs hq
        rcases List.mem_cons.mp h with rfl | h
        · intro hc
          rcases List.mem_cons.mp hc with rfl | hc
          · exact ha rfl
          · exact ih q (by rw [hq]; exact .head _) hc
        · exact ih p (by rw [hq]; exact .tail _ h)
      · rename_i hq; exact absurd hq (splitc_ne _ _)

/-! the library's words, in lists -/
theorem join_toList (sep : Str) : ∀ l : List Str, (Str.join sep l).cps.toList = joinc sep.cps.toList (l.map (·.cps.toList))
  | [] => rfl
  | [x] => rfl
  | x :: y :: r => by
    show (x ++ sep ++ Str.join sep (y :: r)).cps.toList = _
    rw [Str.cps_append, Str.cps_append, Array.toList_append, Array.toList_append, join_toList sep (y :: r)]; rfl
theorem txt_join (sep : Str) (l : List Str) : (Txt.join sep l).cps.toList = joinc sep.cps.toList (l.map (·.cps.toList)) := by
  rw [Txt.join, StrLaws.glued_eq_join, join_toList]
theorem txt_split (x : Str) (c : Nat) : (Txt.split x ⟨#[c]⟩).map (·.cps.toList) = splitc c x.cps.toList := by
  have h := congrArg (fun s : Str => s.cps.toList) (StrLaws.join_split x ⟨#[c]⟩)
  simp only [join_toList] at h
  have hf := StrLaws.split_free x c
  have hne : Txt.split x ⟨#[c]⟩ ≠ [] := by
    unfold Txt.split
    split
    · simp
    · split
      · simp
      · rw [StrLaws.partsBetween_eq]
        obtain ⟨p, r, e⟩ := StrLaws.partsFrom_ne x (⟨#[c]⟩ : Str).length 0 (occurrences x ⟨#[c]⟩ 0 x.length (x.length + 1))
        rw [e]; simp
  rw [← h]
  refine (splitc_join c _ (by simpa using hne) ?_).symm
  intro p hp
  obtain ⟨q, hq, rfl⟩ := List.mem_map.mp hp
  exact hf q hq

/-- each sign by its spelling -/
noncomputable def subst1 (c : Nat) (z : List Nat) (l : List Nat) : List Nat := l.flatMap fun a => if a = c then z else [a]
theorem join_splitc_z (c : Nat) (z : List Nat) : ∀ l, joinc z (splitc c l) = subst1 c z l
  | [] => rfl
  | a :: r => by
    have ih := join_splitc_z c z r
    unfold subst1 at ih ⊢
    rw [List.flatMap_cons, ← ih, splitc_cons]
    split
    · rw [joinc_cons _ _ (splitc_ne _ _)]; simp
    · cases h : splitc c r with
      | nil => exact absurd h (splitc_ne _ _)
      | cons p ps => cases ps <;> simp [joinc]
theorem txt_replace (x z : Str) (c : Nat) : (Txt.replace x ⟨#[c]⟩ z).cps.toList = subst1 c z.cps.toList x.cps.toList := by
  rw [StrLaws.replace_one, join_toList, txt_split, join_splitc_z]
theorem txt_contains (x : Str) (c : Nat) : Txt.contains x ⟨#[c]⟩ = decide (c ∈ x.cps.toList) := by
  rw [← StrLaws.found_one]; rfl
theorem subst1_free {c : Nat} {z l : List Nat} (h : c ∉ l) : subst1 c z l = l := by
  induction l with
  | nil => rfl
  | cons a r ih =>
    unfold subst1 at ih ⊢
    rw [List.flatMap_cons, ih (fun q => h (.tail _ q)), if_neg (fun e => h (by rw [e]; exact .head _))]; rfl

/-- a last sign's place, or -1 -/
noncomputable def lastAt (c : Nat) : List Nat → Option Nat
  | [] => none
  | a :: r => match lastAt c r with
    | some i => some (i + 1)
    | none => if a = c then some 0 else none
noncomputable def rfindc (c : Nat) (l : List Nat) : Int := match lastAt c l with | some i => (i : Int) | none => -1
theorem lastAt_spec (c : Nat) : ∀ l : List Nat, (lastAt c l = none ∧ ∀ i : Nat, l[i]? ≠ some c) ∨ ∃ i : Nat, lastAt c l = some i ∧ l[i]? = some c ∧ ∀ k : Nat, i < k → l[k]? ≠ some c
  | [] => .inl ⟨rfl, by simp⟩
  | a :: r => by
    rcases lastAt_spec c r with ⟨h, hn⟩ | ⟨i, h, hi, hk⟩
    · by_cases ha : a = c
      · refine .inr ⟨0, by simp [lastAt, h, ha], by simp [ha], fun k hk => ?_⟩
        obtain ⟨k, rfl⟩ := Nat.exists_eq_add_of_lt hk
        simpa using hn k
      · refine .inl ⟨by simp [lastAt, h, ha], fun i => ?_⟩
        cases i with
        | zero => simp [ha]
        | succ i => simpa using hn i
    · refine .inr ⟨i + 1, by simp [lastAt, h], by simpa using hi, fun k hk' => ?_⟩
      obtain ⟨k, rfl⟩ := Nat.exists_eq_add_of_lt hk'
      simpa using hk (i + 1 + k) (by omega)
theorem txt_rfind (x : Str) (c : Nat) : Txt.rfind x ⟨#[c]⟩ = rfindc c x.cps.toList := by
  unfold Txt.rfind rfindc
  rcases StrLaws.last_spec x ⟨#[c]⟩ with ⟨h, hn⟩ | ⟨i, h, hi, hk⟩ <;> rcases lastAt_spec c x.cps.toList with ⟨h', hn'⟩ | ⟨j, h', hj, hk'⟩
  · rw [h, h']
  · exact absurd ((StrLaws.subAt_one x c j).mpr hj) (hn j)
  · exact absurd ((StrLaws.subAt_one x c i).mp hi) (hn' i)
  · have e : i = j := by
      rcases Nat.lt_trichotomy i j with hl | hl | hl
      · exact absurd ((StrLaws.subAt_one x c j).mpr hj) (hk j hl)
      · exact hl
      · exact absurd ((StrLaws.subAt_one x c i).mp hi) (hk' i hl)
    rw [h, h', e]
theorem txt_startswith (x : Str) (c : Nat) : Txt.startswith x ⟨#[c]⟩ = (x.cps.toList.head? == some c) := by
  unfold Txt.startswith
  rw [Bool.eq_iff_iff]
  have := StrLaws.subAt_one x c 0
  simp only [Nat.zero_add] at this
  rw [Bool.and_eq_true, decide_eq_true_eq, Nat.zero_add, this, beq_iff_eq, List.head?_eq_getElem?]
theorem txt_endswith (x : Str) (c : Nat) : Txt.endswith x ⟨#[c]⟩ = (x.cps.toList.getLast? == some c) := by
  unfold Txt.endswith
  rw [Bool.eq_iff_iff, Bool.and_eq_true, decide_eq_true_eq, Nat.zero_add]
  by_cases hx : x.length = 0
  · have : x.cps.toList = [] := by rw [len_toList] at hx; exact List.length_eq_zero_iff.mp hx
    rw [this, hx]; simp [Str.length]
  · have := StrLaws.subAt_one x c (x.length - 1)
    rw [show (⟨#[c]⟩ : Str).length = 1 from rfl] at this ⊢
    rw [beq_iff_eq, List.getLast?_eq_getElem?, ← len_toList, ← this]
    constructor
    · exact fun h => ⟨by omega, h.2⟩
    · exact fun h => ⟨by omega, h.2⟩

/-! slices -/
noncomputable def slc {α : Type} (lo hi : Option Int) (l : List α) : List α := (l.drop (lo.elim 0 (clipAt l.length))).take (hi.elim l.length (clipAt l.length) - lo.elim 0 (clipAt l.length))
theorem strIdx_plain (lo hi : Option Int) (n : Nat) : strSliceIndices lo hi 1 n = (List.range (hi.elim n (clipAt n) - lo.elim 0 (clipAt n))).map (lo.elim 0 (clipAt n) + ·) := by
  have h := sliceRange_one (lo.elim 0 (clipAt n)) (hi.elim n (clipAt n))
  rw [← h]
  unfold strSliceIndices
  have e : ∀ a b a' b' : Int, a = a' → b = b' → sliceRange a b 1 = sliceRange a' b' 1 := by rintro _ _ _ _ rfl rfl; rfl
  refine e _ _ _ _ ?_ ?_
  · cases lo <;> simp [clipAt_cast]
  · cases hi <;> simp [clipAt_cast]
theorem txt_slice (x : Str) (lo hi : Option Int) : (Txt.slice x lo hi).cps.toList = slc lo hi x.cps.toList := by
  have e : (strSliceIndices lo hi 1 x.length).filterMap (x.cps[·]?) = slc lo hi x.cps.toList := by
    rw [strIdx_plain, pick_run]
    unfold slc
    rw [← len_toList]
  unfold Txt.slice
  split
  · rename_i h
    simp only [BEq.rfl, Bool.true_and, beq_iff_eq] at h
    rw [strIdx_plain, List.length_map, List.length_range] at h
    have h0 : lo.elim 0 (clipAt x.length) = 0 ∧ hi.elim x.length (clipAt x.length) = x.length ∨ x.length = 0 := by
      have : ∀ i, clipAt x.length i ≤ x.length := fun i => by
        have := clipAt_cast x.length i
        omega
      have h1 : hi.elim x.length (clipAt x.length) ≤ x.length := by cases hi; exact Nat.le_refl _; exact this _
      omega
    unfold slc
    rw [← len_toList]
    rcases h0 with ⟨h1, h2⟩ | h0
    · rw [h1, h2, List.drop_zero, List.take_of_length_le]
      rw [← len_toList]; exact Nat.le_refl _
    · have : x.cps.toList = [] := by rw [len_toList] at h0; exact List.length_eq_zero_iff.mp h0
      rw [this]; simp
  · rw [e]
theorem slc_map {α β : Type} (f : α → β) (lo hi : Option Int) (l : List α) : slc lo hi (l.map f) = (slc lo hi l).map f := by
  unfold slc; rw [List.length_map, List.map_take, List.map_drop]
theorem slc_pick (items : List Value) (lo hi : Option Int) : slicePick items.toArray lo hi none = (slc lo hi items).toArray := by
  rw [slicePick_plain]; unfold slc; simp
theorem slc_to {α : Type} (l : List α) (b : Nat) : slc none (some (b : Int)) l = l.take b := by
  unfold slc
  simp only [Option.elim, clipAt_nat, List.drop_zero, Nat.sub_zero]
  rcases Nat.le_total b l.length with h | h
  · rw [Nat.min_eq_left h]
  · rw [Nat.min_eq_right h, List.take_of_length_le (Nat.le_refl _), List.take_of_length_le h]
theorem slc_from {α : Type} (l : List α) (a : Nat) : slc (some (a : Int)) none l = l.drop a := by
  unfold slc
  simp only [Option.elim, clipAt_nat]
  rcases Nat.le_total a l.length with h | h
  · rw [Nat.min_eq_left h, List.take_of_length_le (by simp)]
  · rw [Nat.min_eq_right h, List.drop_of_length_le (Nat.le_refl _), List.drop_of_length_le h]; simp
theorem slc_run {α : Type} (l : List α) (a b : Nat) : slc (some (a : Int)) (some (b : Int)) l = (l.drop a).take (b - a) := by
  unfold slc
  simp only [Option.elim, clipAt_nat]
  rcases Nat.le_total a l.length with h | h
  · rw [Nat.min_eq_left h]
    rcases Nat.le_total b l.length with h' | h'
    · rw [Nat.min_eq_left h']
    · rw [Nat.min_eq_right h', List.take_of_length_le (by simp), List.take_of_length_le (by simp; omega)]
  · rw [Nat.min_eq_right h, List.drop_of_length_le (Nat.le_refl _), List.drop_of_length_le h]; simp
theorem slc_butLast {α : Type} (l : List α) : slc none (some (-1)) l = l.dropLast := by
  unfold slc
  have := clipAt_neg l.length 1 (Nat.le_refl _)
  simp only [Option.elim, List.drop_zero, Nat.sub_zero]
  rw [show ((-1 : Int)) = -((1 : Nat) : Int) from rfl, this, List.dropLast_eq_take]

/-! strips of one sign -/
theorem txt_lstrip (x : Str) (c : Nat) : (Txt.lstripChars x ⟨#[c]⟩).cps.toList = x.cps.toList.dropWhile (· == c) := by
  have hg : ((⟨#[c]⟩ : Str).cps.contains) = (· == c) := by funext a; simp [Array.contains]
  unfold Txt.lstripChars Txt.stripBy
  rw [hg]
  have key : x.cps.toList.drop ((x.cps.toList.takeWhile (· == c)).length) = x.cps.toList.dropWhile (· == c) := by
    generalize x.cps.toList = l
    induction l with
    | nil => rfl
    | cons a r ih =>
      rw [List.takeWhile_cons, List.dropWhile_cons]
      split
      · simpa using ih
      · rfl
  split
  · rename_i h
    simp only [stripSame, stripLo, if_true, Bool.and_eq_true, beq_iff_eq] at h
    rw [← key, h.1]; rfl
  · unfold PySem.stripped
    rw [StrLaws.strSub_toList]
    simp only [stripLo, stripHi, if_true]
    rw [key, List.take_of_length_le]
    rw [← key, List.length_drop, len_toList]; exact Nat.le_refl _
theorem txt_rstrip (x : Str) (c : Nat) : (Txt.rstripChars x ⟨#[c]⟩).cps.toList = (x.cps.toList.reverse.dropWhile (· == c)).reverse := by
  have hg : ((⟨#[c]⟩ : Str).cps.contains) = (· == c) := by funext a; simp [Array.contains]
  unfold Txt.rstripChars Txt.stripBy
  rw [hg]
  have key : x.cps.toList.take (x.length - (x.cps.toList.reverse.takeWhile (· == c)).length) = (x.cps.toList.reverse.dropWhile (· == c)).reverse := by
    have := List.takeWhile_append_dropWhile (p := (· == c)) (l := x.cps.toList.reverse)
    have h2 : x.cps.toList = (x.cps.toList.reverse.dropWhile (· == c)).reverse ++ (x.cps.toList.reverse.takeWhile (· == c)).reverse := by
      rw [← List.reverse_append, this, List.reverse_reverse]
    have h3 : x.length = (x.cps.toList.reverse.dropWhile (· == c)).reverse.length + (x.cps.toList.reverse.takeWhile (· == c)).length := by
      rw [len_toList]; conv => lhs; rw [h2]
      rw [List.length_append]; simp
    conv => lhs; arg 2; rw [h2]
    rw [h3, Nat.add_sub_cancel, List.take_left]
  split
  · rename_i h
    simp only [stripSame, stripLo, stripHi, if_true, Bool.false_eq_true, if_false, Bool.and_eq_true, beq_iff_eq, List.drop_zero] at h
    rw [← key, h.2, List.take_of_length_le]
    rw [len_toList]; exact Nat.le_refl _
  · unfold PySem.stripped
    rw [StrLaws.strSub_toList]
    simp only [stripLo, stripHi, if_true, Bool.false_eq_true, if_false, List.drop_zero, Nat.sub_zero]
    exact key
end Mine
end
section
open PySem PySem.W PyProof.Rows PySem.Calls
set_option Elab.async false
set_option linter.unusedVariables false
namespace Mine
section
variable {B : Base} {sc : Scope} {N : List Str} {X : FI B sc N} {σ : List Bnd}

/-! shapes of expressions, by look -/
noncomputable def notStar : Expr → Bool
  | .Starred _ _ => false
  | _ => true
noncomputable def notStars : List Expr → Bool
  | [] => true
  | e :: r => notStar e && notStars r
theorem starEach_cons {e : Expr} {r : List Expr} {env : Env} (h : notStar e = true) : starEach (e :: r) env = (false, eval e env) :: starEach r env := by
  cases e <;> first | rfl | cases h

theorem X_kind (X : FI B sc N) : X.env.scope.kind = .function := by rw [X.hsc]; exact X.hk
theorem X_kindOf (X : FI B sc N) (x : Str) : X.env.kindOf x = sc.names.lookup x := by unfold Env.kindOf; rw [X.hsc]

theorem Ex.of {e : Expr} {r r' : AV} (h : Ex X σ e r) (e' : r = r') : Ex X σ e r' := e' ▸ h

/-! constants -/
theorem ex_str {x : Str} {l : List Nat} {k pos} (h : x.cps.toList = l := by rfl) : Ex X σ (.Constant (.str x) k pos) (.str l) := .mk fun G s Q E Sa kk =>
  wpAny_Constant_str (kk _ _ _ (Up.ofTok Sa.on) (h ▸ VRel.str x _))
theorem ex_int {i : Int} {k pos} : Ex X σ (.Constant (.int i) k pos) (.int i) := .mk fun G s Q E Sa kk =>
  wpAny_Constant_int (kk _ _ _ (Up.ofTok Sa.on) (.int i _))
theorem ex_none {k pos} : Ex X σ (.Constant .none k pos) .none := .mk fun G s Q E Sa kk =>
  wpAny_Constant_none (kk _ _ _ (Up.refl Sa.on) .none)
theorem ex_bool {b k pos} : Ex X σ (.Constant (.bool b) k pos) (.bool b) := .mk fun G s Q E Sa kk =>
  wpAny_Constant_bool (kk _ _ _ (Up.refl Sa.on) (.bool b))

/-! names -/
theorem ld_loc {x : Str} {i : Nat} {b : Bnd} {pos : Pos} {G : View} {s : Shared} {Q : Value → Shared → Prop} {E : Value → Shared → Prop} (ha : At N i x) (hb : σ[i]? = some b) (hno : b ≠ .no)
    (Sa : Sat X G σ s) (h : ∀ v, BndIs X G s.heap v b → Q v s) : wpAny (model B.prog B.w) X.A (eval (.Name x pos) X.env) Q E s := by
  obtain ⟨m, hm, hv⟩ := Sa.ns
  obtain ⟨hd, hcd⟩ := X.hdbg x ha.mem
  rcases hv i x b ha hb with h' | ⟨v, hl, hb⟩
  · exact absurd h' hno
  · refine wpAny_Name ?_ hd
    rcases hl with ⟨hk, hmx⟩ | ⟨hk, c, hc, hi⟩
    · exact wpAny_loadName_local (X_kind X) ((X_kindOf X x).trans hk) hm hmx (h v hb)
    · rcases hk with hk | hk
      · exact wpAny_loadName_cell (X_kind X) ((X_kindOf X x).trans hk) hc hi (h v hb)
      · exact wpAny_loadName_free (X_kind X) ((X_kindOf X x).trans hk) hc hi (h v hb) hcd
theorem ex_loc {x : Str} {a : AV} {pos : Pos} (h : Var N σ x (.val a)) : Ex X σ (.Name x pos) a := .mk fun G s Q E Sa kk => by
  obtain ⟨i, ha, hb⟩ := h.at_
  exact ld_loc ha hb (by intro h; cases h) Sa fun v hv => kk v s G (Up.refl Sa.on) hv
theorem ex_glob {x : Str} {v : Value} {pos : Pos} (hx : sc.names.lookup x = some .globalImplicit) (e : nsIn B.K mainGlobals x = some (some v))
    (hd : (x == ("__debug__" : Str)) = false := by decide) : Ex X σ (.Name x pos) (.raw v) := .mk fun G s Q E Sa kk => by
  have T := Sa.top.T
  exact Name_function_global (X_kind X) ((X_kindOf X x).trans hx) (loadGlobal_global (env := X.env) (X.hg ▸ T.g) (mg_of Sa.top.K T.g e) (kk v s G (Up.refl Sa.on) (.raw v))) hd
theorem ex_blt {x : Str} {v : Value} {pos : Pos} (hx : sc.names.lookup x = some .globalImplicit) (e : nsIn B.K mainGlobals x = some none) (hv : bootBuiltins x = some v) (hn : x ≠ "__name__")
    (hd : (x == ("__debug__" : Str)) = false := by decide) : Ex X σ (.Name x pos) (.raw v) := .mk fun G s Q E Sa kk => by
  have T := Sa.top.T
  exact Name_function_global (X_kind X) ((X_kindOf X x).trans hx) (loadGlobal_builtin (env := X.env) (X.hg ▸ T.g) (mg_none_of Sa.top.K T.g e) (X.hb ▸ T.b) ((T.builtins x hn).trans hv) (kk v s G (Up.refl Sa.on) (.raw v))) hd

/-! joints -/
noncomputable def Bop (B : Base) (A : Around) (op : Operator) (a b c : AV) : Prop :=
  ∀ (G : View) (s : Shared) (va vb : Value) (Q : Value → Shared → Prop) (E : Value → Shared → Prop), G.on s.heap → VRel G va a → VRel G vb b → (∀ v s' G', Up0 s s' G G' → VRel G' v c → Q v s') → wpAny (model B.prog B.w) A (binaryOp op va vb) Q E s
theorem ex_bin {l r : Expr} {op : Operator} {pos : Pos} {a b c : AV} (hl : Ex X σ l a) (hr : Ex X σ r b) (h : Bop B X.A op a b c) : Ex X σ (.BinOp l op r pos) c := .mk fun G s Q E Sa kk =>
  wpAny_BinOp (hl.run G s _ E Sa fun va s1 G1 u1 ra => hr.run G1 s1 _ E (Sa.upd u1) fun vb s2 G2 u2 rb => wp_tk (h G2 s2 va vb _ E u2.on (VRel.le u2.le ra) rb fun v s' G' u r tk => kk v s' G' ((u1.trans u2).trans ⟨u, tk⟩) r))
/-- what a comparison of two values gives -/
noncomputable def Cmp (B : Base) (A : Around) (op : CmpOp) (a b : AV) (c : Bool) : Prop :=
  ∀ (G : View) (s : Shared) (va vb : Value) (Q : Value → Shared → Prop) (E : Value → Shared → Prop), G.on s.heap → VRel G va a → VRel G vb b →
    (∀ s' G', Up0 s s' G G' → Q (.bool c) s') → wpAny (model B.prog B.w) A (compareOp op va vb) Q E s
theorem ex_cmp1 {l r : Expr} {op : CmpOp} {pos : Pos} {a b : AV} {c : Bool} (hl : Ex X σ l a) (hr : Ex X σ r b) (h : Cmp B X.A op a b c) (hm : behindInMarks op r = false) :
    Ex X σ (.Compare l [op] [r] pos) (.bool c) := .mk fun G s Q E Sa kk =>
  wpAny_Compare1 (hl.run G s _ E Sa fun va s1 G1 u1 ra => hr.run G1 s1 _ E (Sa.upd u1) fun vb s2 G2 u2 rb => wp_tk (h G2 s2 va vb _ E u2.on (VRel.le u2.le ra) rb fun s' G' u tk => kk _ s' G' ((u1.trans u2).trans ⟨u, tk⟩) (.bool c))) hm
theorem tst_cmp1 {l r : Expr} {op : CmpOp} {pos : Pos} {a b : AV} {c : Bool} (hl : Ex X σ l a) (hr : Ex X σ r b) (h : Cmp B X.A op a b c) (hm : behindInMarks op r = false) :
    Tst X σ (.Compare l [op] [r] pos) c := .mk fun G s Q E Sa kk =>
  wpAny_isTrue_Compare1 (hl.run G s _ E Sa fun va s1 G1 u1 ra => hr.run G1 s1 _ E (Sa.upd u1) fun vb s2 G2 u2 rb => wp_tk (h G2 s2 va vb _ E u2.on (VRel.le u2.le ra) rb fun s' G' u tk =>
    wpAny_truthy_bool (kk s' G' ((u1.trans u2).trans ⟨u, tk⟩)))) hm

theorem cmp_eq_str {A : Around} {x y : List Nat} : Cmp B A .Eq (.str x) (.str y) (x == y) := fun G s va vb Q E hG ra rb kk => by
  obtain ⟨_, _, rfl, rfl⟩ := ra.strI; obtain ⟨_, _, rfl, rfl⟩ := rb.strI; exact P.eq_str (kk s G (Up0.refl hG))
theorem cmp_ne_str {A : Around} {x y : List Nat} : Cmp B A .NotEq (.str x) (.str y) (x != y) := fun G s va vb Q E hG ra rb kk => by
  obtain ⟨_, _, rfl, rfl⟩ := ra.strI; obtain ⟨_, _, rfl, rfl⟩ := rb.strI; exact P.ne_str (kk s G (Up0.refl hG))
theorem cmp_in_str {A : Around} {c : Nat} {y : List Nat} : Cmp B A .In (.str [c]) (.str y) (decide (c ∈ y)) := fun G s va vb Q E hG ra rb kk => by
  generalize hx : [c] = x at ra
  cases ra with
  | str x t =>
    cases rb with
    | str y u =>
      have e : x = ⟨#[c]⟩ := by obtain ⟨a⟩ := x; congr 1; exact Array.toList_inj.mp hx.symm
      subst e
      refine SB.contains ?_
      rw [txt_contains]; exact kk s G (Up0.refl hG)

/-! truth -/
noncomputable def AV.truth : AV → Option Bool
  | .none => some false
  | .bool b => some b
  | .int i => some (i != 0)
  | .str x => some (!x.isEmpty)
  | .list xs => some (!xs.isEmpty)
  | _ => Option.none
noncomputable def Small : AV → Prop
  | .str x => x.length ≤ sizeLine
  | .list xs => xs.length ≤ sizeLine
  | _ => True

theorem VRels.length_eq {G : View} : ∀ {vs : List Value} {xs : List AV}, VRels G vs xs → vs.length = xs.length
  | _, _, .nil => rfl
  | _, _, .cons _ r => congrArg (· + 1) (VRels.length_eq r)
theorem VRels.get {G : View} : ∀ {vs : List Value} {xs : List AV}, VRels G vs xs → ∀ {i : Nat} {x : AV}, xs[i]? = some x → ∃ v, vs[i]? = some v ∧ VRel G v x
  | _, _, .nil, i, x, h => by simp at h
  | _, _, .cons (v := v) a r, 0, x, h => by simp at h; subst h; exact ⟨v, rfl, a⟩
  | _, _, .cons a r, i + 1, x, h => by
    obtain ⟨v, hv, hr⟩ := VRels.get r (by simpa using h)
    exact ⟨v, by simpa using hv, hr⟩
theorem VRels.app {G : View} : ∀ {vs ws : List Value} {xs ys : List AV}, VRels G vs xs → VRels G ws ys → VRels G (vs ++ ws) (xs ++ ys)
  | _, _, _, _, .nil, h => h
  | _, _, _, _, .cons a r, h => .cons a (VRels.app r h)
theorem VRels.drop {G : View} : ∀ (n : Nat) {vs : List Value} {xs : List AV}, VRels G vs xs → VRels G (vs.drop n) (xs.drop n)
  | 0, _, _, h => h
  | _ + 1, _, _, .nil => .nil
  | n + 1, _, _, .cons _ r => VRels.drop n r
theorem VRels.take {G : View} : ∀ (n : Nat) {vs : List Value} {xs : List AV}, VRels G vs xs → VRels G (vs.take n) (xs.take n)
  | 0, _, _, _ => .nil
  | _ + 1, _, _, .nil => .nil
  | n + 1, _, _, .cons a r => .cons a (VRels.take n r)
theorem VRels.slc {G : View} {vs : List Value} {xs : List AV} (h : VRels G vs xs) (lo hi : Option Int) : VRels G (Mine.slc lo hi vs) (Mine.slc lo hi xs) := by
  unfold Mine.slc; rw [VRels.length_eq h]; exact VRels.take _ (VRels.drop _ h)

theorem wp_truth {A : Around} {G : View} {s : Shared} {v : Value} {a : AV} {b : Bool} {Q : Bool → Shared → Prop} {E : Value → Shared → Prop} (hG : G.on s.heap) (r : VRel G v a) (hs : Small a) (ht : a.truth = some b)
    (kk : ∀ s' G', Up0 s s' G G' → Q b s') : wpAny (model B.prog B.w) A (truthy v) Q E s := by
  have hS : sizeLine = 16777216 := rfl
  cases r with
  | none => cases ht; exact fun _ _ _ => kk s G (Up0.refl hG)
  | bool b' => cases ht; exact wpAny_truthy_bool (kk s G (Up0.refl hG))
  | int i t => cases ht; exact truthy_int (kk s G (Up0.refl hG))
  | str x t =>
    cases ht
    simp only [Small] at hs
    have e : ((x.length : Int) != 0) = !x.cps.toList.isEmpty := by
      rw [len_toList]
      cases x.cps.toList <;> simp <;> omega
    refine P.truthy_str (by rw [len_toList]; omega) ?_
    rw [e]; exact kk _ G (Up0.ofTok hG _)
  | list h hv =>
    rename_i aa n vs xs
    cases ht
    simp only [Small] at hs
    have hl := VRels.length_eq hv
    have e : (!vs.toArray.isEmpty) = !xs.isEmpty := by
      cases vs <;> cases xs <;> simp_all
    refine wpAny_truthy_list (items := vs.toArray) ⟨_, hG _ _ h, rfl, _, rfl⟩ (by simp; omega) ?_
    rw [e]; exact kk _ G (Up0.ofTok hG _)
  | _ => cases ht

end
end Mine
end
section
open PySem PySem.W PyProof.Rows PySem.Calls
set_option Elab.async false
set_option linter.unusedVariables false
namespace Mine
section
variable {B : Base} {sc : Scope} {N : List Str} {X : FI B sc N} {σ : List Bnd}

/-! tests -/
noncomputable def plainTest : Expr → Bool
  | .UnaryOp .Not _ _ => false
  | .BoolOp .. => false
  | .IfExp .. => false
  | .Compare .. => false
  | _ => true
theorem isTrue_plain' {e : Expr} {env : Env} {whole : Sem Value} (h : plainTest e = true) : isTrue e env whole = (do let v ← whole; standAt e.pos; holding [v] (truthy v)) := by
  cases e <;> first | rfl | (cases h; done) | skip
  rename_i op x p
  cases op <;> first | rfl | cases h
theorem tst_val {e : Expr} {a : AV} {b : Bool} (h : Ex X σ e a) (ht : a.truth = some b) (hs : Small a) (hp : plainTest e = true := by rfl) : Tst X σ e b := .mk fun G s Q E Sa kk =>
  wpAny_isTrue_value (h.run G s _ E Sa fun v s1 G1 u1 r => wp_tk (wp_truth u1.on r hs ht fun s2 G2 u2 tk => kk s2 G2 (u1.trans ⟨u2, tk⟩))) (isTrue_plain' hp)
theorem tst_not {e : Expr} {b : Bool} {pos : Pos} (h : Tst X σ e b) : Tst X σ (.UnaryOp .Not e pos) (!b) := .mk fun G s Q E Sa kk =>
  wpAny_isTrue_Not (h.run G s _ E Sa fun s1 G1 u1 => kk s1 G1 u1)
/-- and, or: the tests in their order -/
structure AllT (X : FI B sc N) (σ : List Bnd) (op : BoolOp) (es : List Expr) (b : Bool) : Prop where
  run :
  ∀ (G : View) (s : Shared) (Q : Bool → Shared → Prop) (E : Value → Shared → Prop), Sat X G σ s → (∀ s' G', Up s s' G G' → Q b s') → wpAny (model B.prog B.w) X.A (allTrue op es X.env) Q E s
theorem tst_bool {op : BoolOp} {es : List Expr} {b : Bool} {pos : Pos} (h : AllT X σ op es b) : Tst X σ (.BoolOp op es pos) b := .mk fun G s Q E Sa kk =>
  wpAny_isTrue_BoolOp (h.run G s Q E Sa kk)
theorem and_nil : AllT X σ .And [] true := .mk fun G s Q E Sa kk => wpAny_allTrue_And_nil (kk s G (Up.refl Sa.on))
theorem or_nil : AllT X σ .Or [] false := .mk fun G s Q E Sa kk => wpAny_allTrue_Or_nil (kk s G (Up.refl Sa.on))
theorem and_cons {e : Expr} {r : List Expr} {b c : Bool} (h : Tst X σ e b) (h' : b = true → AllT X σ .And r c) : AllT X σ .And (e :: r) (b && c) := .mk fun G s Q E Sa kk =>
  wpAny_allTrue_And_cons (h.run G s _ E Sa fun s1 G1 u1 => by
    cases b
    · exact kk s1 G1 u1
    · exact (h' rfl).run G1 s1 Q E (Sa.upd u1) fun s2 G2 u2 => by simpa using kk s2 G2 (u1.trans u2))
theorem or_cons {e : Expr} {r : List Expr} {b c : Bool} (h : Tst X σ e b) (h' : b = false → AllT X σ .Or r c) : AllT X σ .Or (e :: r) (b || c) := .mk fun G s Q E Sa kk =>
  wpAny_allTrue_Or_cons (h.run G s _ E Sa fun s1 G1 u1 => by
    cases b
    · exact (h' rfl).run G1 s1 Q E (Sa.upd u1) fun s2 G2 u2 => by simpa using kk s2 G2 (u1.trans u2)
    · exact kk s1 G1 u1)

theorem Tst.of {e : Expr} {b b' : Bool} (h : Tst X σ e b) (e' : b = b') : Tst X σ e b' := e' ▸ h
theorem ex_ifexp {t e1 e2 : Expr} {b : Bool} {a : AV} {pos : Pos} (h : Tst X σ t b) (h1 : b = true → Ex X σ e1 a) (h2 : b = false → Ex X σ e2 a) : Ex X σ (.IfExp t e1 e2 pos) a := .mk fun G s Q E Sa kk =>
  wpAny_IfExp (h.run G s _ E Sa fun s1 G1 u1 => by
    cases b
    · exact (h2 rfl).run G1 s1 Q E (Sa.upd u1) fun v s2 G2 u2 r => kk v s2 G2 (u1.trans u2) r
    · exact (h1 rfl).run G1 s1 Q E (Sa.upd u1) fun v s2 G2 u2 r => kk v s2 G2 (u1.trans u2) r)
theorem ex_or2 {e1 e2 : Expr} {a c : AV} {b : Bool} {pos : Pos} (h : Ex X σ e1 a) (hs : Small a) (ht : a.truth = some b) (h1 : b = true → a = c) (h2 : b = false → Ex X σ e2 c) : Ex X σ (.BoolOp .Or [e1, e2] pos) c := .mk fun G s Q E Sa kk =>
  BoolOp_or (h.run G s _ E Sa fun v s1 G1 u1 r => wp_tk (wp_truth u1.on r hs ht fun s2 G2 u2 tk => by
    have u12 := u1.trans ⟨u2, tk⟩
    cases b
    · exact BoolOp_one ((h2 rfl).run G2 s2 Q E (Sa.upd u12) fun v s3 G3 u3 r3 => kk v s3 G3 (u12.trans u3) r3)
    · exact kk v s2 G2 u12 (h1 rfl ▸ VRel.le u2.le r)))

/-! lists of expressions -/
structure Es (X : FI B sc N) (σ : List Bnd) (es : List Expr) (rs : List AV) : Prop where
  run :
  ∀ (pos : Pos) (G : View) (s : Shared) (Q : List Value → Shared → Prop) (E : Value → Shared → Prop), Sat X G σ s →
    (∀ vs s' G', Up s s' G G' → VRels G' vs rs → Q vs s') → wpAny (model B.prog B.w) X.A (spliced (backTo pos (starEach es X.env))) Q E s
theorem es_nil : Es X σ [] [] := .mk fun pos G s Q E Sa kk => wpAny_items_nil (kk [] s G (Up.refl Sa.on) .nil)
theorem es_cons {e : Expr} {es : List Expr} {r : AV} {rs : List AV} (h : Ex X σ e r) (h' : Es X σ es rs) (hn : notStar e = true := by rfl) : Es X σ (e :: es) (r :: rs) := .mk fun pos G s Q E Sa kk =>
  wpAny_items_cons (h.run G s _ E Sa fun v s1 G1 u1 rv => h'.run pos G1 s1 _ E (Sa.upd u1) fun vs s2 G2 u2 rvs => kk (v :: vs) s2 G2 (u1.trans u2) (.cons (VRel.le u2.le rv) rvs)) (starEach_cons hn)

theorem ex_tuple {es : List Expr} {rs : List AV} {k : Nat} {pos : Pos} (h : Es X σ es rs) (hn : rs.length ≤ sizeLine := by decide) : Ex X σ (.Tuple es k pos) (.tup rs) := .mk fun G s Q E Sa kk =>
  wpAny_Tuple (h.run pos G s _ E Sa fun vs s1 G1 u1 rv => ⟨by rw [VRels.length_eq rv]; exact hn, by
    have u := u1.push { cls := .type "tuple", data := .seq vs.toArray } rfl
    refine kk _ _ _ u (.tup (View.add_self _ _ _) (VRels.le (View.le_add _ ?_) rv))
    cases q : G1 s1.heap.objs.size with
    | none => rfl
    | some o => exact absurd (Heap.lt_size (u1.on _ _ q)) (Nat.lt_irrefl _)⟩)
theorem ex_list {es : List Expr} {rs : List AV} {pos : Pos} (h : Es X σ es rs) (hn : rs.length ≤ sizeLine := by decide) : Ex X σ (.List es pos) (.list rs) := .mk fun G s Q E Sa kk =>
  wpAny_List (h.run pos G s _ E Sa fun vs s1 G1 u1 rv => ⟨by rw [VRels.length_eq rv]; exact hn, by
    have u := u1.push { cls := .type "list", data := .seq vs.toArray } rfl
    refine kk _ _ _ u (.list (View.add_self _ _ _) (VRels.le (View.le_add _ ?_) rv))
    cases q : G1 s1.heap.objs.size with
    | none => rfl
    | some o => exact absurd (Heap.lt_size (u1.on _ _ q)) (Nat.lt_irrefl _)⟩)

/-! calls -/
/-- the caller that the machine asks for is one of the plain ones -/
noncomputable def Callee (K : Frag) : Value → Bool
  | .ref a => keepIn K (.ref a)
  | .builtin _ => true
  | .type _ => true
  | _ => false
theorem callee_keeps {K : Frag} {M : Model} {f : Value} (hk : Callee K f = true) (h : Heap) (Xk : K.In h) : ∃ k, (k = Keeper.frame ∨ k = Keeper.machine ∨ k = Keeper.boundFrame) ∧ Looks M h (keeperOf f) k := by
  cases f with
  | ref a => exact keeps_K (f := .ref a) (show keepIn K (.ref a) = true from hk) h Xk
  | builtin i => exact ⟨.machine, .inr (.inl rfl), Looks.of_pure rfl⟩
  | type i => exact ⟨.machine, .inr (.inl rfl), Looks.of_pure rfl⟩
  | _ => cases hk

noncomputable def notAttr : Expr → Bool
  | .Attribute .. => false
  | _ => true
theorem eval_call {f : Expr} {args : List Expr} {pos : Pos} {env : Env} (h : notAttr f = true) :
    eval (.Call f args [] pos) env = (do callWith pos (← eval f env) [] (backTo pos (starEach args env)) (backToKw pos (keywordEach [] env))) := by
  cases f <;> first | rfl | cases h

theorem hasStar_false {es : List Expr} {env : Env} {pos : Pos} : notStars es = true → (backTo pos (starEach es env)).any (·.1) = false := by
  induction es with
  | nil => intro _; rfl
  | cons e r ih =>
    intro h
    rw [notStars, Bool.and_eq_true] at h
    rw [starEach_cons h.1]
    show (false || _) = false
    rw [Bool.false_or]; exact ih h.2

/-- a callable, in this frame -/
noncomputable def FnIn (X : FI B sc N) (f : Value) (args : List AV) (r : AV) : Prop :=
  ∀ (G : View) (s : Shared) (vs : List Value) (Q : Value → Shared → Prop) (E : Value → Shared → Prop), Tp B s.heap → FramesOk X.A G s.heap → 1 ≤ s.toks → G.on s.heap → VRels G vs args →
    (∀ v s' G', Up0 s s' G G' → VRel G' v r → Q v s') → wpAny (model B.prog B.w) X.A (call f vs) Q E s
theorem Fn.inX {f : Value} {l : Nat} {args : List AV} {r : AV} (h : Fn B f l args r) (hl : l ≤ X.lvl) : FnIn X f args r := fun G s vs Q E T fr ht hG rv kk =>
  h X.A G s vs Q E X.hh (by have := X.hd; omega) (by have := X.hu; omega) T fr ht hG rv fun v s' G' u => kk v s' G' u.toUp0

theorem ex_call {fe : Expr} {es : List Expr} {f : Value} {rs : List AV} {r : AV} {pos : Pos} (hf : Ex X σ fe (.raw f)) (hes : Es X σ es rs) (hfn : FnIn X f rs r) (hk : Callee B.K f = true)
    (hne : es ≠ [] := by simp) (hn : notAttr fe = true := by rfl) (hst : notStars es = true := by rfl) : Ex X σ (.Call fe es [] pos) r := .mk fun G s Q E Sa kk => by
  rw [eval_call hn]
  refine wpAny_bind (hf.run G s _ E Sa fun v s1 G1 u1 rv => ?_)
  cases rv
  have hst' := hasStar_false (env := X.env) (pos := pos) hst
  refine callWith_of (P := fun h => B.K.In h) (by rw [hst']; rfl) (fun h Xk => callee_keeps hk h Xk) ?_
  cases es with
  | nil => exact absurd rfl hne
  | cons e es =>
    rw [notStars, Bool.and_eq_true] at hst
    have hsp := hes.run pos G1 s1 (fun vs s' => B.K.In s'.heap ∧ wpAny (model B.prog B.w) X.A (call f ([] ++ vs) []) Q E s') E (Sa.upd u1) fun vs s2 G2 u2 rvs =>
      ⟨(Sa.upd (u1.trans u2)).top.K, wp_tk (hfn G2 s2 vs _ E (Sa.upd (u1.trans u2)).top (Sa.upd (u1.trans u2)).frames (Sa.upd (u1.trans u2)).tk u2.on rvs fun v s3 G3 u3 r3 tk => kk v s3 G3 ((u1.trans u2).trans ⟨u3, tk⟩) r3)⟩
    rw [starEach_cons hst.1] at hsp ⊢
    exact evalArgs_plain hsp

/-! operators -/
theorem bop_add_str {A : Around} {x y : List Nat} (hn : x.length + y.length ≤ sizeLine) : Bop B A .Add (.str x) (.str y) (.str (x ++ y)) := fun G s va vb Q E hG ra rb kk => by
  obtain ⟨x, t, rfl, rfl⟩ := ra.strI; obtain ⟨y, u, rfl, rfl⟩ := rb.strI
  refine SB.add (fun t' k => kk _ _ G (Up0.ofTok hG k) ?_) (by rw [len_toList, len_toList]; exact hn)
  have := VRel.str (G := G) (x ++ y) t'
  rwa [Str.cps_append, Array.toList_append] at this
theorem bop_add_int {A : Around} {x y : Int} : Bop B A .Add (.int x) (.int y) (.int (x + y)) := fun G s va vb Q E hG ra rb kk => by
  obtain ⟨_, rfl⟩ := ra.intI; obtain ⟨_, rfl⟩ := rb.intI
  exact wpAny_add_int (kk _ _ G (Up0.ofTok hG _) (.int _ _))
theorem Up0.pushList {s : Shared} {G : View} {vs : List Value} {xs : List AV} (hG : G.on s.heap) (r : VRels G vs xs) {Q : Value → Shared → Prop} (kk : ∀ v s' G', Up0 s s' G G' → VRel G' v (.list xs) → Q v s') :
    Q (.ref s.heap.objs.size) { s with heap := s.heap.push { cls := .type "list", data := .seq vs.toArray } } := by
  refine kk _ _ _ ((Up0.refl hG).push _ rfl) (.list (View.add_self _ _ _) (VRels.le (View.le_add _ ?_) r))
  cases q : G s.heap.objs.size with
  | none => rfl
  | some o => exact absurd (Heap.lt_size (hG _ _ q)) (Nat.lt_irrefl _)
theorem bop_add_list {A : Around} {x y : List AV} (hn : x.length + y.length ≤ sizeLine) : Bop B A .Add (.list x) (.list y) (.list (x ++ y)) := fun G s va vb Q E hG ra rb kk => by
  obtain ⟨_, _, _, rfl, ga, ra⟩ := ra.listI
  obtain ⟨_, _, _, rfl, gb, rb⟩ := rb.listI
  refine P.add_list (hG _ _ ga) (hG _ _ gb) ?_ (by simp only [List.size_toArray]; rw [VRels.length_eq ra, VRels.length_eq rb]; exact hn)
  rw [List.append_toArray]
  exact Up0.pushList hG (VRels.app ra rb) kk

/-! statements -/
theorem sx_nil : Sx X σ [] (.next σ) := .mk fun G s Q E Sa kk => wpAny_execs_nil (kk .next s G G.le_refl Sa)
theorem sx_cons {st : Stmt} {r : List Stmt} {τ : List Bnd} {o : Out} (h : S1 X σ st (.next τ)) (h' : Sx X τ r o) : Sx X σ (st :: r) o := .mk fun G s Q E Sa kk =>
  wpAny_execs_cons (h.run G s _ E Sa fun fl s1 G1 l1 f1 => by
    cases fl with
    | next => exact h'.run G1 s1 Q E f1 fun fl s2 G2 l2 f2 => kk fl s2 G2 (View.le_trans l1 l2) f2
    | _ => exact f1.elim)
theorem sx_one {st : Stmt} {r : List Stmt} {o : Out} (h : S1 X σ st o) (ho : ∀ τ, o ≠ .next τ) : Sx X σ (st :: r) o := .mk fun G s Q E Sa kk =>
  wpAny_execs_cons (h.run G s _ E Sa fun fl s1 G1 l1 f1 => by
    cases fl with
    | next => cases o <;> first | exact absurd rfl (ho _) | exact f1.elim
    | _ => exact kk _ s1 G1 l1 f1)
theorem s1_ret {e : Expr} {a : AV} {pos : Pos} (h : Ex X σ e a) : S1 X σ (.Return (some e) pos) (.ret a) := .mk fun G s Q E Sa kk =>
  wpAny_Return_some (h.run G s _ E Sa fun v s1 G1 u1 r => kk (.ret v) s1 G1 u1.le ⟨Sa.up.trans u1, r⟩)
theorem sx_ret {e : Expr} {a : AV} {pos : Pos} {r : List Stmt} (h : Ex X σ e a) : Sx X σ (.Return (some e) pos :: r) (.ret a) := sx_one (s1_ret h) (fun _ e => by cases e)
theorem s1_cont {pos : Pos} : S1 X σ (.Continue pos) (.cont σ) := .mk fun G s Q E Sa kk => wpAny_Continue (kk .cont s G G.le_refl Sa)
theorem s1_brk {pos : Pos} : S1 X σ (.Break pos) (.brk σ) := .mk fun G s Q E Sa kk => wpAny_Break (kk .brk s G G.le_refl Sa)
theorem s1_if {t : Expr} {b : Bool} {body orelse : List Stmt} {o : Out} {pos : Pos} (h : Tst X σ t b) (h1 : b = true → Sx X σ body o) (h2 : b = false → Sx X σ orelse o) : S1 X σ (.If t body orelse pos) o := .mk fun G s Q E Sa kk =>
  wpAny_If (h.run G s _ E Sa fun s1 G1 u1 => by
    cases b
    · exact (h2 rfl).run G1 s1 Q E (Sa.upd u1) fun fl s2 G2 l2 f2 => kk fl s2 G2 (View.le_trans u1.le l2) f2
    · exact (h1 rfl).run G1 s1 Q E (Sa.upd u1) fun fl s2 G2 l2 f2 => kk fl s2 G2 (View.le_trans u1.le l2) f2)
theorem sx_if_t {t : Expr} {b : Bool} {body orelse r : List Stmt} {τ : List Bnd} {o : Out} {pos : Pos} (h : Tst X σ t b) (hb : b = true) (h1 : Sx X σ body (.next τ)) (hr : Sx X τ r o) : Sx X σ (.If t body orelse pos :: r) o :=
  sx_cons (s1_if h (fun _ => h1) fun e => by rw [hb] at e; cases e) hr
theorem sx_if_f {t : Expr} {b : Bool} {body orelse r : List Stmt} {τ : List Bnd} {o : Out} {pos : Pos} (h : Tst X σ t b) (hb : b = false) (h1 : Sx X σ orelse (.next τ)) (hr : Sx X τ r o) : Sx X σ (.If t body orelse pos :: r) o :=
  sx_cons (s1_if h (fun e => by rw [hb] at e; cases e) fun _ => h1) hr
theorem sx_if_skip {t : Expr} {b : Bool} {body r : List Stmt} {o : Out} {pos : Pos} (h : Tst X σ t b) (hb : b = false) (hr : Sx X σ r o) : Sx X σ (.If t body [] pos :: r) o := sx_if_f h hb sx_nil hr
noncomputable def Out.leaves : Out → Bool
  | .next _ => false
  | _ => true
theorem sx_if_tr {t : Expr} {b : Bool} {body orelse r : List Stmt} {o : Out} {pos : Pos} (h : Tst X σ t b) (hb : b = true) (h1 : Sx X σ body o) (ho : o.leaves = true := by rfl) : Sx X σ (.If t body orelse pos :: r) o :=
  sx_one (s1_if h (fun _ => h1) fun e => by rw [hb] at e; cases e) fun τ e => by subst e; cases ho
theorem sx_if_fr {t : Expr} {b : Bool} {body orelse r : List Stmt} {o : Out} {pos : Pos} (h : Tst X σ t b) (hb : b = false) (h1 : Sx X σ orelse o) (ho : o.leaves = true := by rfl) : Sx X σ (.If t body orelse pos :: r) o :=
  sx_one (s1_if h (fun e => by rw [hb] at e; cases e) fun _ => h1) fun τ e => by subst e; cases ho
end
end Mine
end
section
open PySem PySem.W PyProof.Rows PySem.Calls
set_option Elab.async false
set_option linter.unusedVariables false
namespace Mine
section
variable {B : Base} {sc : Scope} {N : List Str} {X : FI B sc N} {σ : List Bnd}

theorem set_look {i j : Nat} {b b' : Bnd} (h : (σ.set i b)[j]? = some b') : (j = i ∧ b' = b) ∨ (j ≠ i ∧ σ[j]? = some b') := by
  rw [List.getElem?_set] at h
  split at h
  · split at h
    · cases h; exact .inl ⟨by omega, rfl⟩
    · cases h
  · exact .inr ⟨by omega, h⟩

/-- one object of the frame's own is turned; the rest stands -/
theorem Sat.turn {G : View} {s : Shared} {h' : Heap} {k : Nat} {a : Addr} (Sa : Sat X G σ s) (hs : Heap.SameBut a s.heap h') (h0 : X.s₀.heap.objs.size ≤ a) (hG : G a = none) (hk : s.toks ≤ k) : Up X.s₀ { s with heap := h', toks := k } X.G₀ G :=
  ⟨⟨fun b o e => (by
      obtain ⟨sl, e1, k1⟩ := Sa.up.keep b o e
      exact ⟨sl, (hs.2 b (Nat.ne_of_lt (Nat.lt_of_lt_of_le (Heap.lt_size e) h0))).trans e1, k1⟩), by show _ ≤ h'.objs.size; rw [hs.1]; exact Sa.up.size, Sa.up.gens, Sa.up.os, Sa.up.le,
    fun b o e => (hs.2 b (fun q => by rw [q, hG] at e; cases e)).trans (Sa.up.on b o e), Sa.up.new⟩, Nat.le_trans Sa.up.tk hk⟩

theorem OwnIs.turn {G : View} {h h' : Heap} {v : Value} {xs : List AV} {c : Addr} (O : OwnIs X G h v xs) (hs : Heap.SameBut c h h') (hc : ∀ a, v = .ref a → a ≠ c) : OwnIs X G h' v xs := by
  obtain ⟨a, vs, e, hl, r⟩ := O.ex
  exact ⟨a, vs, e, hl.at fun o q => (hs.2 a (hc a e)).trans q, r⟩
theorem BndIs.turn {G : View} {h h' : Heap} {v : Value} {b : Bnd} {c : Addr} (O : BndIs X G h v b) (hs : Heap.SameBut c h h') (hc : ∀ a xs, b = .own xs → v = .ref a → a ≠ c) : BndIs X G h' v b := by
  cases b with
  | no => trivial
  | val a => exact O
  | own xs => exact OwnIs.turn O hs fun a e => hc a xs rfl e

theorem store' {x : Str} {i : Nat} {a : AV} {v : Value} {G : View} {s : Shared} {Q : Unit → Shared → Prop} {E : Value → Shared → Prop} (Sa : Sat X G σ s) (ha : At N i x) (hx : sc.names.lookup x = some .local ∨ X.own = true)
    (hr : VRel G v a) (kk : ∀ s', Sat X G (σ.set i (.val a)) s' → (∀ b o, b ≠ X.env.locals → (∀ y c, X.env.cells.lookup y = some c → b ≠ c) → s.heap.get? b = some o → s'.heap.get? b = some o) → Q () s') : wpAny (model B.prog B.w) X.A (storeName X.env x v) Q E s := by
  obtain ⟨m, hm, hv⟩ := Sa.ns
  have hL := X.hL
  have hxx : sc.names.lookup x = some .local ∨ (sc.names.lookup x = some .cell ∧ X.own = true) := by
    rcases hx with h | h
    · exact .inl h
    · rcases X.hv x ha.mem with h1 | ⟨h1 | h1, _⟩
      · exact .inl h1
      · exact .inr ⟨h1, h⟩
      · exact absurd h1 (X.hown h x ha.mem)
  rcases hxx with hl | ⟨hc, ho⟩
  · refine wpAny_storeName_local ((X_kindOf X x).trans hl) hm (fun h' hn' hs => kk _ ⟨Sa.turn hs hL Sa.nL (Nat.le_succ _), Sa.nL, Sa.nC, fun y' c' hp => ?_, _, hn', fun j y b hj hb => ?_⟩ fun b o hb _ e => (hs.2 b hb).trans e) (by rw [X_kind X]; rfl)
    · obtain ⟨v', hv'⟩ := Sa.cells y' c' hp
      exact ⟨v', hv'.sameBut hs (X.hne _ (mem_of_lookup hp))⟩
    · rcases set_look hb with ⟨rfl, rfl⟩ | ⟨hne, hb⟩
      · have e : y = x := by have := hj.get; rw [ha.get] at this; exact (Option.some.inj this).symm
        subst e
        exact .inr ⟨v, .inl ⟨hl, if_pos rfl⟩, hr⟩
      · have hyx : y ≠ x := fun e => hne (At.inj X.hN (e ▸ hj) ha)
        rcases hv j y b hj hb with h | ⟨v', hl', hb'⟩
        · exact .inl h
        · refine .inr ⟨v', ?_, BndIs.turn hb' hs fun a xs e1 e2 => ?_⟩
          · rcases hl' with ⟨h1, h2⟩ | ⟨h1, c, h2, h3⟩
            · exact .inl ⟨h1, by dsimp only; rw [if_neg hyx]; exact h2⟩
            · exact .inr ⟨h1, c, h2, h3.sameBut hs (X.hne _ (mem_of_lookup h2))⟩
          · subst e1
            obtain ⟨a', vs, e, _, _, _, _, hne', _⟩ := OwnIs.ex hb'
            rw [e2] at e; cases e; exact hne'
  · rcases X.hv x ha.mem with h1 | ⟨_, c, hcl⟩
    · rw [hc] at h1; cases h1
    have hmem := mem_of_lookup hcl
    obtain ⟨v₀, hv₀⟩ := Sa.cells _ _ hcl
    have hLc := X.habove ho _ hmem
    refine wpAny_storeName_cell (X_kind X) ((X_kindOf X x).trans hc) hcl hv₀ fun h' hc' hs => kk _ ⟨Sa.turn hs (Nat.le_trans hL (Nat.le_of_lt hLc)) (Sa.nC _ _ hcl) (Nat.le_refl _), Sa.nL, Sa.nC, fun y' c' hp => ?_, _, hm.sameBut hs (Nat.ne_of_lt hLc), fun j y b hj hb => ?_⟩ fun b o _ hb e => (hs.2 b (hb _ _ hcl)).trans e
    · by_cases hpc : c' = c
      · exact ⟨_, hpc ▸ hc'⟩
      · obtain ⟨v', hv'⟩ := Sa.cells y' c' hp
        exact ⟨v', hv'.sameBut hs hpc⟩
    · rcases set_look hb with ⟨rfl, rfl⟩ | ⟨hne, hb⟩
      · have e : y = x := by have := hj.get; rw [ha.get] at this; exact (Option.some.inj this).symm
        subst e
        exact .inr ⟨v, .inr ⟨.inl hc, c, hcl, hc'⟩, hr⟩
      · have hyx : y ≠ x := fun e => hne (At.inj X.hN (e ▸ hj) ha)
        rcases hv j y b hj hb with h | ⟨v', hl', hb'⟩
        · exact .inl h
        · refine .inr ⟨v', ?_, BndIs.turn hb' hs fun a xs e1 e2 => ?_⟩
          · rcases hl' with ⟨h1, h2⟩ | ⟨h1, c', h2, h3⟩
            · exact .inl ⟨h1, h2⟩
            · exact .inr ⟨h1, c', h2, h3.sameBut hs fun e => hyx (name_of_addr (X.hap ho) (mem_of_lookup h2) (e ▸ hmem))⟩
          · subst e1
            obtain ⟨a', vs, e, _, _, _, _, _, hcc⟩ := OwnIs.ex hb'
            rw [e2] at e; cases e; exact fun q => hcc _ _ hcl q.symm

theorem store {x : Str} {i : Nat} {a : AV} {v : Value} {G : View} {s : Shared} {Q : Unit → Shared → Prop} {E : Value → Shared → Prop} (Sa : Sat X G σ s) (ha : At N i x) (hx : sc.names.lookup x = some .local ∨ X.own = true)
    (hr : VRel G v a) (kk : ∀ s', Sat X G (σ.set i (.val a)) s' → Q () s') : wpAny (model B.prog B.w) X.A (storeName X.env x v) Q E s := store' Sa ha hx hr fun s' S' _ => kk s' S'

/-! assignments -/
noncomputable def noComp : Expr → Bool
  | .ListComp .. => false
  | .SetComp .. => false
  | .DictComp .. => false
  | _ => true
theorem swaps_no {e : Expr} {t : Option Expr} {l : Nat} {env : Env} (h : noComp e = true) : swapsWith e t l env = pure false := by
  cases e <;> first | rfl | cases h
theorem s1_assign {x : Str} {e : Expr} {a : AV} {τ : List Bnd} {p pos : Pos} (h : Ex X σ e a) (hs : Set1 N σ x (.val a) τ) (hx : sc.names.lookup x = some .local ∨ X.own = true) (hn : noComp e = true := by rfl) :
    S1 X σ (.Assign [.Name x p] e pos) (.next τ) := .mk fun G s Q E Sa kk => by
  obtain ⟨i, ha, rfl⟩ := hs.at_
  exact wpAny_Assign_Name (h.run G s _ E Sa fun v s1 G1 u1 r => store (Sa.upd u1) ha hx r fun s2 S2 => kk .next s2 G1 u1.le S2) (swaps_no hn)
noncomputable def Iop (B : Base) (A : Around) (op : Operator) (a b c : AV) : Prop :=
  ∀ (G : View) (s : Shared) (va vb : Value) (Q : Value → Shared → Prop) (E : Value → Shared → Prop), G.on s.heap → VRel G va a → VRel G vb b → (∀ v s' G', Up0 s s' G G' → VRel G' v c → Q v s') → wpAny (model B.prog B.w) A (inplaceOp op va vb) Q E s
theorem s1_aug {x : Str} {op : Operator} {e : Expr} {a b c : AV} {τ : List Bnd} {p pos : Pos} (hv : Var N σ x (.val a)) (h : Ex X σ e b) (hop : Iop B X.A op a b c) (hs : Set1 N σ x (.val c) τ)
    (hx : sc.names.lookup x = some .local ∨ X.own = true) : S1 X σ (.AugAssign (.Name x p) op e pos) (.next τ) := .mk fun G s Q E Sa kk => by
  obtain ⟨j, ha', hb⟩ := hv.at_
  obtain ⟨i, ha, rfl⟩ := hs.at_
  obtain rfl := At.inj X.hN ha' ha
  refine wpAny_AugAssign_Name ?_
  obtain ⟨m, hm, hv⟩ := Sa.ns
  obtain ⟨hd, hcd⟩ := X.hdbg x ha.mem
  have go : ∀ v, VRel G v a → wpAny (model B.prog B.w) X.A (eval e X.env) (fun vb s₂ => wpAny (model B.prog B.w) X.A (inplaceOp op v vb) (fun r s₃ => wpAny (model B.prog B.w) X.A (storeName X.env x r) (fun _ => Q .next) E s₃) E s₂) E s := fun v rv =>
    h.run G s _ E Sa fun vb s2 G2 u2 rb => wp_tk (hop G2 s2 v vb _ E u2.on (VRel.le u2.le rv) rb fun r s3 G3 u3 r3 tk => store (Sa.upd (u2.trans ⟨u3, tk⟩)) ha hx r3 fun s4 S4 => kk .next s4 G3 (View.le_trans u2.le u3.le) S4)
  rcases hv _ x _ ha hb with h' | ⟨v, hl, hb⟩
  · cases h'
  · rcases hl with ⟨hk, hmx⟩ | ⟨hk, c, hc, hi⟩
    · exact wpAny_loadName_local (X_kind X) ((X_kindOf X x).trans hk) hm hmx (go v hb)
    · rcases hk with hk | hk
      · exact wpAny_loadName_cell (X_kind X) ((X_kindOf X x).trans hk) hc hi (go v hb)
      · exact wpAny_loadName_free (X_kind X) ((X_kindOf X x).trans hk) hc hi (go v hb) hcd
theorem iop_str {A : Around} {y z : List Nat} (hn : y.length + z.length ≤ sizeLine) : Iop B A .Add (.str y) (.str z) (.str (y ++ z)) := fun G s va vb Q E hG ra rb kk => by
  obtain ⟨x, t, rfl, rfl⟩ := ra.strI; obtain ⟨y, u, rfl, rfl⟩ := rb.strI
  refine SB.iadd (fun t' k => kk _ _ G (Up0.ofTok hG k) ?_) (by rw [len_toList, len_toList]; exact hn)
  have := VRel.str (G := G) (x ++ y) t'
  rwa [Str.cps_append, Array.toList_append] at this
theorem iop_int {A : Around} {y z : Int} : Iop B A .Add (.int y) (.int z) (.int (y + z)) := fun G s va vb Q E hG ra rb kk => by
  obtain ⟨_, rfl⟩ := ra.intI; obtain ⟨_, rfl⟩ := rb.intI
  exact wpAny_iadd_int (kk _ _ G (Up0.ofTok hG _) (.int _ _))
end
end Mine
end
section
open PySem PySem.W PyProof.Rows PySem.Calls
set_option Elab.async false
set_option linter.unusedVariables false
namespace Mine
section
variable {B : Base}

theorem bindL_keep {k : Str → Option NameKind} {x : Str} : ∀ (bs : List (Str × Value)) (m : Str → Option Value), x ∉ bs.map (·.1) → bindL k bs m x = m x
  | [], m, _ => rfl
  | (n, v) :: r, m, h => by
    unfold bindL
    have hx : x ≠ n := fun e => h (by rw [e]; exact .head _)
    rw [bindL_keep r _ fun q => h (.tail _ q)]
    split
    · exact if_neg hx
    · rfl
theorem bindC_keep {k : Str → Option NameKind} {x : Str} : ∀ (bs : List (Str × Value)) (m : Str → Option Value), x ∉ bs.map (·.1) → bindC k bs m x = m x
  | [], m, _ => rfl
  | (n, v) :: r, m, h => by
    unfold bindC
    have hx : x ≠ n := fun e => h (by rw [e]; exact .head _)
    rw [bindC_keep r _ fun q => h (.tail _ q)]
    split
    · rfl
    · exact if_neg hx
theorem bindL_get {k : Str → Option NameKind} {x : Str} {v : Value} (hk : k x = some .local) : ∀ (bs : List (Str × Value)) (m : Str → Option Value) (i : Nat), (bs.map (·.1)).Nodup → bs[i]? = some (x, v) → bindL k bs m x = some v
  | [], m, i, _, h => by simp at h
  | (n, u) :: r, m, 0, hn, h => by
    simp at h; obtain ⟨rfl, rfl⟩ := h
    unfold bindL
    rw [bindL_keep r _ (List.pairwise_cons.mp hn |>.1 |> fun q hm => q _ hm rfl), if_pos hk, if_pos rfl]
  | (n, u) :: r, m, i + 1, hn, h => by
    unfold bindL
    exact bindL_get hk r _ i (List.pairwise_cons.mp hn).2 (by simpa using h)
theorem bindC_get {k : Str → Option NameKind} {x : Str} {v : Value} (hk : k x ≠ some .local) : ∀ (bs : List (Str × Value)) (m : Str → Option Value) (i : Nat), (bs.map (·.1)).Nodup → bs[i]? = some (x, v) → bindC k bs m x = some v
  | [], m, i, _, h => by simp at h
  | (n, u) :: r, m, 0, hn, h => by
    simp at h; obtain ⟨rfl, rfl⟩ := h
    unfold bindC
    rw [bindC_keep r _ (List.pairwise_cons.mp hn |>.1 |> fun q hm => q _ hm rfl), if_neg hk, if_pos rfl]
  | (n, u) :: r, m, i + 1, hn, h => by
    unfold bindC
    exact bindC_get hk r _ i (List.pairwise_cons.mp hn).2 (by simpa using h)

theorem cellsFrom_keeps {x : Str} : ∀ (names : List (Str × NameKind)) (n : Nat) (acc : List (Str × Addr)), (acc.lookup x).isSome = true → ((cellsFrom n names acc).lookup x).isSome = true
  | [], n, acc, h => h
  | (name, kind) :: r, n, acc, h => by
    unfold cellsFrom
    split
    · refine cellsFrom_keeps r _ _ ?_
      rw [List.lookup_cons]; split <;> simp_all
    · exact cellsFrom_keeps r _ _ h
theorem cellsFrom_has {x : Str} : ∀ (names : List (Str × NameKind)) (n : Nat) (acc : List (Str × Addr)), names.lookup x = some .cell → ((cellsFrom n names acc).lookup x).isSome = true
  | [], n, acc, h => by simp at h
  | (name, kind) :: r, n, acc, h => by
    rw [List.lookup_cons] at h
    unfold cellsFrom
    cases hx : x == name with
    | true =>
      simp only [hx] at h
      cases h
      refine cellsFrom_keeps r _ _ ?_
      simp [List.lookup_cons, hx]
    | false =>
      simp only [hx] at h
      split
      · exact cellsFrom_has r _ _ h
      · exact cellsFrom_has r _ _ h

noncomputable def distinct : List Str → Bool
  | [] => true
  | x :: r => r.all (· != x) && distinct r
theorem distinct_nodup : ∀ {N : List Str}, distinct N = true → N.Nodup
  | [], _ => List.nodup_nil
  | x :: r, h => by
    rw [distinct, Bool.and_eq_true] at h
    refine List.nodup_cons.mpr ⟨fun hm => ?_, distinct_nodup h.2⟩
    have := List.all_eq_true.mp h.1 x hm
    simp at this
/-- the names that a frame's state follows: its locals and cells -/
noncomputable def okNames (sc : Scope) (N : List Str) : Bool :=
  distinct N && N.all fun x => (sc.names.lookup x == some .local || sc.names.lookup x == some .cell) && !(x == ("__debug__" : Str)) && !(x == ("__classdict__" : Str))

structure FnDef (K : Frag) (f : Addr) (fd : FuncData) (body : List Stmt) : Prop where
  ex : ∃ oc od osl, K.lookup f = some ⟨oc, od, .func fd, osl⟩
  code : codeIn K fd.code fd.qualname = true
  hbody : fd.body = .stmts body
  hclo : fd.closure = []
  hg : fd.globals = mainGlobals
  hbl : fd.builtins = builtinsNs
  hco : fd.scope.isCoroutine = false
  hgen : fd.scope.isGenerator = false
  hk : fd.scope.kind = .function

/-- how the arguments are bound -/
noncomputable def BindsBy (B : Base) (fd : FuncData) (ps : List Str) (args args' : List AV) : Prop :=
  ∀ (A : Around) (G : View) (s : Shared) (vs : List Value) (Q : List (Str × Value) → Shared → Prop) (E : Value → Shared → Prop), Tp B s.heap → G.on s.heap → VRels G vs args →
    (∀ ws s' G', Up0 s s' G G' → VRels G' ws args' → ws.length = ps.length → Q (ps.zip ws) s') → wpAny (model B.prog B.w) A (bindArgs fd ⟨vs, []⟩) Q E s

theorem zip_fst : ∀ {ps : List Str} {ws : List Value}, ws.length = ps.length → (ps.zip ws).map (·.1) = ps
  | [], ws, _ => by cases ws <;> rfl
  | p :: ps, [], h => by simp at h
  | p :: ps, w :: ws, h => by simpa using zip_fst (by simpa using h)
theorem zip_at {N : List Str} : ∀ {ps : List Str} {ws : List Value} {i : Nat} {x : Str} {v : Value}, ps[i]? = some x → ws[i]? = some v → (ps.zip ws)[i]? = some (x, v)
  | [], ws, i, x, v, h, _ => by simp at h
  | p :: ps, [], i, x, v, _, h => by simp at h
  | p :: ps, w :: ws, 0, x, v, h, h' => by simp at h h'; subst h; subst h'; rfl
  | p :: ps, w :: ws, i + 1, x, v, h, h' => by
    simpa using zip_at (N := N) (by simpa using h : ps[i]? = some x) (by simpa using h' : ws[i]? = some v)
/-- the state at a def's start -/
noncomputable def start (args : List AV) (rest : Nat) : List Bnd := args.map .val ++ List.replicate rest .no

theorem ok_kinds {sc : Scope} {N : List Str} (hN : okNames sc N = true) : N.Nodup ∧ ∀ x ∈ N, (sc.names.lookup x = some .local ∨ sc.names.lookup x = some .cell) ∧ (x == ("__debug__" : Str)) = false ∧ (x == ("__classdict__" : Str)) = false := by
  rw [okNames, Bool.and_eq_true] at hN
  refine ⟨distinct_nodup hN.1, fun x hx => ?_⟩
  have := List.all_eq_true.mp hN.2 x hx
  simp only [Bool.and_eq_true, Bool.or_eq_true, Bool.not_eq_true', beq_iff_eq] at this
  exact ⟨this.1.1, this.1.2, this.2⟩
/-- the frame of a def's call, as it stands once its environment is laid -/
theorem fn_after {f : Addr} {fd : FuncData} {body : List Stmt} {ps rest : List Str} {l : Nat} {args' : List AV} (D : FnDef B.K f fd body) (hN : okNames fd.scope (ps ++ rest) = true) (hlen : args'.length = ps.length)
    {A : Around} {G G1 : View} {s s1 s2 : Shared} {ws : List Value} {env : Env} {t : Nat} {q : Str} {cd : Value}
    (hh : A.handled = none) (hd : A.depth + (l + 1) < recursionLimit) (hu : A.units + 8 * (l + 1) + 200 < cLine) (T : Tp B s.heap) (fr : FramesOk A G s.heap) (u1 : Up s s1 G G1) (rw' : VRels G1 ws args') (hwl : ws.length = ps.length)
    (he : env = newEnv fd.scope s1.heap.objs.size fd.globals (cellsFrom (s1.heap.objs.size + 1) fd.scope.names []) q (some f) cd none fd.builtins)
    (I : InCallC s1 env.locals (bindL env.kindOf (ps.zip ws) fun _ => none) env.cells (bindC env.kindOf (ps.zip ws) fun _ => none) s2) (ht : 1 ≤ t) (htk : s1.toks ≤ t) (htk2 : t ≤ s2.toks) :
    ∃ X : FI B fd.scope (ps ++ rest), C7 (X.env = env) (X.A = A.deeper env) (X.own = true) (X.lvl = l) (X.G₀ = G1) (X.s₀ = { s1 with toks := t }) (Sat X X.G₀ (start args' rest.length) s2) := by
  have hfst := zip_fst (ps := ps) (ws := ws) hwl
  obtain ⟨hNd, hkinds⟩ := ok_kinds hN
  have hk2 := I.toInCall.keep
  have hs2 : s1.heap.objs.size ≤ s2.heap.objs.size := by
    obtain ⟨oL, _, _, hL, _⟩ := I.toInCall.ns
    exact Nat.le_trans I.toInCall.fresh (Nat.le_of_lt (Heap.lt_size hL))
  have hscope : env.scope = fd.scope := by rw [he]; rfl
  have hcells : ∀ x ∈ ps ++ rest, fd.scope.names.lookup x = some .cell → ∃ c, env.cells.lookup x = some c := fun x hx hc => by
    rw [he]; exact Option.isSome_iff_exists.mp (cellsFrom_has _ _ _ hc)
  let X : FI B fd.scope (ps ++ rest) :=
    { s₀ := { s1 with toks := t }, G₀ := G1, A := A.deeper env, env := env, lvl := l, own := true, top := T.keeps u1.keep u1.size, ht := ht, hh := hh,
      fr := by
        obtain ⟨fs, h1, h2⟩ := fr.keeps u1.toUp0
        refine ⟨env :: fs, Around.frames_deeper h1, fun e he' => ?_⟩
        rcases List.mem_cons.mp he' with rfl | he'
        · refine ⟨by rw [hscope, D.hk]; decide, e.locals, by rw [he]; rfl, Nat.le_trans (Nat.le_trans T.big u1.size) I.toInCall.fresh, .inl rfl⟩
        · obtain ⟨h3, L, o, es, n, h4, h5, hG, h6, h7⟩ := h2 e he'
          exact ⟨h3, L, h4, h5, .inr ⟨hG, o, es, n, h6, h7⟩⟩
      hd := by show A.depth + 1 + l < _; omega
      hu := by show A.units + 3 + 8 * l + 200 < _; omega
      hsc := hscope, hk := D.hk, hg := by rw [he]; exact D.hg, hb := by rw [he]; exact D.hbl, hL := I.toInCall.fresh, hN := hNd,
      hv := fun x hx => by
        rcases (hkinds x hx).1 with h' | h'
        · exact .inl h'
        · exact .inr ⟨.inl h', hcells x hx h'⟩
      hdbg := fun x hx => (hkinds x hx).2
      hap := fun _ => I.apart, habove := fun _ p hp => I.above p.1 p.2 hp, hne := fun p hp => Nat.ne_of_gt (I.above p.1 p.2 hp)
      hown := fun _ x hx q => by
        rcases (hkinds x hx).1 with h' | h' <;> rw [q] at h' <;> cases h' }
  have hlow : ∀ a, s1.heap.objs.size ≤ a → G1 a = none := fun a ha => by
    cases q : G1 a with
    | none => rfl
    | some o => exact absurd (Heap.lt_size (u1.on _ _ q)) (Nat.not_lt.mpr ha)
  obtain ⟨h2, tk2, hs2e⟩ := I.toInCall.same
  have hl2 := VRels.length_eq rw'
  have S0 : Sat X G1 (start args' rest.length) s2 := by
    refine ⟨⟨⟨.of hk2, hs2, by rw [hs2e], by rw [hs2e], G1.le_refl, fun a o e => hk2 a o (u1.on a o e), fun a o e => .inl (by show (G1 a).isSome = true; rw [e]; rfl)⟩, htk2⟩, hlow _ I.toInCall.fresh,
      fun y c hp => hlow _ (Nat.le_trans I.toInCall.fresh (Nat.le_of_lt (I.above y c (mem_of_lookup hp)))), fun y c hp => ⟨_, I.cell y c hp⟩, _, I.toInCall.ns, fun i x b ha hb => ?_⟩
    unfold start at hb
    rcases Nat.lt_or_ge i args'.length with hi | hi
    · rw [List.getElem?_append_left (by simpa using hi), List.getElem?_map] at hb
      cases q : args'[i]? with
      | none => rw [q] at hb; cases hb
      | some a =>
        rw [q] at hb
        cases hb
        obtain ⟨w, hw, hr⟩ := VRels.get rw' q
        have hxi : ps[i]? = some x := by
          have := ha.get
          rwa [List.getElem?_append_left (by omega)] at this
        have hz := zip_at (N := ps) hxi hw
        have hnd : ((ps.zip ws).map (·.1)).Nodup := by rw [hfst]; exact (List.nodup_append.mp hNd).1
        refine .inr ⟨w, ?_, hr⟩
        have hko : env.kindOf x = fd.scope.names.lookup x := by unfold Env.kindOf; rw [hscope]
        rcases (hkinds x ha.mem).1 with h' | h'
        · exact .inl ⟨h', bindL_get (hko.trans h') _ _ i hnd hz⟩
        · obtain ⟨c, hc⟩ := hcells x ha.mem h'
          have := I.cell x c hc
          rw [bindC_get (by rw [hko, h']; intro q; cases q) _ _ i hnd hz] at this
          exact .inr ⟨.inl h', c, hc, this⟩
    · rw [List.getElem?_append_right (by simpa using hi), List.getElem?_replicate] at hb
      split at hb
      · cases hb; exact .inl rfl
      · cases hb
  exact ⟨X, rfl, rfl, rfl, rfl, rfl, rfl, S0⟩
theorem fn_core {f : Addr} {fd : FuncData} {body : List Stmt} {ps rest : List Str} {l : Nat} {args args' : List AV}
    (D : FnDef B.K f fd body) (hN : okNames fd.scope (ps ++ rest) = true) (hb : BindsBy B fd ps args args') (hlen : args'.length = ps.length)
    {A : Around} {G : View} {s : Shared} {vs : List Value} {Q : Value → Shared → Prop} {E : Value → Shared → Prop}
    (hh : A.handled = none) (hd : A.depth + (l + 1) < recursionLimit) (hu : A.units + 8 * (l + 1) + 200 < cLine) (T : Tp B s.heap) (fr : FramesOk A G s.heap) (ht : 1 ≤ s.toks) (hG : G.on s.heap) (rv : VRels G vs args)
    (h : ∀ (X : FI B fd.scope (ps ++ rest)) (s2 : Shared), X.own = true → X.lvl = l → X.G₀.on X.s₀.heap → (∃ outer, A.frames = some outer ∧ X.A.frames = some (X.env :: outer)) → X.env.frame = some X.env.locals → Up s X.s₀ G X.G₀ → Sat X X.G₀ (start args' rest.length) s2 →
      wpAny (model B.prog B.w) X.A (execs body X.env) (fun fl s' => Q (match fl with | .ret v => v | _ => .none) s') (fun e s' => wpAny (model B.prog B.w) X.A (leaving X.env e) (fun _ s'' => E e s'') (fun e' s'' => E e' s'') s') s2) :
    wpAny (model B.prog B.w) A (call (.ref f) vs) Q E s := by
  obtain ⟨oc, od, osl, ho⟩ := D.ex
  refine wpAny_call (codeAny_call_function (fd := fd) (body := body) (by omega) (T.K _ _ ho) rfl D.hco D.hgen D.hbody (codeRec_of T.K D.code) ?_)
  rw [D.hclo]
  refine wp_tk (hb _ G s vs _ _ T hG rv fun ws s1 G1 u1 rw' hwl tk1 => ?_)
  have u1 : Up s s1 G G1 := ⟨u1, tk1⟩
  refine wp_tk (wpAny_newFunctionEnv_cells D.hk (fun x hx => ?_) fun env he s2 I htk2 => ?_)
  · have hm : x.1 ∈ ps := by rw [← zip_fst (ps := ps) (ws := ws) hwl]; exact List.mem_map_of_mem hx
    rcases ((ok_kinds hN).2 x.1 (List.mem_append_left _ hm)).1 with h' | h'
    · exact .inl h'
    · exact .inr ⟨h', cellsFrom_has _ _ _ h'⟩
  · obtain ⟨X, rfl, hA, h1, h2, rfl, h3, S0⟩ := fn_after (t := s1.toks) D hN hlen hh hd hu T fr u1 rw' hwl he I (Nat.le_trans ht tk1) (Nat.le_refl _) htk2
    refine ⟨S0.top.T.nolimit, codeAny_func ?_⟩
    rw [← hA]
    have h3 : X.s₀ = s1 := h3
    obtain ⟨fs, hf1, _⟩ := fr.keeps u1.toUp0
    exact h X s2 h1 h2 (h3 ▸ u1.on) ⟨fs, hf1, hA ▸ Around.frames_deeper hf1⟩ (by rw [he]; rfl) (h3 ▸ u1) S0
/-- what a frame of a def knows besides -/
structure Inn {sc : Scope} {N : List Str} (X : FI B sc N) : Prop where
  own : X.own = true
  on : X.G₀.on X.s₀.heap
  fr : ∃ outer, X.A.frames = some (X.env :: outer)
  fl : X.env.frame = some X.env.locals
theorem fn_introC {f : Addr} {fd : FuncData} {body : List Stmt} {ps rest : List Str} {l : Nat} {args args' : List AV} {r : AV}
    (D : FnDef B.K f fd body) (hN : okNames fd.scope (ps ++ rest) = true) (hb : BindsBy B fd ps args args') (hlen : args'.length = ps.length)
    (h : ∀ X : FI B fd.scope (ps ++ rest), Inn X → X.lvl = l → Sx X (start args' rest.length) body (.ret r)) : Fn B (.ref f) (l + 1) args r := fun A G s vs Q E hh hd hu T fr ht hG rv kk =>
  fn_core D hN hb hlen hh hd hu T fr ht hG rv fun X s2 h1 h2 h3 h4 h5 u1 S0 => (h X ⟨h1, h3, let ⟨o, _, q⟩ := h4; ⟨o, q⟩, h5⟩ h2).run X.G₀ s2 _ _ S0 fun fl s3 G3 l3 f3 => by
    cases fl with
    | ret v => exact kk v s3 G3 (u1.trans f3.1) f3.2
    | _ => exact f3.elim
theorem fn_intro' {f : Addr} {fd : FuncData} {body : List Stmt} {ps rest : List Str} {l : Nat} {args args' : List AV} {r : AV}
    (D : FnDef B.K f fd body) (hN : okNames fd.scope (ps ++ rest) = true) (hb : BindsBy B fd ps args args') (hlen : args'.length = ps.length)
    (h : ∀ X : FI B fd.scope (ps ++ rest), X.own = true → X.lvl = l → Sx X (start args' rest.length) body (.ret r)) : Fn B (.ref f) (l + 1) args r := fn_introC D hN hb hlen fun X I hl => h X I.own hl
end
end Mine
end
section
open PySem PySem.W PyProof.Rows PySem.Calls
set_option Elab.async false
set_option linter.unusedVariables false
namespace Mine
section
variable {prog : Program} {w : World} {A : Around} {E : Value → Shared → Prop}

theorem checked {id : String} {args : List Value} (hk : builtinKind id = none) (ha : argsOk id ⟨args, []⟩) : checkBuiltinCall id ⟨args, []⟩ = pure () := by
  unfold argsOk at ha
  unfold checkBuiltinCall
  cases e : Manifest.signature? id <;> simp_all
theorem code_builtin_entry {id : String} {b : Builtin} {args : List Value} {s : Shared} {R : Result → Shared → Prop} (hk : builtinKind id = none) (hp : plainId id = true)
    (hb : entryFor table id = some b) (ha : argsOk id ⟨args, []⟩)
    (hc : wpAny (model prog w) A.in1 (b ⟨args, []⟩) (fun fin s' => ∃ v, fin = .done (.ret v) ∧ R (.ok (.ret v)) s') (fun e s' => R (.error e) s') s) : codeAny (model prog w) A (.call (.builtin id) ⟨args, []⟩) R s :=
  codeAny_call_builtin hp hb (checked hk ha ▸ wpAny_pure (wpAny_mono hc (by rintro _ s' ⟨v, rfl, q⟩; exact q) fun _ _ q => q))

theorem kind_issub_n : builtinKind "issubclass.nested" = none := by decide +kernel
theorem plain_issub_n : plainId "issubclass.nested" = true := by decide +kernel
theorem args_issub_n (a b c : Value) : argsOk "issubclass.nested" ⟨[a, b, c], []⟩ := by unfold argsOk; kernel_rfl

set_option maxRecDepth 100000 in
theorem issub_one {k : Value} {dep : Int} {tk : Tok} {s : Shared} {Q : Fin → Shared → Prop} (hk : k = .int dep tk)
    (hq : Q (.done (.ret (.bool true))) s) :
    wpAny (model prog w) A (Builtin.«issubclass.nested» ⟨[.type "str", .type "str", k], []⟩) Q E s := by
  subst hk
  have hm : typeOf (.type "str") = pure (.type "type") := F.isi_meta_str
  have hself : isSubtype (.type "str") (.type "str") = pure true := F.sub_str_str
  repeat (any_goals (first | assumption | (rw [if_pos hm]) | (rw [hself]) | wp_step))

set_option maxRecDepth 100000 in
theorem issub_pair {tp : Addr} {n : Nat} {s : Shared} {tk : Tok} {Q : Fin → Shared → Prop} (htp : s.heap.get? tp = some { cls := .type "tuple", data := .seq #[.type "str", .type "bytes"] n })
    (hq : ∀ tk', Q (.done (.ret (.bool true))) { s with toks := tk' }) : wpAny (model prog w) A (Builtin.«issubclass.nested» ⟨[.type "str", .ref tp, .int 0 tk], []⟩) Q E s := by
  obtain ⟨h, g, d, t, os⟩ := s
  have hT2 : (⟨h, g, d, t, os⟩ : Shared).TypeIs (.ref tp) "tuple" := ⟨_, htp, rfl⟩
  have f1 := F.isi_sub_tuple
  repeat (any_goals (first | assumption | wp_step))
  refine code_builtin_entry kind_issub_n plain_issub_n F.entry_issubclass_nested (args_issub_n _ _ _) (issub_one rfl ⟨_, rfl, ?_⟩)
  repeat (any_goals (first | assumption | wp_step))
  exact hq _

theorem call_issub {tp : Addr} {n : Nat} {s : Shared} {Q : Value → Shared → Prop} (htp : s.heap.get? tp = some { cls := .type "tuple", data := .seq #[.type "str", .type "bytes"] n })
    (hq : ∀ tk', Q (.bool true) { s with toks := tk' }) : wpAny (model prog w) A (call (.builtin "issubclass") [.type "str", .ref tp]) Q E s :=
  call_issubclass (S := fun _ R s => s.heap.get? tp = some { cls := .type "tuple", data := .seq #[.type "str", .type "bytes"] n } ∧ ∀ tk', R (.ok (.ret (.bool true))) { s with toks := tk' })
    (fun _ _ _ _ _ hs => issubclass_outer (issub_pair hs.1 hs.2)) ⟨htp, hq⟩
end

section
variable {B : Base} {sc : Scope} {N : List Str} {X : FI B sc N} {σ : List Bnd}

theorem fn_isi_bytes {x : List Nat} : FnIn X (.builtin "isinstance") [.str x, .raw (.type "bytes")] (.bool false) := fun G s vs Q E T fr ht hG rv kk => by
  cases rv with
  | cons r1 r2 =>
    cases r1; cases r2 with
    | cons r2 r3 =>
      cases r2; cases r3
      exact IsiPair.str_bytes (kk _ _ G (Up0.ofTok hG _) (.bool _))
theorem fn_type_str {x : List Nat} : FnIn X (.type "type") [.str x] (.raw (.type "str")) := fun G s vs Q E T fr ht hG rv kk => by
  cases rv with
  | cons r1 r2 =>
    cases r1; cases r2
    exact call_type_of (Tx := "str") rfl (by decide +kernel) (kk _ _ G (Up0.refl hG) (.raw _))
theorem fn_issub : FnIn X (.builtin "issubclass") [.raw (.type "str"), .tup [.raw (.type "str"), .raw (.type "bytes")]] (.bool true) := fun G s vs Q E T fr ht hG rv kk => by
  obtain ⟨_, _, rfl, r1, r2⟩ := rv.twoI
  obtain rfl := r1.rawI
  obtain ⟨a, ws, rfl, g, rs⟩ := r2.tupI
  obtain ⟨_, _, rfl, q1, q2⟩ := rs.twoI
  obtain rfl := q1.rawI
  obtain rfl := q2.rawI
  exact call_issub (hG _ _ g) fun tk' => kk _ _ G (Up0.ofTok hG _) (.bool _)
end
end Mine
end
section
open PySem PySem.W PyProof.Rows PySem.Calls
set_option Elab.async false
set_option linter.unusedVariables false
namespace Mine
theorem sizeL : sizeLine = 16777216 := rfl
section
variable {B : Base} {sc : Scope} {N : List Str} {X : FI B sc N} {σ : List Bnd} {A : Around}

theorem one_sign {x : Str} {c : Nat} (h : x.cps.toList = [c]) : x = ⟨#[c]⟩ := by obtain ⟨a⟩ := x; congr 1; exact Array.toList_inj.mp h
theorem VRel.sign {G : View} {v : Value} {c : Nat} (h : VRel G v (.str [c])) : ∃ t, v = .str ⟨#[c]⟩ t := by
  obtain ⟨x, t, rfl, hx⟩ := h.strI
  exact ⟨t, by rw [one_sign hx]⟩
theorem VRel.text {G : View} {v : Value} {l : List Nat} (h : VRel G v (.str l)) : ∃ x t, v = .str x t ∧ x.cps.toList = l := h.strI

theorem VRel.ofText {G : View} {x : Str} {t : Tok} {l : List Nat} (h : x.cps.toList = l) : VRel G (.str x t) (.str l) := h ▸ VRel.str x t
/-! methods -/
noncomputable def plainBase : Expr → Bool
  | .Call (.Name _ _) [] [] _ => false
  | _ => true
theorem base_plain {o : Expr} {name : Str} {env : Env} {whole : Sem Value} (h : plainBase o = true) : attributeBase o name env whole = whole := by
  cases o with
  | Call f as ks p =>
    cases f with
    | Name i q =>
      cases as with
      | nil => cases ks with
        | nil => cases (show false = true from h)
        | cons => rfl
      | cons => rfl
    | _ => rfl
  | _ => rfl
noncomputable def Meth1 (B : Base) (A : Around) (name : Str) (a b r : AV) : Prop :=
  ∀ (G : View) (s : Shared) (va : Value) (pos : Pos) (tree : Sem Value) (Q : Value → Shared → Prop) (E : Value → Shared → Prop), G.on s.heap → VRel G va a →
    (∀ Q' : Value → Shared → Prop, (∀ vb s1 G1, Up0 s s1 G G1 → VRel G1 vb b → Q' vb s1) → wpAny (model B.prog B.w) A tree Q' E s) →
    (∀ v s' G', Up0 s s' G G' → VRel G' v r → Q v s') → MethodOnS B.prog B.w A E name va pos [(false, tree)] Q s
theorem ex_meth1 {o e : Expr} {name : Str} {apos pos : Pos} {a b r : AV} (ho : Ex X σ o a) (he : Ex X σ e b) (hm : Meth1 B X.A name a b r) (hb : plainBase o = true) (hs : notStar e = true) (hl : (apos.endLine == pos.line) = true) :
    Ex X σ (.Call (.Attribute o name apos) [e] [] pos) r := .mk fun G s Q E Sa kk =>
  wp_tk (Call_method1 (base_plain hb) (starEach_cons hs) hl (ho.run G s _ E Sa fun va s1 G1 u1 ra =>
    hm G1 s1 va pos _ _ E u1.on ra (fun Q' k' => he.run G1 s1 Q' E (Sa.upd u1) fun v s' G' u => k' v s' G' u.toUp0) fun v s2 G2 u2 r2 tk => kk v s2 G2 ⟨u1.toUp0.trans u2, tk⟩ r2))
/-- replace, by two written texts -/
theorem ex_replace {o : Expr} {apos pos p1 p2 : Pos} {k1 k2 : Nat} {x z : List Nat} {c : Nat} {y' z' : Str} (ho : Ex X σ o (.str x)) (hy : y'.cps.toList = [c]) (hz : z'.cps.toList = z) (hyz : (y' == z') = false)
    (hsz : x.length + (x.length + 1) * z.length ≤ 16777216) (hb : plainBase o = true) (hl : (apos.endLine == pos.line) = true) :
    Ex X σ (.Call (.Attribute o (Str.ofString "replace") apos) [.Constant (.str y') k1 p1, .Constant (.str z') k2 p2] [] pos) (.str (subst1 c z x)) := .mk fun G s Q E Sa kk =>
  wp_tk (Call_method2 (base_plain hb) rfl hl (ho.run G s _ E Sa fun va s1 G1 u1 ra => by
    obtain ⟨x, t, rfl, rfl⟩ := ra.text
    refine ⟨"str", "str.replace", F.plainAttrs_str, F.slot_str_replace, F.type_str_replace, typeIs_str _ _ _, (fun _ e => nomatch e), ?_⟩
    refine callWith_builtin rfl (evalArgs_plain (spliced_cons (wpAny_Constant_str (spliced_cons (wpAny_Constant_str (spliced_nil ?_))))))
    have h1 := (Sa.upd u1).tk
    have hy' := one_sign hy
    refine SC.replace (by show s1.toks ≠ 0; omega) (by show s1.toks + 1 ≠ 0; omega) (by show s1.toks ≠ s1.toks + 1; omega) hyz (by rw [len_toList, len_toList, hz]; exact hsz) fun t' k => ?_
    intro tk
    refine kk _ _ G1 ⟨u1.toUp0.trans (Up0.ofTok u1.on k), tk⟩ (.ofText ?_)
    rw [hy', txt_replace, hz]))

theorem m_startswith {x : List Nat} {c : Nat} : Meth1 B A (Str.ofString "startswith") (.str x) (.str [c]) (.bool (x.head? == some c)) := fun G s va pos tree Q E hG ra ha kk => by
  obtain ⟨x, t, rfl, rfl⟩ := ra.text
  exact SB.startswith (ha _ fun vb s1 G1 u1 rb => by
    obtain ⟨u, rfl⟩ := rb.sign
    exact ⟨_, _, rfl, by rw [txt_startswith]; exact kk _ s1 G1 u1 (.bool _)⟩)
theorem m_endswith {x : List Nat} {c : Nat} : Meth1 B A (Str.ofString "endswith") (.str x) (.str [c]) (.bool (x.getLast? == some c)) := fun G s va pos tree Q E hG ra ha kk => by
  obtain ⟨x, t, rfl, rfl⟩ := ra.text
  exact SB.endswith (ha _ fun vb s1 G1 u1 rb => by
    obtain ⟨u, rfl⟩ := rb.sign
    exact ⟨_, _, rfl, by rw [txt_endswith]; exact kk _ s1 G1 u1 (.bool _)⟩)
theorem m_rfind {x : List Nat} {c : Nat} : Meth1 B A (Str.ofString "rfind") (.str x) (.str [c]) (.int (rfindc c x)) := fun G s va pos tree Q E hG ra ha kk => by
  obtain ⟨x, t, rfl, rfl⟩ := ra.text
  exact SB.rfind (ha _ fun vb s1 G1 u1 rb => by
    obtain ⟨u, rfl⟩ := rb.sign
    exact ⟨_, _, rfl, by rw [txt_rfind]; exact kk _ _ G1 (u1.tok _) (.int _ _)⟩)
theorem m_lstrip {x : List Nat} {c : Nat} (hx : x.length ≤ sizeLine) : Meth1 B A (Str.ofString "lstrip") (.str x) (.str [c]) (.str (x.dropWhile (· == c))) := fun G s va pos tree Q E hG ra ha kk => by
  obtain ⟨x, t, rfl, rfl⟩ := ra.text
  exact SB.lstripChars (ha _ fun vb s1 G1 u1 rb => by
    obtain ⟨u, rfl⟩ := rb.sign
    exact ⟨_, _, rfl, fun t' k => kk _ _ G1 (u1.tok _) (.ofText (txt_lstrip _ _))⟩) (by rw [len_toList]; exact hx)
theorem m_rstrip {x : List Nat} {c : Nat} (hx : x.length ≤ sizeLine) : Meth1 B A (Str.ofString "rstrip") (.str x) (.str [c]) (.str (x.reverse.dropWhile (· == c)).reverse) := fun G s va pos tree Q E hG ra ha kk => by
  obtain ⟨x, t, rfl, rfl⟩ := ra.text
  exact SB.rstripChars (ha _ fun vb s1 G1 u1 rb => by
    obtain ⟨u, rfl⟩ := rb.sign
    exact ⟨_, _, rfl, fun t' k => kk _ _ G1 (u1.tok _) (.ofText (txt_rstrip _ _))⟩) (by rw [len_toList]; exact hx)

/-! lists of texts -/
noncomputable abbrev AV.strs (l : List (List Nat)) : AV := .list (l.map .str)
theorem vrels_texts {G : View} : ∀ {l : List (Str × Tok)}, VRels G (strValues l) (l.map fun p => .str p.1.cps.toList)
  | [] => .nil
  | (x, t) :: r => .cons (.str x t) vrels_texts
theorem texts_vrels {G : View} : ∀ {vs : List Value} {l : List (List Nat)}, VRels G vs (l.map .str) → ∃ ts : List (Str × Tok), vs = strValues ts ∧ ts.map (fun p => p.1.cps.toList) = l
  | _, [], .nil => ⟨[], rfl, rfl⟩
  | _, x :: r, .cons a b => by
    obtain ⟨y, t, rfl, rfl⟩ := a.text
    obtain ⟨ts, rfl, rfl⟩ := texts_vrels b
    exact ⟨(y, t) :: ts, rfl, rfl⟩
theorem parts_len (x : Str) (c : Nat) : (Builtin.Str.partsBetween x (Builtin.Str.occurrences x ⟨#[c]⟩ 0 x.length (x.length + 1)) (⟨#[c]⟩ : Str).length).length ≤ x.length + 2 := by
  have h := StrLaws.occ_length_le x ⟨#[c]⟩ 0 x.length (x.length + 1)
  generalize Builtin.Str.occurrences x ⟨#[c]⟩ 0 x.length (x.length + 1) = cuts at h
  unfold Builtin.Str.partsBetween
  simp
  omega
section
open Builtin Builtin.Str
theorem split1' {prog : Program} {w : World} {E : Value → Shared → Prop} {s : Shared} {x : Str} {t : Tok} {pos : Pos} {Q : Value → Shared → Prop} {a : Sem Value}
    (h : wpAny (model prog w) A a (fun v s₁ => ∃ y u, v = .str y u ∧ (y.length == 0) = false ∧ (partsBetween x (occurrences x y 0 x.length (x.length + 1)) y.length).length ≤ sizeLine ∧
      ∀ l k, l.map (·.1) = Txt.split x y → Q (.ref s₁.heap.objs.size) { s₁ with heap := s₁.heap.push { cls := .type "list", data := .seq (strValues l).toArray }, toks := k }) E s) (hx : x.length ≤ sizeLine) :
    MethodOnS prog w A E "split" (.str x t) pos [(false, a)] Q s := by
  refine ⟨"str", _, F.plainAttrs_str, F.slot_str_split, F.type_str_split, typeIs_str _ _ _, nofun, method1_meets F.slot_str_split F.entry_str_split (wpAny_mono h ?_ fun _ _ e => e)⟩
  rintro _ s₁ ⟨y, u, rfl, hy, hn, hq⟩
  refine ⟨typeIs_str _ _ _, F.args_str_split_2 _ _, ?_⟩
  by_cases far : (decide (x.length < y.length) || decide (strKind x < strKind y)) = true
  · exact ⟨_, meets_str_split_cannot_occur x y t u far, hq [(x, t)] s₁.toks (if_pos far).symm⟩
  by_cases no : (occurrences x y 0 x.length (x.length + 1)).isEmpty = true
  · exact ⟨_, meets_str_split_not_found x y t u (by simpa using far) hy no, hq [(x, t)] s₁.toks ((if_neg far).trans (if_pos no)).symm⟩
  have told := fun k => hq (numbered s₁.toks _) k ((numbered_texts _ _).trans ((if_neg far).trans (if_neg no)).symm)
  simp only [← strsFrom_eq] at told
  exact ⟨_, meets_str_split_sep x y t u (by simpa using far) hy (by simpa using no) hx hn, told _⟩
end
theorem m_split {x : List Nat} {c : Nat} (hx : x.length + 2 ≤ sizeLine) : Meth1 B A (Str.ofString "split") (.str x) (.str [c]) (.strs (splitc c x)) := fun G s va pos tree Q E hG ra ha kk => by
  obtain ⟨x, t, rfl, rfl⟩ := ra.text
  rw [← len_toList] at hx
  refine split1' (ha _ fun vb s1 G1 u1 rb => ?_) (Nat.le_trans (by omega) hx)
  obtain ⟨u, rfl⟩ := rb.sign
  refine ⟨_, _, rfl, rfl, Nat.le_trans (parts_len x c) hx, fun l k hl => ?_⟩
  have hr : VRels G1 (strValues l) ((splitc c x.cps.toList).map .str) := by
    have := vrels_texts (G := G1) (l := l)
    rw [← txt_split, ← hl, List.map_map, List.map_map]
    exact this
  exact Up0.pushList (s := s1) u1.on hr (Q := fun v s' => Q v { s' with toks := k }) fun v s' G' u r => kk v _ G' ((u1.trans u).tok k) r

theorem sum_len_map {l : List (Str × Tok)} {L : List (List Nat)} (h : l.map (fun p => p.1.cps.toList) = L) : ((l.map (·.1)).map (·.length)).sum = (L.map (·.length)).sum := by
  subst h
  rw [List.map_map, List.map_map]
  exact congrArg List.sum (List.map_congr_left fun p _ => len_toList p.1)
theorem m_join {x : List Nat} {L : List (List Nat)} (hx : (L.map (·.length)).sum + L.length * x.length ≤ sizeLine) : Meth1 B A (Str.ofString "join") (.str x) (.strs L) (.str (joinc x L)) := fun G s va pos tree Q E hG ra ha kk => by
  obtain ⟨x, t, rfl, rfl⟩ := ra.text
  refine SB.join (ha _ fun vb s1 G1 u1 rb => ?_)
  obtain ⟨_, _, _, rfl, g, rs⟩ := rb.listI
  obtain ⟨ts, rfl, hts⟩ := texts_vrels rs
  refine ⟨_, ts, rfl, ⟨_, u1.on _ _ g, rfl, _, rfl⟩, _, rfl, ?_, fun t' k => kk _ _ G1 (u1.tok _) (.ofText ?_)⟩
  · unfold JoinOk
    rw [Bool.not_eq_true']
    have := StrLaws.joinTotal x (ts.map (·.1))
    unfold Builtin.Str.tooLong
    rw [this, sum_len_map hts, List.length_map]
    have hl : ts.length = L.length := by rw [← hts, List.length_map]
    rw [hl, len_toList]
    simp only [decide_eq_false_iff_not]
    omega
  · rw [txt_join, List.map_map]
    exact congrArg _ hts
end
end Mine
end
section
open PySem PySem.W PyProof.Rows PySem.Calls PySem.SeqAt
set_option Elab.async false
set_option linter.unusedVariables false
namespace Mine
section
variable {B : Base} {sc : Scope} {N : List Str} {X : FI B sc N} {σ : List Bnd} {A : Around}

theorem bop_sub_int {x y : Int} : Bop B A .Sub (.int x) (.int y) (.int (x - y)) := fun G s va vb Q E hG ra rb kk => by
  obtain ⟨_, rfl⟩ := ra.intI; obtain ⟨_, rfl⟩ := rb.intI
  exact sub_int (kk _ _ G (Up0.ofTok hG _) (.int _ _))
theorem bop_mod_int {x y : Int} (hy : y ≠ 0) : Bop B A .Mod (.int x) (.int y) (.int (x.fmod y)) := fun G s va vb Q E hG ra rb kk => by
  obtain ⟨_, rfl⟩ := ra.intI; obtain ⟨_, rfl⟩ := rb.intI
  exact mod_int hy (kk _ _ G (Up0.ofTok hG _) (.int _ _))
theorem bop_div_int {x y : Int} (hy : y ≠ 0) (hs : y.natAbs < 1073741824) : Bop B A .FloorDiv (.int x) (.int y) (.int (x.fdiv y)) := fun G s va vb Q E hG ra rb kk => by
  obtain ⟨_, rfl⟩ := ra.intI; obtain ⟨_, rfl⟩ := rb.intI
  exact AutoIntOps.floordiv_1 (by simpa using hy) (by rw [PyProof.noPylong_small hs]; exact Bool.false_ne_true) (kk _ _ G (Up0.ofTok hG _) (.int _ _))

theorem foldl_rep_toList (c : Nat) : ∀ (n : Nat) (acc : Array Nat), ((List.replicate n #[c]).foldl (· ++ ·) acc).toList = acc.toList ++ List.replicate n c
  | 0, acc => by simp
  | n + 1, acc => by
    rw [List.replicate_succ, List.foldl_cons, foldl_rep_toList c n]
    simp [List.replicate_succ]
theorem bop_mul_sign {c : Nat} {n : Nat} (hn : n ≤ sizeLine) : Bop B A .Mult (.str [c]) (.int n) (.str (List.replicate n c)) := fun G s va vb Q E hG ra rb kk => by
  obtain ⟨t, rfl⟩ := ra.sign
  cases rb
  have hS := sizeL
  refine SB.mul ⟨?_, fun h1 h2 => ?_, fun h1 h2 => ?_⟩ fun t' k => kk _ _ G (Up0.ofTok hG k) (.ofText ?_)
  · rw [Bool.or_eq_false_iff]
    exact ⟨decide_eq_false (by omega), decide_eq_false (by omega)⟩
  · have : (⟨#[c]⟩ : Str).length = 1 := rfl
    rw [this]
    have hn0 : (0 : Int) < n := by omega
    have h3 : (1 : Int) ≤ (2 ^ 63 - 1) / n := by
      rw [Int.le_ediv_iff_mul_le hn0]; omega
    omega
  · unfold Builtin.Str.tooLong
    have : (⟨#[c]⟩ : Str).length = 1 := rfl
    rw [this]
    simp only [decide_eq_false_iff_not]; omega
  · unfold Txt.mul
    by_cases h0 : (n : Int) < 1
    · rw [if_pos h0]
      have : n = 0 := by omega
      subst this; rfl
    · rw [if_neg h0]
      by_cases h1 : n = 1
      · subst h1; rfl
      · have h1' : ¬ ((n : Int) = 1) := by omega
        have : (((n : Int) == 1 || (⟨#[c]⟩ : Str).length == 0) = true) ↔ False := by simp [Str.length, h1']
        rw [if_neg (by rw [this]; exact id)]
        show (List.foldl (· ++ ·) #[] (List.replicate (n : Int).toNat #[c])).toList = _
        rw [foldl_rep_toList]; simp
theorem foldl_rep1 (v : Value) : ∀ (n : Nat) (acc : Array Value), (List.foldl (fun x1 x2 => x1 ++ x2) acc (List.replicate n #[v])).toList = acc.toList ++ List.replicate n v
  | 0, acc => by simp
  | n + 1, acc => by
    rw [List.replicate_succ, List.foldl_cons, foldl_rep1 v n]
    simp [List.replicate_succ]
theorem VRels.rep {G : View} {v : Value} {a : AV} (h : VRel G v a) : ∀ n, VRels G (List.replicate n v) (List.replicate n a)
  | 0 => .nil
  | n + 1 => by rw [List.replicate_succ, List.replicate_succ]; exact .cons h (VRels.rep h n)
theorem bop_mul_list1 {a : AV} {n : Int} (h0 : 0 ≤ n) (hn : n ≤ sizeLine) : Bop B A .Mult (.list [a]) (.int n) (.list (List.replicate n.toNat a)) := fun G s va vb Q E hG ra rb kk => by
  cases rb with
  | int _ u =>
    cases ra with
    | list g rs =>
      cases rs with
      | cons r1 r2 =>
        cases r2
        rename_i aa k v
        have hS := sizeL
        refine wpAny_binaryOp_repeat_ref (T := "list") (U := "int") (by decide) ⟨_, hG _ _ g, rfl⟩ (fun s' => typeIs_int s' n u) noFill_list_mul F.fills_int_mul F.slot_int_rmul repeat_list F.slot_int_index.lookup
          (call_meets F.slot_int_rmul (typeIs_int s n u) F.entry_int_rmul (F.args_int_rmul_2 _ _) (int___rmul___int_list n u aa #[v] k)
            ⟨hG _ _ g, rfl, ⟨_, hG _ _ g, rfl⟩, call_meets F.slot_list_mul ⟨_, hG _ _ g, rfl⟩ F.entry_list_mul (F.args_list_mul_2 _ _)
              (AutoListH.list___mul___list_int_3 aa #[v] k n u (by simp [Builtin.List.listFitsIndex]; omega) (by simp; omega) (by simp [Builtin.List.listTooLong, sizeLine]; omega))
              ⟨hG _ _ g, ?_⟩⟩)
        have e : (List.foldl (fun x1 x2 => x1 ++ x2) #[] (List.replicate (if (#[v] : Array Value).isEmpty = true then 0 else n.toNat) #[v])) = (List.replicate n.toNat v).toArray := by
          apply Array.toList_inj.mp
          rw [foldl_rep1]; simp
        rw [e]
        exact Up0.pushList hG (VRels.rep r1 _) kk

/-! comparisons -/
theorem cmp_eq_int {x y : Int} : Cmp B A .Eq (.int x) (.int y) (x == y) := fun G s va vb Q E hG ra rb kk => by
  obtain ⟨_, rfl⟩ := ra.intI; obtain ⟨_, rfl⟩ := rb.intI; exact eq_int (kk s G (Up0.refl hG))
theorem cmp_lt_int {x y : Int} : Cmp B A .Lt (.int x) (.int y) (decide (x < y)) := fun G s va vb Q E hG ra rb kk => by
  obtain ⟨_, rfl⟩ := ra.intI; obtain ⟨_, rfl⟩ := rb.intI; exact lt_int (kk s G (Up0.refl hG))
theorem cmp_gt_int {x y : Int} : Cmp B A .Gt (.int x) (.int y) (decide (y < x)) := fun G s va vb Q E hG ra rb kk => by
  obtain ⟨_, rfl⟩ := ra.intI; obtain ⟨_, rfl⟩ := rb.intI; exact gt_int (kk s G (Up0.refl hG))
theorem cmp_is_none {a : AV} {b : Bool} (h : ∀ G v, VRel G v a → (v == .none) = b) : Cmp B A .Is a .none b := fun G s va vb Q E hG ra rb kk => by
  cases rb
  refine is_none ?_
  rw [h G va ra]; exact kk s G (Up0.refl hG)
theorem str_beq (x y : Str) : (x == y) = (x.cps.toList == y.cps.toList) := by
  rw [Bool.eq_iff_iff, beq_iff_eq, beq_iff_eq]
  exact ⟨fun h => by rw [h], fun h => by obtain ⟨a⟩ := x; obtain ⟨b⟩ := y; congr 1; exact Array.toList_inj.mp h⟩

theorem in_texts {x : Str} {t : Tok} : ∀ (ts : List (Str × Tok)), ((strValues ts).toArray.any fun y => match y with | .str z _ => z == x | _ => false) = (ts.map (fun p => p.1.cps.toList)).contains x.cps.toList
  | [] => by simp [strValues]
  | (z, u) :: r => by
    have ih := in_texts (x := x) (t := t) r
    simp only [strValues, List.map_cons, List.any_toArray, List.any_cons, List.contains_cons] at ih ⊢
    rw [ih, str_beq]
    congr 1
    rw [Bool.eq_iff_iff, beq_iff_eq, beq_iff_eq]; exact eq_comm
theorem cmp_in_strs {x : List Nat} {L : List (List Nat)} : Cmp B A .In (.str x) (.strs L) (L.contains x) := fun G s va vb Q E hG ra rb kk => by
  obtain ⟨x, t, rfl, rfl⟩ := ra.text
  obtain ⟨_, _, _, rfl, g, rs⟩ := rb.listI
  obtain ⟨ts, rfl, rfl⟩ := texts_vrels rs
  refine in_listAt (fun y => match y with | .str z _ => z == x | _ => false) ⟨_, hG _ _ g, rfl, _, rfl⟩ (fun y hy => ?_) ?_
  · simp only [strValues, List.mem_toArray, List.mem_map] at hy
    obtain ⟨p, _, rfl⟩ := hy
    exact EqAt.str_str _ _ _ _
  · rw [in_texts (t := t)]; exact kk s G (Up0.refl hG)
theorem cmp_notin_strs {x : List Nat} {L : List (List Nat)} : Cmp B A .NotIn (.str x) (.strs L) (!L.contains x) := fun G s va vb Q E hG ra rb kk => by
  obtain ⟨x, t, rfl, rfl⟩ := ra.text
  obtain ⟨_, _, _, rfl, g, rs⟩ := rb.listI
  obtain ⟨ts, rfl, rfl⟩ := texts_vrels rs
  refine notIn_listAt (fun y => match y with | .str z _ => z == x | _ => false) ⟨_, hG _ _ g, rfl, _, rfl⟩ (fun y hy => ?_) ?_
  · simp only [strValues, List.mem_toArray, List.mem_map] at hy
    obtain ⟨p, _, rfl⟩ := hy
    exact EqAt.str_str _ _ _ _
  · rw [in_texts (t := t)]; exact kk s G (Up0.refl hG)
theorem ints_vrels {G : View} : ∀ {vs : List Value} {l : List Int}, VRels G vs (l.map .int) → ∃ ts : List (Int × Tok), vs = ts.map (fun p => .int p.1 p.2) ∧ ts.map (·.1) = l
  | _, [], .nil => ⟨[], rfl, rfl⟩
  | _, x :: r, .cons a b => by
    cases a with
    | int i t =>
      obtain ⟨ts, rfl, rfl⟩ := ints_vrels b
      exact ⟨(x, t) :: ts, rfl, rfl⟩
theorem in_ints {x : Int} : ∀ (ts : List (Int × Tok)), ((ts.map fun p => Value.int p.1 p.2).toArray.any fun y => match y with | .int z _ => z == x | _ => false) = (ts.map (·.1)).contains x
  | [] => by simp
  | (z, u) :: r => by
    have ih := in_ints (x := x) r
    simp only [List.map_cons, List.any_toArray, List.any_cons, List.contains_cons] at ih ⊢
    rw [ih]
    congr 1
    rw [Bool.eq_iff_iff, beq_iff_eq, beq_iff_eq]; exact eq_comm
theorem cmp_notin_ints {x : Int} {L : List Int} : Cmp B A .NotIn (.int x) (.list (L.map .int)) (!L.contains x) := fun G s va vb Q E hG ra rb kk => by
  obtain ⟨t, rfl⟩ := ra.intI
  obtain ⟨_, _, _, rfl, g, rs⟩ := rb.listI
  obtain ⟨ts, rfl, rfl⟩ := ints_vrels rs
  refine notIn_listAt (fun y => match y with | .int z _ => z == x | _ => false) ⟨_, hG _ _ g, rfl, _, rfl⟩ (fun y hy => ?_) ?_
  · simp only [List.mem_toArray, List.mem_map] at hy
    obtain ⟨p, _, rfl⟩ := hy
    exact EqAt.int_int _ _ _ _
  · rw [in_ints]; exact kk s G (Up0.refl hG)

/-- equality of texts in rows -/
noncomputable def rowEq (vs us : List Value) (j : Nat) : Bool := match vs[j]?, us[j]? with
  | some (.str x _), some (.str y _) => x == y
  | _, _ => false
theorem rowEq_all : ∀ (ts us : List (Str × Tok)), ts.length = us.length → ((List.range ts.length).all (rowEq (strValues ts) (strValues us))) = (ts.map (fun p => p.1.cps.toList) == us.map (fun p => p.1.cps.toList))
  | [], [], _ => rfl
  | (x, t) :: r, (y, u) :: q, h => by
    have ih := rowEq_all r q (by simpa using h)
    rw [List.length_cons, List.range_succ_eq_map, List.all_cons, List.all_map]
    have e : ((rowEq (strValues ((x, t) :: r)) (strValues ((y, u) :: q))) ∘ Nat.succ) = rowEq (strValues r) (strValues q) := by
      funext j; rfl
    rw [e, ih]
    show ((x == y) && _) = _
    rw [str_beq]; rfl
theorem strs_eqAt {s : Shared} (ts us : List (Str × Tok)) : ∀ j (h1 : j < (strValues ts).toArray.size) (h2 : j < (strValues us).toArray.size), EqAt A.in1 s (strValues ts).toArray[j] (strValues us).toArray[j] (rowEq (strValues ts) (strValues us) j) := fun j h1 h2 => by
  have h1' : j < ts.length := by simpa [strValues] using h1
  have h2' : j < us.length := by simpa [strValues] using h2
  have e1 : (strValues ts).toArray[j] = .str ts[j].1 ts[j].2 := by simp [strValues]
  have e2 : (strValues us).toArray[j] = .str us[j].1 us[j].2 := by simp [strValues]
  rw [e1, e2]
  have e : rowEq (strValues ts) (strValues us) j = (ts[j].1 == us[j].1) := by
    simp [rowEq, strValues, h1', h2']
  rw [e]
  exact EqAt.str_str _ _ _ _
theorem cmp_eq_strs {L K : List (List Nat)} (hu : A.units < cLine) : Cmp B A .Eq (.strs L) (.strs K) (L == K) := fun G s va vb Q E hG ra rb kk => by
  obtain ⟨_, _, _, rfl, g, rs⟩ := ra.listI
  obtain ⟨_, _, _, rfl, g', rs'⟩ := rb.listI
  obtain ⟨ts, rfl, rfl⟩ := texts_vrels rs
  obtain ⟨us, rfl, rfl⟩ := texts_vrels rs'
  by_cases hl : ts.length = us.length
  · refine eq_listAt ⟨_, hG _ _ g, rfl, _, rfl⟩ ⟨_, hG _ _ g', rfl, _, rfl⟩ (by simpa [strValues] using hl) hu (strs_eqAt ts us) ?_
    have : (strValues ts).toArray.size = ts.length := by simp [strValues]
    rw [this, rowEq_all ts us hl]; exact kk s G (Up0.refl hG)
  · refine eq_list_lengthsAt ⟨_, hG _ _ g, rfl, _, rfl⟩ ⟨_, hG _ _ g', rfl, _, rfl⟩ (by simpa [strValues] using hl) hu ?_
    have : (ts.map (fun p => p.1.cps.toList) == us.map (fun p => p.1.cps.toList)) = false := by
      rw [beq_eq_false_iff_ne]; intro e
      exact hl (by simpa using congrArg List.length e)
    rw [this] at kk; exact kk s G (Up0.refl hG)
theorem cmp_eq_tup {L K : List (List Nat)} (hu : A.units < cLine) (hl : L.length = K.length) : Cmp B A .Eq (.tup (L.map .str)) (.tup (K.map .str)) (L == K) := fun G s va vb Q E hG ra rb kk => by
  obtain ⟨_, _, rfl, g, rs⟩ := ra.tupI
  obtain ⟨_, _, rfl, g', rs'⟩ := rb.tupI
  obtain ⟨ts, rfl, rfl⟩ := texts_vrels rs
  obtain ⟨us, rfl, rfl⟩ := texts_vrels rs'
  have hl' : ts.length = us.length := by simpa using hl
  refine eq_tupleAt ⟨_, hG _ _ g, rfl, _, rfl⟩ ⟨_, hG _ _ g', rfl, _, rfl⟩ hu (strs_eqAt ts us) ?_
  have h1 : (strValues ts).toArray.size = ts.length := by simp [strValues]
  have h2 : (strValues us).toArray.size = us.length := by simp [strValues]
  rw [h1, h2, ← hl', Nat.min_self, rowEq_all ts us hl', BEq.rfl, Bool.and_true]; exact kk s G (Up0.refl hG)
theorem cmp_ne_tup {L K : List (List Nat)} (hu : A.units < cLine) (hl : L.length = K.length) : Cmp B A .NotEq (.tup (L.map .str)) (.tup (K.map .str)) (L != K) := fun G s va vb Q E hG ra rb kk => by
  obtain ⟨_, _, rfl, g, rs⟩ := ra.tupI
  obtain ⟨_, _, rfl, g', rs'⟩ := rb.tupI
  obtain ⟨ts, rfl, rfl⟩ := texts_vrels rs
  obtain ⟨us, rfl, rfl⟩ := texts_vrels rs'
  have hl' : ts.length = us.length := by simpa using hl
  refine RcNeAt.tuples ⟨_, hG _ _ g, rfl, _, rfl⟩ ⟨_, hG _ _ g', rfl, _, rfl⟩ hu (strs_eqAt ts us) _ _ _ _ ?_
  have h1 : (strValues ts).toArray.size = ts.length := by simp [strValues]
  have h2 : (strValues us).toArray.size = us.length := by simp [strValues]
  rw [h1, h2, ← hl', Nat.min_self, rowEq_all ts us hl', BEq.rfl, Bool.and_true]; exact kk s G (Up0.refl hG)
end
end Mine
end
section
open PySem PySem.W PyProof.Rows PySem.Calls PySem.SeqAt
set_option Elab.async false
set_option linter.unusedVariables false
namespace Mine
section
variable {B : Base} {sc : Scope} {N : List Str} {X : FI B sc N} {σ : List Bnd} {A : Around}

theorem wp_subscripted {M : Model} {slice : Expr} {o i : Value} {Q : Value → Shared → Prop} {E : Value → Shared → Prop} {s : Shared} (h : wpAny M A (getItem o i) Q E s) : wpAny M A (subscripted slice false o i) Q E s := by
  cases slice with
  | Slice a b c p => cases c with
    | none => exact wpAny_operating h
    | some _ => exact wpAny_operating h
  | _ => exact wpAny_operating h
theorem wp_subscript {prog : Program} {w : World} {env : Env} {value slice : Expr} {pos : Pos} {Q : Value → Shared → Prop} {E : Value → Shared → Prop} {s : Shared}
    (h : wpAny (model prog w) A (eval value env) (fun o s₁ => wpAny (model prog w) A (eval slice env) (fun i s₂ => ∃ T id, typeLookup (.type T) "__getitem__" = pure (some (.builtin id)) ∧ s₂.TypeIs o T ∧ wpAny (model prog w) A (getItem o i) Q E s₂) E s₁) E s) :
    wpAny (model prog w) A (eval (.Subscript value slice pos) env) Q E s := by
  rw [arm_eval_Subscript]
  refine wpAny_bind (wpAny_mono h (fun o s₁ h₁ => wpAny_bind (wpAny_holding (wpAny_mono h₁ (fun i s₂ h₂ => wpAny_bind (wpAny_standAt ?_)) fun _ _ x => x))) fun _ _ x => x)
  obtain ⟨T, id, hl, hT, hg⟩ := h₂
  refine wpAny_bind ?_
  rw [getitemInPython_of_ne hT.not_modules]
  refine wpAny_bind (wpAny_specialOf hT hl ?_)
  refine wpAny_pure (wpAny_bind ?_)
  exact wp_subscripted (wpAny_mono hg (fun r s₃ h₃ => wpAny_bind (wpAny_letTemporaryGo (wpAny_pure h₃))) fun _ _ x => x)

/-- an item -/
noncomputable def Itm (B : Base) (A : Around) (o i r : AV) : Prop :=
  ∀ (G : View) (s : Shared) (vo vi : Value) (Q : Value → Shared → Prop) (E : Value → Shared → Prop), G.on s.heap → VRel G vo o → VRel G vi i → (∀ v s' G', Up0 s s' G G' → VRel G' v r → Q v s') →
    ∃ T id, typeLookup (.type T) "__getitem__" = pure (some (.builtin id)) ∧ s.TypeIs vo T ∧ wpAny (model B.prog B.w) A (getItem vo vi) Q E s
theorem ex_sub {value slice : Expr} {pos : Pos} {o i r : AV} (hv : Ex X σ value o) (hi : Ex X σ slice i) (hg : Itm B X.A o i r) : Ex X σ (.Subscript value slice pos) r := .mk fun G s Q E Sa kk =>
  wp_tk (wp_subscript (hv.run G s _ E Sa fun vo s1 G1 u1 ro => hi.run G1 s1 _ E (Sa.upd u1) fun vi s2 G2 u2 ri => hg G2 s2 vo vi _ E u2.on (VRel.le u2.le ro) ri fun v s3 G3 u3 r3 tk => kk v s3 G3 ⟨(u1.trans u2).toUp0.trans u3, tk⟩ r3))
theorem itm_str {x : List Nat} {i : Nat} {c : Nat} (hx : x[i]? = some c) (hs : x.length ≤ sizeLine) : Itm B A (.str x) (.int i) (.str [c]) := fun G s vo vi Q E hG ro ri kk => by
  obtain ⟨x, t, rfl, rfl⟩ := ro.text
  cases ri
  have hi : i < x.cps.toList.length := (List.getElem?_eq_some_iff.mp hx).1
  have hS := sizeL
  refine ⟨"str", _, F.slot_str_getitem.lookup, typeIs_str _ _ _, P.getItem_str (c := c) ?_ ?_ (kk _ _ G (Up0.ofTok hG _) (.ofText rfl))⟩
  · rw [Bool.or_eq_false_iff]; exact ⟨decide_eq_false (by omega), decide_eq_false (by omega)⟩
  · exact StrLaws.at_nonneg (by omega) (by simpa using hx)
theorem itm_list {xs : List AV} {i : Nat} {r : AV} (hx : xs[i]? = some r) (hs : xs.length ≤ sizeLine) : Itm B A (.list xs) (.int i) r := fun G s vo vi Q E hG ro ri kk => by
  cases ro with
  | list g rs =>
    cases ri
    have hi : i < xs.length := (List.getElem?_eq_some_iff.mp hx).1
    have hS := sizeL
    obtain ⟨v, hv, hr⟩ := VRels.get rs hx
    exact ⟨"list", _, slot_list_getitem.lookup, ⟨_, hG _ _ g, rfl⟩, wpAny_getItem_list ⟨_, hG _ _ g, rfl, _, rfl⟩ (by omega) (by omega) (by simpa using hv) (kk _ s G (Up0.refl hG) hr)⟩
theorem itm_last {xs : List AV} {r : AV} (hx : xs.getLast? = some r) (hs : xs.length ≤ sizeLine) : Itm B A (.list xs) (.int (-1)) r := fun G s vo vi Q E hG ro ri kk => by
  cases ro with
  | list g rs =>
    cases ri
    rename_i aa n vs tk
    have hS := sizeL
    rw [List.getLast?_eq_getElem?] at hx
    have hi : xs.length - 1 < xs.length := (List.getElem?_eq_some_iff.mp hx).1
    obtain ⟨v, hv, hr⟩ := VRels.get rs hx
    have hl := VRels.length_eq rs
    refine ⟨"list", _, slot_list_getitem.lookup, ⟨_, hG _ _ g, rfl⟩, wpAny_getItem_list_neg (items := vs.toArray) (x := v) ⟨_, hG _ _ g, rfl, _, rfl⟩ (by omega) (by simp; omega) (by omega) ?_ (kk _ s G (Up0.refl hG) hr)⟩
    have : ((-1 : Int) + (vs.toArray.size : Int)).toNat = xs.length - 1 := by simp; omega
    rw [this]; simpa using hv
theorem itm_tup {xs : List AV} {i : Nat} {r : AV} (hx : xs[i]? = some r) (hs : xs.length ≤ sizeLine) : Itm B A (.tup xs) (.int i) r := fun G s vo vi Q E hG ro ri kk => by
  cases ro with
  | tup g rs =>
    cases ri
    rename_i aa vs tk
    have hi : i < xs.length := (List.getElem?_eq_some_iff.mp hx).1
    have hS := sizeL
    have hl := VRels.length_eq rs
    obtain ⟨v, hv, hr⟩ := VRels.get rs hx
    refine ⟨"tuple", _, slot_tuple_getitem.lookup, ⟨_, hG _ _ g, rfl⟩, P.getItem_tuple (k := i) (hG _ _ g) (by omega) (by omega) ?_ (by simpa using hv) (kk _ s G (Up0.refl hG) hr)⟩
    rw [StrLaws.seqIndex_nonneg (by omega) (by simp; omega)]; rfl

/-! slices -/
structure Pt (X : FI B sc N) (σ : List Bnd) (e : Option Expr) (i : Option Int) : Prop where
  run :
  ∀ (G : View) (s : Shared) (Q : Value → Shared → Prop) (E : Value → Shared → Prop), Sat X G σ s → (∀ v s' G', Up s s' G G' → IsPart v i → Q v s') → wpAny (model B.prog B.w) X.A (evalPart e X.env) Q E s
theorem pt_none : Pt X σ none none := .mk fun G s Q E Sa kk => evalPart_none_step (kk _ s G (Up.refl Sa.on) .none)
theorem pt_some {e : Expr} {i : Int} (h : Ex X σ e (.int i)) : Pt X σ (some e) (some i) := .mk fun G s Q E Sa kk =>
  evalPart_some_step (h.run G s Q E Sa fun v s' G' u r => by cases r; exact kk _ s' G' u (.int i _))
theorem wp_slice {lower upper : Option Expr} {p : Pos} {lo hi : Option Int} {G : View} {s : Shared} {Q : Value → Shared → Prop} {E : Value → Shared → Prop} (hl : Pt X σ lower lo) (hu : Pt X σ upper hi) (Sa : Sat X G σ s)
    (kk : ∀ vl vu s' G', Up s s' G G' → IsPart vl lo → IsPart vu hi → Q (.ref s'.heap.objs.size) { s' with heap := s'.heap.push { cls := .type "slice", data := .fields #[vl, vu, .none] } }) :
    wpAny (model B.prog B.w) X.A (eval (.Slice lower upper none p) X.env) Q E s :=
  wpAny_Slice (hl.run G s _ E Sa fun vl s1 G1 u1 p1 => hu.run G1 s1 _ E (Sa.upd u1) fun vu s2 G2 u2 p2 => evalPart_none_step (kk vl vu s2 G2 (u1.trans u2) p1 p2))
theorem isPart_part {v : Value} {i : Option Int} (h : IsPart v i) : ∃ p : Option (Int × Tok), v = partValue p ∧ p.map (·.1) = i := by
  cases h with
  | none => exact ⟨none, rfl, rfl⟩
  | int i t => exact ⟨some (i, t), rfl, rfl⟩
theorem ex_slice_str {value : Expr} {lower upper : Option Expr} {p pos : Pos} {x : List Nat} {lo hi : Option Int} (hv : Ex X σ value (.str x)) (hl : Pt X σ lower lo) (hu : Pt X σ upper hi) (hx : x.length ≤ sizeLine) :
    Ex X σ (.Subscript value (.Slice lower upper none p) pos) (.str (slc lo hi x)) := .mk fun G s Q E Sa kk =>
  wp_tk (wp_subscript (hv.run G s _ E Sa fun vo s1 G1 u1 ro => by
    obtain ⟨x, t, rfl, rfl⟩ := ro.text
    refine wp_slice hl hu (Sa.upd u1) fun vl vu s2 G2 u2 pl pu => ?_
    obtain ⟨l, rfl, rfl⟩ := isPart_part pl
    obtain ⟨u, rfl, rfl⟩ := isPart_part pu
    refine ⟨"str", _, F.slot_str_getitem.lookup, typeIs_str _ _ _, wpAny_getItem_str_slice (l := l) (u := u) (st := none) ⟨_, Heap.get?_push_size _ rfl, rfl, rfl⟩ rfl
      (post_val_or_str (y := x) (z := ⟨((slicePicked x l u none).filterMap (x.cps[·]?)).toArray⟩) (show (Txt.slice x (l.map (·.1)) (u.map (·.1))).length ≤ sizeLine ∧ _ from ⟨Nat.le_trans (Txt.slice_le x _ _) (by rw [len_toList]; exact hx), fun t' k tk => ?_⟩))⟩
    exact kk _ _ G2 ⟨((u1.trans u2).toUp0.pushOut _).tok k, tk⟩ (.ofText (txt_slice x _ _))))
theorem ex_slice_list {value : Expr} {lower upper : Option Expr} {p pos : Pos} {xs : List AV} {lo hi : Option Int} (hv : Ex X σ value (.list xs)) (hl : Pt X σ lower lo) (hu : Pt X σ upper hi) (hx : xs.length ≤ sizeLine) :
    Ex X σ (.Subscript value (.Slice lower upper none p) pos) (.list (slc lo hi xs)) := .mk fun G s Q E Sa kk =>
  wp_tk (wp_subscript (hv.run G s _ E Sa fun vo s1 G1 u1 ro => by
    cases ro with
    | list g rs =>
      rename_i aa n vs
      refine wp_slice hl hu (Sa.upd u1) fun vl vu s2 G2 u2 pl pu => ?_
      have hL : s2.heap.IsList aa vs.toArray := ⟨_, u2.keep.seq (u1.on _ _ g), rfl, _, rfl⟩
      have hlen := VRels.length_eq rs
      refine ⟨"list", _, slot_list_getitem.lookup, (hL.push _).typeIs, wpAny_getItem_list_slice (hL.push _) (Heap.IsSliceOf.new ..) pl pu .none (by simp) (fun tk => ?_) (by simp; omega)⟩
      have u3 := ((u1.trans u2).toUp0.pushOut { cls := .type "slice", data := .fields #[vl, vu, .none] })
      rw [slc_pick]
      exact Up0.pushList (s := { s2 with heap := s2.heap.push { cls := .type "slice", data := .fields #[vl, vu, .none] } }) u3.on (VRels.slc (VRels.le u2.le rs) lo hi)
        (Q := fun v s' => s.toks ≤ s'.toks → Q v s') (fun v s' G' u r tk => kk v s' G' ⟨u3.trans u, tk⟩ r) tk))
/-! len -/
theorem fn_len_str {x : List Nat} (hx : x.length ≤ sizeLine) : FnIn X (.builtin "len") [.str x] (.int x.length) := fun G s vs Q E T fr ht hG rv kk => by
  have hS := sizeL
  cases rv with
  | cons r1 r2 =>
    obtain ⟨x, t, rfl, rfl⟩ := r1.text
    cases r2
    refine P.len_str (by rw [len_toList]; omega) ?_
    rw [len_toList]; exact kk _ _ G (Up0.ofTok hG _) (.int _ _)
theorem fn_len_list {xs : List AV} (hx : xs.length ≤ sizeLine) : FnIn X (.builtin "len") [.list xs] (.int xs.length) := fun G s vs Q E T fr ht hG rv kk => by
  have hS := sizeL
  obtain ⟨_, rfl, r1⟩ := rv.oneI
  obtain ⟨aa, n, ws, rfl, g, rs⟩ := r1.listI
  have hl := VRels.length_eq rs
  refine len_list (items := ws.toArray) ⟨_, hG _ _ g, rfl, _, rfl⟩ (by simp; omega) ?_
  have : ((ws.toArray.size : Nat) : Int) = (xs.length : Int) := by simp [hl]
  rw [this]; exact kk _ _ G (Up0.ofTok hG _) (.int _ _)
end
end Mine
end
section
open PySem PySem.W PyProof.Rows PySem.Calls PySem.SeqAt
set_option Elab.async false
set_option linter.unusedVariables false
namespace Mine
section
variable {B : Base} {sc : Scope} {N : List Str} {X : FI B sc N} {σ : List Bnd} {A : Around}

noncomputable def View.del (G : View) (a : Addr) : View := fun b => if b = a then none else G b
theorem View.del_self (G : View) (a : Addr) : (G.del a) a = none := if_pos rfl
theorem View.del_ne (G : View) {a b : Addr} (h : b ≠ a) : (G.del a) b = G b := if_neg h
theorem View.del_some {G : View} {a b : Addr} {o : Obj} (h : (G.del a) b = some o) : b ≠ a ∧ G b = some o := by
  by_cases e : b = a
  · subst e; rw [View.del_self] at h; cases h
  · rw [View.del_ne G e] at h; exact ⟨e, h⟩

/-- an object that no value is read off -/
noncomputable def Obj.mute (o : Obj) : Prop := ∃ fs, o.data = .fields fs
mutual
theorem VRel.del {G : View} {I : Addr} {oI : Obj} (hI : G I = some oI) (hm : Obj.mute oI) : ∀ {v : Value} {x : AV}, VRel G v x → VRel (G.del I) v x
  | _, _, .none => .none
  | _, _, .bool b => .bool b
  | _, _, .int i t => .int i t
  | _, _, .str x t => .str x t
  | _, _, .raw v => .raw v
  | _, _, .list (a := a) g d => .list (by
      rw [View.del_ne]; exact g
      rintro rfl; rw [hI] at g; cases g; obtain ⟨fs, h⟩ := hm; cases h) (VRels.del hI hm d)
  | _, _, .tup (a := a) g d => .tup (by
      rw [View.del_ne]; exact g
      rintro rfl; rw [hI] at g; cases g; obtain ⟨fs, h⟩ := hm; cases h) (VRels.del hI hm d)
  | _, _, .dict (a := a) h g c d r => .dict h (by
      rw [View.del_ne]; exact g
      rintro rfl; rw [hI] at g; cases g; obtain ⟨fs, h⟩ := hm; rw [d] at h; cases h) c d r
theorem VRels.del {G : View} {I : Addr} {oI : Obj} (hI : G I = some oI) (hm : Obj.mute oI) : ∀ {vs : List Value} {xs : List AV}, VRels G vs xs → VRels (G.del I) vs xs
  | _, _, .nil => .nil
  | _, _, .cons a b => .cons (VRel.del hI hm a) (VRels.del hI hm b)
end

/-- the frame's own objects are other than a mute one -/
theorem Sat.apart {G : View} {s : Shared} {I : Addr} {oI : Obj} (Sa : Sat X G σ s) (hI : s.heap.get? I = some oI) (hm : Obj.mute oI) : I ≠ X.env.locals ∧ (∀ x c, X.env.cells.lookup x = some c → c ≠ I) ∧ ∀ v xs a, OwnIs X G s.heap v xs → v = .ref a → a ≠ I := by
  obtain ⟨fs, hd⟩ := hm
  refine ⟨?_, fun x c hc => ?_, fun v xs a O e => ?_⟩
  · rintro rfl
    obtain ⟨m, hm, _⟩ := Sa.ns
    obtain ⟨o, es, ep, h1, h2, _⟩ := hm
    rw [hI] at h1; cases h1; rw [hd] at h2; cases h2
  · rintro rfl
    obtain ⟨v, o, h1, h2⟩ := Sa.cells x c hc
    rw [hI] at h1; cases h1; rw [hd] at h2; cases h2
  · rintro rfl
    obtain ⟨a', vs, e', ⟨n, hl⟩, _⟩ := O.ex
    rw [e] at e'; cases e'
    rw [hI] at hl; cases hl; cases hd

theorem near_but {h₀ h h' : Heap} {I : Addr} (x : Near h₀ h) (hk : ∀ b o, b ≠ I → h.get? b = some o → h'.get? b = some o) (h0 : h₀.objs.size ≤ I) : Near h₀ h' := fun b o e => by
  obtain ⟨sl, e1, k1⟩ := x b o e
  exact ⟨sl, hk b _ (fun q => by rw [q] at e; exact absurd (Heap.lt_size e) (Nat.not_lt.mpr h0)) e1, k1⟩
theorem Sat.touch {G : View} {s : Shared} {h' : Heap} {tk : Nat} {I : Addr} {oI : Obj} (Sa : Sat X G σ s) (hI : s.heap.get? I = some oI) (hm : Obj.mute oI) (hG : G I = none) (h0 : X.s₀.heap.objs.size ≤ I)
    (hk : ∀ b o, b ≠ I → s.heap.get? b = some o → h'.get? b = some o) (htk : s.toks ≤ tk) : Sat X G σ { s with heap := h', toks := tk } := by
  obtain ⟨hL, hC, hO⟩ := Sa.apart hI hm
  obtain ⟨m, hm', hv⟩ := Sa.ns
  have hnew : ∀ b o, G b = some o → b ≠ I := fun b o e q => by rw [q, hG] at e; cases e
  have hns : h'.Ns X.env.locals m := hm'.at' fun o e => hk _ o (Ne.symm hL) e
  refine ⟨⟨⟨near_but Sa.up.keep hk h0, ?_, Sa.up.gens, Sa.up.os, Sa.up.le, fun b o e => hk b o (hnew b o e) (Sa.up.on b o e), Sa.up.new⟩, Nat.le_trans Sa.up.tk htk⟩, Sa.nL, Sa.nC, fun x c hc => ?_, m, hns, fun i x b ha hb => ?_⟩
  · obtain ⟨oL, _, _, hL', _⟩ := hns
    exact Nat.le_trans X.hL (Nat.le_of_lt (Heap.lt_size hL'))
  · obtain ⟨v, o, h1, h2⟩ := Sa.cells x c hc
    exact ⟨v, o, hk c o (hC x c hc) h1, h2⟩
  · rcases hv i x b ha hb with h | ⟨v, hl, hb⟩
    · exact .inl h
    · refine .inr ⟨v, ?_, ?_⟩
      · rcases hl with h | ⟨h1, c, h2, o, h3, h4⟩
        · exact .inl h
        · exact .inr ⟨h1, c, h2, o, hk c o (hC x c h2) h3, h4⟩
      · cases b with
        | no => trivial
        | val a => exact hb
        | own xs =>
          obtain ⟨a, vs, e, hl, r⟩ := OwnIs.ex hb
          exact ⟨a, vs, e, hl.at fun o q => hk a o (hO v xs a hb e) q, r⟩

theorem Sat.addView {G : View} {s : Shared} {I : Addr} {oI : Obj} (Sa : Sat X G σ s) (hI : s.heap.get? I = some oI) (hm : Obj.mute oI) (hG : G I = none) (h0 : X.s₀.heap.objs.size ≤ I) : Sat X (G.add I oI) σ s := by
  obtain ⟨hL, hC, hO⟩ := Sa.apart hI hm
  obtain ⟨m, hm', hv⟩ := Sa.ns
  have hle := View.le_add oI hG
  refine ⟨⟨⟨Sa.up.keep, Sa.up.size, Sa.up.gens, Sa.up.os, View.le_trans Sa.up.le hle, fun a o e => ?_, fun a o e => ?_⟩, Sa.up.tk⟩, ?_, fun x c hc => ?_, Sa.cells, m, hm', fun i x b ha hb => ?_⟩
  · by_cases q : a = I
    · subst q; rw [View.add_self] at e; cases e; exact hI
    · rw [View.add_ne _ _ q] at e; exact Sa.up.on a o e
  · by_cases q : a = I
    · subst q; exact .inr h0
    · rw [View.add_ne _ _ q] at e; exact Sa.up.new a o e
  · rw [View.add_ne _ _ (Ne.symm hL)]; exact Sa.nL
  · rw [View.add_ne _ _ (hC x c hc)]; exact Sa.nC x c hc
  · rcases hv i x b ha hb with h | ⟨v, hl, hb⟩
    · exact .inl h
    · refine .inr ⟨v, hl, ?_⟩
      cases b with
      | no => trivial
      | val a => exact VRel.le hle hb
      | own xs =>
        obtain ⟨a, vs, e, hl, r, hn, q⟩ := OwnIs.ex hb
        exact ⟨a, vs, e, hl, VRels.le hle r, by rw [View.add_ne _ _ (hO v xs a hb e)]; exact hn, q⟩
theorem Sat.delView {G : View} {s : Shared} {I : Addr} {oI : Obj} (Sa : Sat X G σ s) (hI : G I = some oI) (hm : Obj.mute oI) (h0 : X.G₀ I = none) : Sat X (G.del I) σ s := by
  obtain ⟨m, hm', hv⟩ := Sa.ns
  refine ⟨⟨⟨Sa.up.keep, Sa.up.size, Sa.up.gens, Sa.up.os, fun a o e => ?_, fun a o e => Sa.up.on a o (View.del_some e).2, fun a o e => Sa.up.new a o (View.del_some e).2⟩, Sa.up.tk⟩, ?_, fun x c hc => ?_, Sa.cells, m, hm', fun i x b ha hb => ?_⟩
  · rw [View.del_ne]; exact Sa.up.le a o e
    rintro rfl; rw [h0] at e; cases e
  · unfold View.del; split
    · rfl
    · exact Sa.nL
  · unfold View.del; split
    · rfl
    · exact Sa.nC x c hc
  · rcases hv i x b ha hb with h | ⟨v, hl, hb⟩
    · exact .inl h
    · refine .inr ⟨v, hl, ?_⟩
      cases b with
      | no => trivial
      | val a => exact VRel.del hI hm hb
      | own xs =>
        obtain ⟨a, vs, e, hl, r, hn, q⟩ := OwnIs.ex hb
        refine ⟨a, vs, e, hl, VRels.del hI hm r, ?_, q⟩
        unfold View.del; split
        · rfl
        · exact hn

/-! for, over a list or a tuple -/
inductive Loop (X : FI B sc N) (x : Str) (body : List Stmt) : List AV → List Bnd → Out → Prop
  | nil {σ : List Bnd} : Loop X x body [] σ (.next σ)
  | next {a : AV} {as : List AV} {σ σ' τ : List Bnd} {o o' : Out} : Set1 N σ x (.val a) σ' → Sx X σ' body o' → (o' = .next τ ∨ o' = .cont τ) → Loop X x body as τ o → Loop X x body (a :: as) σ o
  | ret {a r : AV} {as : List AV} {σ σ' : List Bnd} : Set1 N σ x (.val a) σ' → Sx X σ' body (.ret r) → Loop X x body (a :: as) σ (.ret r)
  | brk {a : AV} {as : List AV} {σ σ' τ : List Bnd} : Set1 N σ x (.val a) σ' → Sx X σ' body (.brk τ) → Loop X x body (a :: as) σ (.next τ)

theorem for_core {x : Str} {p : Pos} {body : List Stmt} {xs : List AV} {o : Out} {I a : Addr} {P : Nat → Value → Prop} {St : Nat → Heap → Prop} {G1 : View} {s : Shared} {R : Result → Shared → Prop}
    (W : Walks B.prog B.w X.A I [I, a] [I] xs.length P St) (hSt : ∀ k h, St k h → ∃ oI, h.get? I = some oI ∧ Obj.mute oI) (hP : ∀ k v b, P k v → xs[k]? = some b → VRel G1 v b)
    (hL : Loop X x body xs σ o) (hx : sc.names.lookup x = some .local ∨ X.own = true) (Sa : Sat X G1 σ s) (h0 : St 0 s.heap) (hI0 : X.s₀.heap.objs.size ≤ I) (hG0 : X.G₀ I = none) (hG1 : G1 I = none) (ha : (G1 a).isSome = true)
    (kk : ∀ fl s' G', G1.le G' → Flowed X G' s' o fl → R (.ok fl) s') : codeAny (model B.prog B.w) X.A (.forLoop (.Name x p) (.ref I) body [] X.env) R s := by
  obtain ⟨oa, hoa⟩ := Option.isSome_iff_exists.mp ha
  refine codeAny_forLoop_any (fun n s' => Pk3 fun k σk Gk => C7 (n = xs.length - k) (k ≤ xs.length) (Loop X x body (xs.drop k) σk o) (Sat X Gk σk s') (G1.le Gk) (Gk I = none) (St k s'.heap)) ?_ xs.length ⟨0, σ, G1, rfl, Nat.zero_le _, hL, Sa, G1.le_refl, hG1, h0⟩
  rintro n s' ⟨k, σk, Gk, rfl, hk, hLk, Sk, hle, hGk, hSk⟩
  obtain ⟨oI, hoI, hmu⟩ := hSt k _ hSk
  by_cases hlt : k < xs.length
  · obtain ⟨b, hb⟩ : ∃ b, xs[k]? = some b := ⟨xs[k], by simp [hlt]⟩
    have hdrop : xs.drop k = b :: xs.drop (k + 1) := by
      rw [List.drop_eq_getElem_cons hlt]
      congr 1
      simpa [hlt] using hb
    rw [hdrop] at hLk
    refine wp_tk (W.item k s' _ _ hlt hSk fun v h1 tk1 hPv hS1 hk1 htk => ?_)
    refine wpAny_pure ?_
    have S1 := Sk.touch (tk := tk1) hoI hmu hGk hI0 (fun b o hb e => hk1 b o (by simpa using hb) e) htk
    obtain ⟨oI1, hoI1, hmu1⟩ := hSt (k + 1) _ hS1
    have rv : VRel Gk v b := VRel.le hle (hP k v b hPv hb)
    have main : ∀ {σ' : List Bnd} {o' : Out} {Q : Flow → Shared → Prop} {E : Value → Shared → Prop}, Set1 N σk x (.val b) σ' → Sx X σ' body o' →
        (∀ fl s3 G3, G1.le G3 → Flowed X G3 s3 o' fl → G3 I = some oI1 → St (k + 1) s3.heap → Q fl s3) →
        wpAny (model B.prog B.w) X.A (assign (.Name x p) X.env v) (fun _ s₂ => wpAny (model B.prog B.w) X.A (execs body X.env) Q E s₂) E { s' with heap := h1, toks := tk1 } := fun {σ' o' Q E} hset hbody hq => by
      obtain ⟨i, hi, rfl⟩ := hset.at_
      have S1' := S1.addView hoI1 hmu1 hGk hI0
      have hle' := View.le_add (G := Gk) oI1 hGk
      refine wpAny_assign_Name (store (S1'.up.on |> fun _ => S1') hi hx (VRel.le hle' rv) fun s2 S2 => ?_)
      have hI2 : s2.heap.get? I = some oI1 := S2.on _ _ (View.add_self _ _ _)
      have ha2 : ∀ o, h1.get? a = some o → s2.heap.get? a = some o := fun o e => by
        have e1 := S1.on a oa (hle a oa hoa)
        have e2 := S2.on a oa (hle' a oa (hle a oa hoa))
        rw [e1] at e; cases e; exact e2
      have hS2 : St (k + 1) s2.heap := W.frame _ _ _ hS1 fun b hb o e => by
        simp only [List.mem_cons, List.not_mem_nil, or_false] at hb
        rcases hb with h0 | h0
        · rw [h0, show h1.get? I = some oI1 from hoI1] at e; cases e; rw [h0]; exact hI2
        · rw [h0] at e ⊢; exact ha2 o e
      refine hbody.run _ s2 Q E S2 fun fl s3 G3 l3 f3 => ?_
      have g3 : G3 I = some oI1 := l3 _ _ (View.add_self _ _ _)
      have on3 : G3.on s3.heap := by
        cases o' <;> cases fl <;> first | exact f3.elim | exact f3.on | exact f3.1.on
      refine hq fl s3 G3 (View.le_trans hle (View.le_trans hle' l3)) f3 g3 ?_
      refine W.frame _ _ _ hS2 fun b hb o e => ?_
      simp only [List.mem_cons, List.not_mem_nil, or_false] at hb
      rcases hb with h0 | h0
      · rw [h0, hI2] at e; cases e; rw [h0]; exact on3 _ _ g3
      · rw [h0] at e ⊢
        have e2 := S2.on a oa (hle' a oa (hle a oa hoa))
        rw [e2] at e; cases e; exact on3 a oa (l3 a oa (hle' a oa (hle a oa hoa)))
    cases hLk with
    | next hset hbody hor hrest =>
      rename_i σ' τ o'
      refine main hset hbody fun fl s3 G3 l3 f3 g3 hS3 => ?_
      have S3 : Sat X G3 τ s3 ∧ (fl = .next ∨ fl = .cont) := by
        rcases hor with rfl | rfl
        · cases fl <;> first | exact f3.elim | exact ⟨f3, .inl rfl⟩
        · cases fl <;> first | exact f3.elim | exact ⟨f3, .inr rfl⟩
      have inv : ∃ m, m < xs.length - k ∧ Pk3 fun k' σk' Gk' => C7 (m = xs.length - k') (k' ≤ xs.length) (Loop X x body (xs.drop k') σk' o) (Sat X Gk' σk' s3) (G1.le Gk') (Gk' I = none) (St k' s3.heap) :=
        ⟨xs.length - (k + 1), Nat.sub_lt_sub_left hlt (Nat.lt_succ_self k), k + 1, τ, G3.del I, rfl, hlt, hrest, S3.1.delView g3 hmu1 hG0, (fun a' o' e => by
          rw [View.del_ne]; exact l3 a' o' e
          intro h0; rw [h0, hG1] at e; cases e), View.del_self _ _, hS3⟩
      rcases S3.2 with rfl | rfl <;> exact inv
    | ret hset hbody =>
      refine main hset hbody fun fl s3 G3 l3 f3 g3 hS3 => ?_
      cases fl <;> first | exact f3.elim | exact kk _ s3 G3 l3 f3
    | brk hset hbody =>
      refine main hset hbody fun fl s3 G3 l3 f3 g3 hS3 => ?_
      cases fl <;> first | exact f3.elim | exact kk _ s3 G3 l3 f3
  · have hke : k = xs.length := Nat.le_antisymm hk (Nat.le_of_not_lt hlt)
    subst hke
    rw [List.drop_length] at hLk
    cases hLk
    refine wp_tk (W.done s' _ _ hSk fun h1 tk1 hk1 htk => ?_)
    refine wpAny_execs_nil (kk .next _ Gk hle ?_)
    exact Sk.touch (tk := tk1) hoI hmu hGk hI0 (fun b o hb e => hk1 b o (by simpa using hb) e) htk
noncomputable def noSet : Expr → Bool
  | .Set .. => false
  | _ => true
theorem noSet_pure {e : Expr} (h : noSet e = true) : ∀ env v, foldedSetIterable e env v = pure v := by
  intro env v
  cases e <;> first | rfl | cases h
theorem s1_for {x : Str} {p pos : Pos} {iter : Expr} {body : List Stmt} {xs : List AV} {o : Out} (hi : Ex X σ iter (.list xs)) (hL : Loop X x body xs σ o) (hx : sc.names.lookup x = some .local ∨ X.own = true)
    (hs : noSet iter = true) : S1 X σ (.For (.Name x p) iter body [] pos) o := .mk fun G s Q E Sa kk =>
  wpAny_For (hi.run G s _ E Sa fun v s1 G1 u1 r1 => by
    cases r1 with
    | list g rs =>
      rename_i a n vs
      have S1 := Sa.upd u1
      refine wpAny_pyIter_list (items := vs.toArray) ⟨_, u1.on _ _ g, rfl, n, rfl⟩ ?_
      have hlen := VRels.length_eq rs
      have hnone : G1 s1.heap.objs.size = none := by
        cases q : G1 s1.heap.objs.size with
        | none => rfl
        | some o => exact absurd (Heap.lt_size (u1.on _ _ q)) (Nat.lt_irrefl _)
      have hne : a ≠ s1.heap.objs.size := Nat.ne_of_lt (Heap.lt_size (u1.on _ _ g))
      have hsz : xs.length = vs.toArray.size := by simp [hlen]
      have hst : (s1.heap.push { cls := .type "list_iterator", data := .fields #[.ref a, .int 0 0] }).IsListIter s1.heap.objs.size a 0 ∧ (s1.heap.push { cls := .type "list_iterator", data := .fields #[.ref a, .int 0 0] }).IsList a vs.toArray :=
        ⟨⟨_, Heap.get?_push_size _ rfl, rfl, rfl⟩, ⟨_, Heap.get?_push_of_some _ (u1.on _ _ g), rfl, n, rfl⟩⟩
      refine for_core (P := fun i v => vs.toArray[i]? = some v) (hsz ▸ Walks.list X.hh _ a hne vs.toArray) (fun k h hk => ?_) (fun k v b hv hb => ?_) hL hx (G1 := G1) (s := { s1 with heap := s1.heap.push _ }) ?_ hst ?_ ?_ hnone (by rw [g]; rfl) fun fl s' G' l f => kk fl s' G' (View.le_trans u1.le l) f
      · obtain ⟨⟨oI, h1, _, h2⟩, _⟩ := hk
        exact ⟨oI, h1, _, h2⟩
      · obtain ⟨v', hv', hr⟩ := VRels.get rs hb
        simp only [List.getElem?_toArray] at hv
        rw [hv] at hv'; cases hv'; exact hr
      · exact S1.upd ⟨(Up0.refl u1.on).pushOut _, Nat.le_refl _⟩
      · exact S1.up.size
      · cases q : X.G₀ s1.heap.objs.size with
        | none => rfl
        | some o => rw [S1.up.le _ _ q] at hnone; cases hnone) (noSet_pure hs _)
theorem s1_forT {x : Str} {p pos : Pos} {iter : Expr} {body : List Stmt} {xs : List AV} {o : Out} (hi : Ex X σ iter (.tup xs)) (hL : Loop X x body xs σ o) (hx : sc.names.lookup x = some .local ∨ X.own = true)
    (hs : noSet iter = true) : S1 X σ (.For (.Name x p) iter body [] pos) o := .mk fun G s Q E Sa kk =>
  wpAny_For (hi.run G s _ E Sa fun v s1 G1 u1 r1 => by
    cases r1 with
    | tup g rs =>
      rename_i a vs
      have S1 := Sa.upd u1
      refine wpAny_pyIter_tuple (items := vs.toArray) ⟨_, u1.on _ _ g, rfl, 0, rfl⟩ ?_
      have hlen := VRels.length_eq rs
      have hnone : G1 s1.heap.objs.size = none := by
        cases q : G1 s1.heap.objs.size with
        | none => rfl
        | some o => exact absurd (Heap.lt_size (u1.on _ _ q)) (Nat.lt_irrefl _)
      have hne : a ≠ s1.heap.objs.size := Nat.ne_of_lt (Heap.lt_size (u1.on _ _ g))
      have hsz : xs.length = vs.toArray.size := by simp [hlen]
      have hst : (s1.heap.push { cls := .type "tuple_iterator", data := .fields #[.ref a, .int 0 0] }).IsTupleIter s1.heap.objs.size a 0 ∧ (s1.heap.push { cls := .type "tuple_iterator", data := .fields #[.ref a, .int 0 0] }).IsTuple a vs.toArray :=
        ⟨⟨_, Heap.get?_push_size _ rfl, rfl, rfl⟩, ⟨_, Heap.get?_push_of_some _ (u1.on _ _ g), rfl, 0, rfl⟩⟩
      refine for_core (P := fun i v => vs.toArray[i]? = some v) (hsz ▸ Walks.tuple X.hh _ a hne vs.toArray) (fun k h hk => ?_) (fun k v b hv hb => ?_) hL hx (G1 := G1) (s := { s1 with heap := s1.heap.push _ }) ?_ hst ?_ ?_ hnone (by rw [g]; rfl) fun fl s' G' l f => kk fl s' G' (View.le_trans u1.le l) f
      · obtain ⟨⟨oI, h1, _, h2⟩, _⟩ := hk
        exact ⟨oI, h1, _, h2⟩
      · obtain ⟨v', hv', hr⟩ := VRels.get rs hb
        simp only [List.getElem?_toArray] at hv
        rw [hv] at hv'; cases hv'; exact hr
      · exact S1.upd ⟨(Up0.refl u1.on).pushOut _, Nat.le_refl _⟩
      · exact S1.up.size
      · cases q : X.G₀ s1.heap.objs.size with
        | none => rfl
        | some o => rw [S1.up.le _ _ q] at hnone; cases hnone) (noSet_pure hs _)
end
end Mine
end
section
open PySem PySem.W PyProof.Rows PySem.Calls PySem.SeqAt
set_option Elab.async false
set_option linter.unusedVariables false
namespace Mine
section
variable {B : Base} {sc : Scope} {N : List Str} {X : FI B sc N} {σ : List Bnd} {A : Around}

/-! a comprehension's frame -/
noncomputable def relab (scope sc : Scope) : Scope :=
  { scope with names := scope.names.map fun p => if (p.2 == .free && sc.kind == .function && sc.names.lookup p.1 == some .cell) then (p.1, .cell) else p }
theorem relab_eq (X : FI B sc N) (scope : Scope) : relabel scope X.env = relab scope sc := by
  unfold relabel relab
  rw [X.hsc]
  congr 1
  refine List.map_congr_left fun p _ => ?_
  obtain ⟨n, k⟩ := p
  dsimp only
  rw [X_kindOf]

noncomputable def clOf (env : Env) : List (Str × NameKind) → List (Str × Addr) → List (Str × Addr)
  | [], acc => acc
  | (n, k) :: r, acc => if k == .free then clOf env r ((n, (env.cells.lookup n).getD 0) :: acc) else clOf env r acc
theorem closure_eq {scope : Scope} {env : Env} (h : ∀ p ∈ scope.names, p.2 = .free → ∃ c, env.cells.lookup p.1 = some c) : closureFor scope env = pure (clOf env scope.names []) := by
  have key : ∀ (F : Str × NameKind → List (Str × Addr) → Sem (ForInStep (List (Str × Addr)))),
      (∀ n k cs, F (n, k) cs = if k == .free then (do let c ← cellOf env n; pure (ForInStep.yield ((n, c) :: cs))) else pure (ForInStep.yield cs)) →
      ∀ (names : List (Str × NameKind)) (acc : List (Str × Addr)), (∀ p ∈ names, p.2 = .free → ∃ c, env.cells.lookup p.1 = some c) → forIn names acc F = pure (clOf env names acc) := by
    intro F hF names
    induction names with
    | nil => intro acc _; rfl
    | cons x r ih =>
      obtain ⟨n, k⟩ := x
      intro acc hm
      rw [List.forIn_cons, hF]
      unfold clOf
      by_cases hk : (k == NameKind.free) = true
      · rw [if_pos hk, if_pos hk]
        obtain ⟨c, hc⟩ := hm (n, k) (.head _) (by simpa using hk)
        have e : cellOf env n = pure c := by unfold cellOf; rw [hc]
        rw [e, hc]
        show forIn r ((n, c) :: acc) F = _
        exact ih _ fun p hp => hm p (.tail _ hp)
      · rw [if_neg hk, if_neg hk]
        show forIn r acc F = _
        exact ih _ fun p hp => hm p (.tail _ hp)
  unfold closureFor
  show (forIn scope.names ([] : List (Str × Addr)) _ >>= fun cs => pure cs) = _
  rw [key _ (fun n k cs => rfl) scope.names [] h]; rfl

theorem clOf_look {env : Env} {y : Str} {c : Addr} : ∀ (names : List (Str × NameKind)) (acc : List (Str × Addr)), (∀ p ∈ names, p.2 = .free → ∃ c, env.cells.lookup p.1 = some c) → (∀ d, acc.lookup y = some d → env.cells.lookup y = some d) →
    (clOf env names acc).lookup y = some c → env.cells.lookup y = some c
  | [], acc, _, ha, h => ha c h
  | (n, k) :: r, acc, hm, ha, h => by
    unfold clOf at h
    split at h
    · rename_i hk
      obtain ⟨d, hd⟩ := hm (n, k) (.head _) (by simpa using hk)
      refine clOf_look r _ (fun p hp => hm p (.tail _ hp)) (fun e he => ?_) h
      rw [List.lookup_cons] at he
      split at he
      · rename_i hy
        cases he
        have hd' : env.cells.lookup n = some d := hd
        rw [beq_iff_eq.mp hy, hd']; rfl
      · exact ha e he
    · exact clOf_look r _ (fun p hp => hm p (.tail _ hp)) ha h
theorem clOf_keep {env : Env} {y : Str} : ∀ (names : List (Str × NameKind)) (acc : List (Str × Addr)), (acc.lookup y).isSome = true → ((clOf env names acc).lookup y).isSome = true
  | [], acc, h => h
  | (n, k) :: r, acc, h => by
    unfold clOf
    split
    · refine clOf_keep r _ ?_
      rw [List.lookup_cons]; split <;> simp_all
    · exact clOf_keep r _ h
theorem clOf_has {env : Env} {y : Str} : ∀ (names : List (Str × NameKind)) (acc : List (Str × Addr)), (y, NameKind.free) ∈ names → ((clOf env names acc).lookup y).isSome = true
  | (n, k) :: r, acc, h => by
    unfold clOf
    rcases List.mem_cons.mp h with e | h
    · cases e
      rw [if_pos (by decide)]
      refine clOf_keep r _ ?_
      simp [List.lookup_cons]
    · split
      · exact clOf_has r _ h
      · exact clOf_has r _ h

theorem clOf_mem {env : Env} {p : Str × Addr} : ∀ (names : List (Str × NameKind)) (acc : List (Str × Addr)), (∀ q ∈ names, q.2 = .free → ∃ c, env.cells.lookup q.1 = some c) → p ∈ clOf env names acc → p ∈ acc ∨ ∃ y, env.cells.lookup y = some p.2
  | [], acc, _, h => .inl h
  | (n, k) :: r, acc, hm, h => by
    unfold clOf at h
    split at h
    · rename_i hk
      obtain ⟨d, hd⟩ := hm (n, k) (.head _) (by simpa using hk)
      rcases clOf_mem r _ (fun p hp => hm p (.tail _ hp)) h with h' | h'
      · rcases List.mem_cons.mp h' with rfl | h'
        · have hd' : env.cells.lookup n = some d := hd
          exact .inr ⟨n, by rw [hd']; rfl⟩
        · exact .inl h'
      · exact .inr h'
    · exact clOf_mem r _ (fun p hp => hm p (.tail _ hp)) h

inductive Caps (N : List Str) (σ : List Bnd) : List Str → List Bnd → Prop
  | nil : Caps N σ [] []
  | cons {y : Str} {b : AV} {ys : List Str} {bs : List Bnd} : Var N σ y (.val b) → Caps N σ ys bs → Caps N σ (y :: ys) (.val b :: bs)
theorem Caps.get {N : List Str} {σ : List Bnd} {ys : List Str} {bs : List Bnd} (h : Caps N σ ys bs) : ∀ {i : Nat} {y : Str} {b : Bnd}, ys[i]? = some y → bs[i]? = some b → ∃ a, b = .val a ∧ Var N σ y (.val a) := by
  induction h with
  | nil => intro i y b h; simp at h
  | cons v _ ih =>
    intro i y b h h'
    cases i with
    | zero => simp at h h'; subst h; subst h'; exact ⟨_, rfl, v⟩
    | succ i => exact ih (by simpa using h) (by simpa using h')

/-- the comprehension's scope, as it must be -/
noncomputable def okComp (scope sc : Scope) (x : Str) (ys : List Str) : Bool :=
  scope.kind == .function && scope.names.all (fun p => p.2 != .cell) && scope.names.all (fun p => p.2 != .local || scope.names.lookup p.1 == some .local) &&
  scope.names.lookup x == some .local && scope.names.all (fun p => p.2 != .free || ys.contains p.1) && ys.all (fun y => scope.names.contains (y, .free) && (sc.names.lookup y == some .cell || sc.names.lookup y == some .free)) &&
  distinct (x :: ys) && (x :: ys).all (fun y => !(y == ("__debug__" : Str)) && !(y == ("__classdict__" : Str))) &&
  (relab scope sc).names.lookup x == some .local && ys.all (fun y => (relab scope sc).names.lookup y == some .cell || (relab scope sc).names.lookup y == some .free)

/-- the tests behind the for -/
noncomputable def Ifs (X : FI B sc N) (σ : List Bnd) : List Expr → Bool → Prop
  | [], b => b = true
  | e :: r, b => ∃ c, Tst X σ e c ∧ if c then Ifs X σ r b else b = false
theorem ifs_false {M : Model} {env : Env} {s : Shared} {Q : Bool → Shared → Prop} {E : Value → Shared → Prop} : ∀ (ifs : List Expr), Q false s →
    wpAny M A (forIn ifs false fun c r => if r = true then do let ok ← isTrue c env (eval c env); pure (ForInStep.yield ok) else pure (ForInStep.yield r)) Q E s
  | [], h => wpAny_pure h
  | e :: r, h => by
    rw [List.forIn_cons]
    refine wpAny_bind ?_
    rw [if_neg (by decide)]
    exact wpAny_pure (ifs_false r h)
theorem ifs_run {Q : Bool → Shared → Prop} {E : Value → Shared → Prop} : ∀ {ifs : List Expr} {b : Bool} {G : View} {s : Shared}, Ifs X σ ifs b → Sat X G σ s → (∀ s' G', Up s s' G G' → Q b s') →
    wpAny (model B.prog B.w) X.A (forIn ifs true fun c r => if r = true then do let ok ← isTrue c X.env (eval c X.env); pure (ForInStep.yield ok) else pure (ForInStep.yield r)) Q E s
  | [], b, G, s, h, Sa, kk => by cases h; exact wpAny_pure (kk s G (Up.refl Sa.on))
  | e :: r, b, G, s, ⟨c, hc, h⟩, Sa, kk => by
    rw [List.forIn_cons]
    refine wpAny_bind ?_
    rw [if_pos rfl]
    refine wpAny_bind (hc.run G s _ E Sa fun s1 G1 u1 => wpAny_pure ?_)
    cases c with
    | true => exact ifs_run h (Sa.upd u1) fun s2 G2 u2 => kk s2 G2 (u1.trans u2)
    | false =>
      cases h
      exact ifs_false r (kk s1 G1 u1)

inductive Cmpr (X : FI B sc N) (bs : List Bnd) (elt : Expr) (ifs : List Expr) : List AV → List AV → Prop
  | nil : Cmpr X bs elt ifs [] []
  | take {a r : AV} {as rs : List AV} : Ifs X (.val a :: bs) ifs true → Ex X (.val a :: bs) elt r → Cmpr X bs elt ifs as rs → Cmpr X bs elt ifs (a :: as) (r :: rs)
  | skip {a : AV} {as rs : List AV} : Ifs X (.val a :: bs) ifs false → Cmpr X bs elt ifs as rs → Cmpr X bs elt ifs (a :: as) rs
theorem Cmpr.len {X : FI B sc N} {bs : List Bnd} {elt : Expr} {ifs : List Expr} {xs rs : List AV} (h : Cmpr X bs elt ifs xs rs) : rs.length ≤ xs.length := by
  induction h with
  | nil => exact Nat.le_refl _
  | take _ _ _ ih => simpa using ih
  | skip _ _ ih => exact Nat.le_succ_of_le ih

/-- an object of the frame's own, out of the view, is turned -/
theorem Sat.touchN {G : View} {s : Shared} {h' : Heap} {tk : Nat} {D : Addr} (Sa : Sat X G σ s) (hL : D ≠ X.env.locals) (hC : ∀ x c, X.env.cells.lookup x = some c → c ≠ D) (hno : ∀ b ∈ σ, b.isOwn = false) (hG : G D = none) (h0 : X.s₀.heap.objs.size ≤ D)
    (hk : ∀ b o, b ≠ D → s.heap.get? b = some o → h'.get? b = some o) (htk : s.toks ≤ tk) : Sat X G σ { s with heap := h', toks := tk } := by
  obtain ⟨m, hm', hv⟩ := Sa.ns
  have hnew : ∀ b o, G b = some o → b ≠ D := fun b o e q => by rw [q, hG] at e; cases e
  have hns : h'.Ns X.env.locals m := hm'.at' fun o e => hk _ o (Ne.symm hL) e
  refine ⟨⟨⟨near_but Sa.up.keep hk h0, ?_, Sa.up.gens, Sa.up.os, Sa.up.le, fun b o e => hk b o (hnew b o e) (Sa.up.on b o e), Sa.up.new⟩, Nat.le_trans Sa.up.tk htk⟩, Sa.nL, Sa.nC, fun x c hc => ?_, m, hns, fun i x b ha hb => ?_⟩
  · obtain ⟨oL, _, _, hL', _⟩ := hns
    exact Nat.le_trans X.hL (Nat.le_of_lt (Heap.lt_size hL'))
  · obtain ⟨v, o, h1, h2⟩ := Sa.cells x c hc
    exact ⟨v, o, hk c o (hC x c hc) h1, h2⟩
  · rcases hv i x b ha hb with h | ⟨v, hl, hb'⟩
    · exact .inl h
    · refine .inr ⟨v, ?_, ?_⟩
      · rcases hl with h | ⟨h1, c, h2, o, h3, h4⟩
        · exact .inl h
        · exact .inr ⟨h1, c, h2, o, hk c o (hC x c h2) h3, h4⟩
      · cases b with
        | no => trivial
        | val a => exact hb'
        | own xs =>
          have := hno _ (List.mem_of_getElem? hb)
          cases this
theorem Up0.still {s s' : Shared} {G G' : View} {a : Addr} (u : Up0 s s' G G') (h : G a = none) (ha : a < s.heap.objs.size) : G' a = none := by
  cases q : G' a with
  | none => rfl
  | some o =>
    rcases u.new a o q with h' | h'
    · rw [h] at h'; cases h'
    · exact absurd ha (Nat.not_lt.mpr h')

theorem caps_noOwn {ys : List Str} {bs : List Bnd} (h : Caps N σ ys bs) : ∀ b ∈ bs, b.isOwn = false := by
  induction h with
  | nil => intro b h; cases h
  | cons _ _ ih =>
    intro b h
    rcases List.mem_cons.mp h with rfl | h
    · rfl
    · exact ih b h
theorem caps_len {ys : List Str} {bs : List Bnd} (h : Caps N σ ys bs) : ys.length = bs.length := by
  induction h with
  | nil => rfl
  | cons _ _ ih => simpa using ih

theorem vrels_snoc {G : View} {vs : List Value} {xs : List AV} {v : Value} {x : AV} (h : VRels G vs xs) (h' : VRel G v x) : VRels G (vs ++ [v]) (xs ++ [x]) := VRels.app h (.cons h' .nil)

/-- from the list's iterator on: the new list, the new frame, the turns -/
structure OkC (scope sc : Scope) (x : Str) (ys : List Str) : Prop where
  hkind : scope.kind = .function
  hcell : ∀ p ∈ scope.names, ¬ p.2 = .cell
  hnames : ∀ p ∈ scope.names, ¬ p.2 = .local ∨ scope.names.lookup p.1 = some .local
  hfree : ∀ p ∈ scope.names, ¬ p.2 = .free ∨ ys.contains p.1 = true
  hys : ∀ y ∈ ys, scope.names.contains (y, .free) = true ∧ (sc.names.lookup y = some .cell ∨ sc.names.lookup y = some .free)
  hdist : distinct (x :: ys) = true
  hdbg : ∀ y ∈ x :: ys, (y == Str.ofString "__debug__") = false ∧ (y == Str.ofString "__classdict__") = false
  hrx : (relab scope sc).names.lookup x = some .local
  hrys : ∀ y ∈ ys, (relab scope sc).names.lookup y = some .cell ∨ (relab scope sc).names.lookup y = some .free
theorem okC {scope : Scope} {x : Str} {ys : List Str} (hok : okComp scope sc x ys = true) : OkC scope sc x ys := by
  simp only [okComp, Bool.and_eq_true, List.all_eq_true, beq_iff_eq, bne_iff_ne, Bool.or_eq_true, ne_eq, Bool.not_eq_true'] at hok
  exact ⟨hok.1.1.1.1.1.1.1.1.1, hok.1.1.1.1.1.1.1.1.2, hok.1.1.1.1.1.1.1.2, hok.1.1.1.1.1.2, hok.1.1.1.1.2, hok.1.1.1.2, hok.1.1.2, hok.1.2, hok.2⟩
theorem OkC.freeC {scope : Scope} {x : Str} {ys : List Str} {bs : List Bnd} (O : OkC scope sc x ys) (hcap : Caps N σ ys bs) (X : FI B sc N) : ∀ p ∈ scope.names, p.2 = .free → ∃ c, X.env.cells.lookup p.1 = some c := fun p hp hk => by
  rcases O.hfree p hp with h' | h'
  · exact absurd hk h'
  · have hy : p.1 ∈ ys := by simpa using h'
    obtain ⟨i, hi⟩ := List.getElem?_of_mem hy
    have hb : ∃ b, bs[i]? = some b := by
      have := caps_len hcap
      have h1 := (List.getElem?_eq_some_iff.mp hi).1
      exact ⟨bs[i]'(by omega), by simp⟩
    obtain ⟨b, hb⟩ := hb
    obtain ⟨a, rfl, hv⟩ := hcap.get hi hb
    obtain ⟨j, hj, _⟩ := hv.at_
    rcases X.hv _ hj.mem with h1 | ⟨_, h1⟩
    · rcases (O.hys _ hy).2 with h2 | h2 <;> rw [h1] at h2 <;> cases h2
    · exact h1
theorem clL {scope : Scope} {X : FI B sc N} (F : ∀ p ∈ scope.names, p.2 = .free → ∃ c, X.env.cells.lookup p.1 = some c) : ∀ y c, (clOf X.env scope.names []).lookup y = some c → X.env.cells.lookup y = some c := fun y c hc => clOf_look scope.names [] F (by simp) hc
/-- the frame of a comprehension -/
noncomputable def compFI {scope : Scope} {x : Str} {ys : List Str} (X : FI B sc N) {G1 : View} {s1 : Shared} (Sa : Sat X G1 σ s1) (O : OkC scope sc x ys) (F : ∀ p ∈ scope.names, p.2 = .free → ∃ c, X.env.cells.lookup p.1 = some c) (C : Addr) (hC : s1.heap.objs.size ≤ C) : FI B (relab scope sc) (x :: ys) :=
  { s₀ := s1, G₀ := G1, A := X.A, env := compEnvC scope (clOf X.env scope.names []) C X.env, lvl := X.lvl, own := false, top := Sa.top, ht := Sa.tk, fr := (by
      obtain ⟨fs, h1, h2⟩ := Sa.frames
      refine ⟨fs, h1, fun e he => ?_⟩
      obtain ⟨h3, L, o, es, n, h4, h5, hG, h6, h7⟩ := h2 e he
      exact ⟨h3, L, h4, h5, .inr ⟨hG, o, es, n, h6, h7⟩⟩), hh := X.hh, hd := X.hd, hu := X.hu, hsc := relab_eq X scope, hk := O.hkind, hg := X.hg, hb := X.hb,
    hL := hC, hN := distinct_nodup O.hdist,
    hv := fun y hy => by
      rcases List.mem_cons.mp hy with rfl | hy
      · exact .inl O.hrx
      · refine .inr ⟨(O.hrys y hy), ?_⟩
        have := clOf_has (env := X.env) (y := y) scope.names [] (by simpa using (O.hys y hy).1)
        exact Option.isSome_iff_exists.mp this
    hdbg := fun y hy => O.hdbg y hy, hap := fun q => (by cases q), habove := fun q => (by cases q),
    hne := fun p hp e => by
      rcases clOf_mem scope.names [] F hp with h' | ⟨y, hy⟩
      · cases h'
      · obtain ⟨v, hv⟩ := Sa.cells y _ hy
        exact absurd (Nat.lt_of_lt_of_le hv.lt hC) (by rw [e]; exact Nat.lt_irrefl _), hown := fun q => (by cases q) }
theorem compFI_sat {scope : Scope} {x : Str} {ys : List Str} {bs : List Bnd} {X : FI B sc N} {G1 : View} {s1 s4 : Shared} {m : Str → Option Value} {Sa : Sat X G1 σ s1} {O : OkC scope sc x ys} {F : ∀ p ∈ scope.names, p.2 = .free → ∃ c, X.env.cells.lookup p.1 = some c} {C : Addr} {hC : s1.heap.objs.size ≤ C}
    (hcap : Caps N σ ys bs) (up : Up s1 s4 G1 G1) (hn : G1 C = none) (hm' : s4.heap.Ns C m) : Sat (compFI X Sa O F C hC) G1 (.no :: bs) s4 := by
  have hclL := clL F
  obtain ⟨m, hm, hv⟩ := Sa.ns
  refine ⟨up, hn, fun y c hc => Sa.nC y c (hclL y c hc), fun y c hc => ?_, _, hm', fun i y b ha hb => ?_⟩
  · obtain ⟨v, hv⟩ := Sa.cells y c (hclL y c hc)
    exact ⟨v, cell_near hv up.keep⟩
  · cases ha with
    | here => simp at hb; exact .inl hb.symm
    | there ha =>
      rename_i j
      have hbj : bs[j]? = some b := by simpa using hb
      obtain ⟨a, rfl, hva⟩ := hcap.get ha.get hbj
      obtain ⟨i', ha', hb'⟩ := hva.at_
      rcases hv i' y _ ha' hb' with h' | ⟨v, hl, hr⟩
      · cases h'
      · refine .inr ⟨v, ?_, hr⟩
        have hyy : y ∈ ys := ha.mem
        have hcy := clOf_has (env := X.env) (y := y) scope.names [] (by simpa using (O.hys y hyy).1)
        obtain ⟨c, hc⟩ := Option.isSome_iff_exists.mp hcy
        have hc' := hclL y c hc
        rcases hl with ⟨h1, _⟩ | ⟨_, d, hd, hi⟩
        · rcases (O.hys y hyy).2 with h2 | h2 <;> rw [h1] at h2 <;> cases h2
        · rw [hc'] at hd; cases hd
          exact .inr ⟨O.hrys y hyy, c, hc, cell_near hi up.keep⟩
theorem comp_core {x : Str} {px : Pos} {elt iter : Expr} {ifs : List Expr} {scope : Scope} {pos : Pos} {ys : List Str} {bs : List Bnd} {xs rs : List AV} {I : Addr} {fp : List Addr} {P : Nat → Value → Prop} {St : Nat → Heap → Prop} {G1 : View} {s1 s2 : Shared}
    {E : Value → Shared → Prop} {RR : Value → Env → Result → Shared → Prop}
    (W : Walks B.prog B.w X.A I fp [I] xs.length P St) (hP : ∀ k v b G', G1.le G' → P k v → xs[k]? = some b → VRel G' v b) (hn : xs.length ≤ sizeLine) (hcap : Caps N σ ys bs) (hok : okComp scope sc x ys = true)
    (h : ∀ X' : FI B (relab scope sc) (x :: ys), X'.lvl = X.lvl → X'.A = X.A → Cmpr X' bs elt ifs xs rs)
    (Sa : Sat X G1 σ s1) (u2 : Up s1 s2 G1 G1) (hst : St 0 s2.heap) (hI : s1.heap.objs.size ≤ I) (hI2 : I < s2.heap.objs.size) (hfp : ∀ b ∈ fp, b = I ∨ (G1 b).isSome = true) (hm : ∀ k h, St k h → ∃ oI, h.get? I = some oI ∧ Obj.mute oI)
    (hRR : ∀ D C cl s' m' vs n G', s1.heap.objs.size ≤ D → s1.heap.objs.size ≤ C → D ≠ C → s'.heap.Ns C m' → s'.heap.get? D = some { cls := .type "list", data := .seq (List.toArray vs) n } → VRels G' vs rs → Up s1 s' G1 G' → G' C = none → G' D = none →
      RR (.ref D) { scope := relabel scope X.env, locals := C, globals := X.env.globals, cells := cl, qual := X.env.qual, func := none, code := X.env.code, frame := X.env.frame, builtins := X.env.builtins } (.ok .next) s') :
    wpAny (model B.prog B.w) X.A (newList []) (fun acc s₃ => wpAny (model B.prog B.w) X.A (newFunctionEnv scope X.env.globals (clOf X.env scope.names []) [] X.env.qual none .none (some X.env)) (fun cenv s₄ =>
      codeAny (model B.prog B.w) X.A (.compStart (.ListComp elt [⟨.Name x px, iter, ifs, 0⟩] scope pos) 0 (.ref I) acc { cenv with scope := relabel scope X.env }) (RR acc { cenv with scope := relabel scope X.env }) s₄) E s₃) E s2 := by
  have O := okC hok
  have hfreeC := O.freeC hcap X
  refine wpAny_newObj_type (wpAny_newFunctionEnv (fun p hp => O.hcell p hp) (by intro y hy; cases hy) (fun h₁ hns₁ hsb₁ => ?_) O.hkind)
  dsimp only at hns₁ hsb₁ ⊢
  generalize hH2 : s2.heap.push { cls := .type "list", dict := none, data := .seq ([] : List Value).toArray } = H2 at hns₁ hsb₁ ⊢
  have hC : H2.objs.size = s2.heap.objs.size + 1 := by rw [← hH2, Heap.size_push]
  have hD2 : H2.get? s2.heap.objs.size = some { cls := .type "list", data := .seq ([] : List Value).toArray } := by rw [← hH2]; exact Heap.get?_push_size _ rfl
  have old : ∀ b o, s2.heap.get? b = some o → h₁.get? b = some o := fun b o e => by
    have hb := Heap.lt_size e
    refine hsb₁.extBut b o (Nat.ne_of_lt (by rw [hC]; exact Nat.lt_succ_of_lt hb)) (Heap.get?_push_of_some _ ?_)
    rw [← hH2]; exact Heap.get?_push_of_some _ e
  have hDh : h₁.get? s2.heap.objs.size = some { cls := .type "list", data := .seq ([] : List Value).toArray } := hsb₁.extBut _ _ (Nat.ne_of_lt (by rw [hC]; exact Nat.lt_succ_self _)) (Heap.get?_push_of_some _ hD2)
  have hsz1 : s2.heap.objs.size + 2 ≤ h₁.objs.size := by
    rw [hsb₁.1, Heap.size_push, hC]; exact Nat.le_refl _
  have hlow : ∀ a, s1.heap.objs.size ≤ a → G1 a = none := fun a ha => by
    cases q : G1 a with
    | none => rfl
    | some o => exact absurd (Heap.lt_size (Sa.on _ _ q)) (Nat.not_lt.mpr ha)
  have hclL := clL hfreeC
  let cenv : Env := compEnvC scope (clOf X.env scope.names []) H2.objs.size X.env
  have hLge : s1.heap.objs.size ≤ H2.objs.size := by rw [hC]; exact Nat.le_succ_of_le u2.size
  let X' : FI B (relab scope sc) (x :: ys) := compFI X Sa O hfreeC H2.objs.size hLge
  have hCm := h X' rfl rfl
  have hlen := hCm.len
  have hxl : (relab scope sc).names.lookup x = some .local := O.hrx
  have hnoOwn : ∀ b : Bnd, b.isOwn = false → ∀ c ∈ b :: bs, c.isOwn = false := fun b hb c hc => by
    rcases List.mem_cons.mp hc with rfl | hc
    · exact hb
    · exact caps_noOwn hcap c hc
  have up1 : Up s1 { s2 with heap := h₁, toks := s2.toks + ([] : List (Str × Value)).length } G1 G1 :=
    ⟨⟨u2.keep.trans (.of old), Nat.le_trans u2.size (Nat.le_trans (Nat.le_add_right _ 2) hsz1), u2.gens, u2.os, G1.le_refl, fun b o e => old b o (u2.on b o e), fun a o e => .inl (by rw [e]; rfl)⟩, Nat.le_trans u2.tk (Nat.le_add_right _ _)⟩
  have S0 : Sat X' G1 (.no :: bs) { s2 with heap := h₁, toks := s2.toks + ([] : List (Str × Value)).length } := compFI_sat hcap up1 (hlow _ hLge) hns₁
  have hst₁ : St 0 h₁ := W.frame _ _ _ hst fun b _ o e => old b o e
  have hcl1 : ∀ y c, X'.env.cells.lookup y = some c → c < s1.heap.objs.size := fun y c hc => by
    obtain ⟨v, hv⟩ := Sa.cells y c (hclL y c hc)
    exact hv.lt
  have hID : I ≠ s2.heap.objs.size := Nat.ne_of_lt hI2
  have hIL : I ≠ X'.env.locals := by show I ≠ H2.objs.size; rw [hC]; exact Nat.ne_of_lt (Nat.lt_succ_of_lt hI2)
  have hDL : s2.heap.objs.size ≠ X'.env.locals := by show _ ≠ H2.objs.size; rw [hC]; exact Nat.ne_of_lt (Nat.lt_succ_self _)
  have hIC : ∀ y c, X'.env.cells.lookup y = some c → c ≠ I := fun y c hc => Nat.ne_of_lt (Nat.lt_of_lt_of_le (hcl1 y c hc) hI)
  have hDC : ∀ y c, X'.env.cells.lookup y = some c → c ≠ s2.heap.objs.size := fun y c hc => Nat.ne_of_lt (Nat.lt_of_lt_of_le (hcl1 y c hc) u2.size)
  have hfL : ∀ b ∈ fp, b ≠ X'.env.locals ∧ (∀ y c, X'.env.cells.lookup y = some c → b ≠ c) ∧ b ≠ s2.heap.objs.size := fun b hb => by
    rcases hfp b hb with rfl | h'
    · exact ⟨hIL, fun y c hc => Ne.symm (hIC y c hc), hID⟩
    · obtain ⟨o, ho⟩ := Option.isSome_iff_exists.mp h'
      have h1 : b < s1.heap.objs.size := Heap.lt_size (Sa.on _ _ ho)
      have h2 : ∀ y c, X.env.cells.lookup y = some c → b ≠ c := fun y c hc e => by rw [e, Sa.nC y c hc] at ho; cases ho
      refine ⟨?_, fun y c hc => h2 y c (hclL y c hc), Nat.ne_of_lt (Nat.lt_of_lt_of_le h1 u2.size)⟩
      show b ≠ H2.objs.size
      exact Nat.ne_of_lt (Nat.lt_of_lt_of_le h1 hLge)
  have fpk : ∀ {k : Nat} {s3 s5 : Shared} {G3 G5 : View}, G1.le G3 → G3.on s3.heap → Up s3 s5 G3 G5 → St k s3.heap → St k s5.heap := fun {k s3 s5 G3 G5} l3 o3 u hS => by
    refine W.frame _ _ _ hS fun b hb o e => ?_
    rcases hfp b hb with rfl | h'
    · obtain ⟨oI, h1, fs, h2⟩ := hm k _ hS
      rw [h1] at e; cases e
      exact u.keep.at_ h1 fun es n q => by rw [h2] at q; cases q
    · obtain ⟨o', ho'⟩ := Option.isSome_iff_exists.mp h'
      have e3 := o3 _ _ (l3 _ _ ho')
      rw [e3] at e; cases e
      exact u.on _ _ (u.le _ _ (l3 _ _ ho'))
  let Inv : Nat → Shared → Prop := fun n s' => Pk7 fun k b0 Gk vs rk n' r' => C12 (n = xs.length - k) (k ≤ xs.length) (b0.isOwn = false) (Sat X' Gk (b0 :: bs) s') (St k s'.heap) (s'.heap.get? s2.heap.objs.size = some { cls := .type "list", data := .seq (List.toArray vs) n' })
    (Gk s2.heap.objs.size = none) (Gk I = none) (s2.heap.objs.size < s'.heap.objs.size) (VRels Gk vs rk) (rs = rk ++ r') (Cmpr X' bs elt ifs (xs.drop k) r')
  have loop : codeAny (model B.prog B.w) X.A (.compLoop (.ListComp elt [⟨.Name x px, iter, ifs, 0⟩] scope pos) 0 (.ref I) (.ref s2.heap.objs.size) cenv) (RR (.ref s2.heap.objs.size) cenv) { s2 with heap := h₁, toks := s2.toks + ([] : List (Str × Value)).length } := by
    refine codeAny_compLoop_tests (fun n s' => Inv n s') ?_ xs.length
      ⟨0, .no, G1, [], [], 0, rs, rfl, Nat.zero_le _, rfl, S0, hst₁, hDh, hlow _ u2.size, hlow _ hI, by show _ < h₁.objs.size; omega, .nil, rfl, hCm⟩
    rintro n s' ⟨k, b0, Gk, vs, rk, n', r', rfl, hk, hb0, Sk, hSk, hD, hGD, hGI, hDs, hvs, hrs, hCk⟩
    by_cases hlt : k < xs.length
    · obtain ⟨b, hb⟩ : ∃ b, xs[k]? = some b := ⟨xs[k], by simp [hlt]⟩
      have hdrop : xs.drop k = b :: xs.drop (k + 1) := by
        rw [List.drop_eq_getElem_cons hlt]
        congr 1
        simpa [hlt] using hb
      rw [hdrop] at hCk
      refine wp_tk (W.item k s' _ _ hlt hSk fun v hh1 tk1 hPv hS1 hk1 htk => ?_)
      have S1 := Sk.touchN (tk := tk1) hIL hIC (hnoOwn b0 hb0) hGI hI (fun b o hb e => hk1 b o (by simpa using hb) e) htk
      have hD1 : hh1.get? s2.heap.objs.size = some { cls := .type "list", data := .seq (List.toArray vs) n' } := hk1 _ _ (by simpa using hID.symm) hD
      have rv : VRel Gk v b := hP k v b Gk Sk.up.le hPv hb
      refine wpAny_assign_Name (store' S1 At.here (.inl hxl) rv fun s3 S3 hk3 => ?_)
      have S3' : Sat X' Gk (.val b :: bs) s3 := S3
      have hD3 : s3.heap.get? s2.heap.objs.size = some { cls := .type "list", data := .seq (List.toArray vs) n' } := hk3 _ _ hDL (fun y c hc => Ne.symm (hDC y c hc)) hD1
      have hS3 : St (k + 1) s3.heap := W.frame _ _ _ hS1 fun b hb o e => hk3 b o (hfL b hb).1 (hfL b hb).2.1 e
      have hlt3 := Heap.lt_size hD3
      have again : ∀ {rk' rr vs' G4 n'' s4}, Sat X' G4 (.val b :: bs) s4 → St (k + 1) s4.heap → s4.heap.get? s2.heap.objs.size = some { cls := .type "list", data := .seq (List.toArray vs') n'' } → G4 s2.heap.objs.size = none → G4 I = none →
          VRels G4 vs' rk' → rs = rk' ++ rr → Cmpr X' bs elt ifs (xs.drop (k + 1)) rr →
          ∃ m, m < xs.length - k ∧ Inv m s4 := fun {rk' rr vs' G4 n'' s4} h1 h2 h3 h4 h5 h6 h7 h8 =>
        ⟨xs.length - (k + 1), Nat.sub_lt_sub_left hlt (Nat.lt_succ_self k), k + 1, .val b, G4, vs', rk', n'', rr, rfl, hlt, rfl, h1, h2, h3, h4, h5, Heap.lt_size h3, h6, h7, h8⟩
      have hIs3 : I < s3.heap.objs.size := Nat.lt_trans hI2 hlt3
      cases hCk with
      | take hifs helt hrest =>
        rename_i r rr
        refine ifs_run hifs S3' fun s4 G4 u4 => ?_
        rw [if_pos rfl]
        refine helt.run G4 s4 _ _ (S3'.upd u4) fun v5 s5 G5 u5 r5 => ?_
        have u45 := u4.trans u5
        have hD5 := u45.keep.seq hD3
        have hG5D := u45.toUp0.still hGD hlt3
        have hG5I := u45.toUp0.still hGI hIs3
        have hS5 : St (k + 1) s5.heap := fpk Sk.up.le S3'.on u45 hS3
        refine wpAny_list_append_plain ⟨n', hD5⟩ (fun h6 hpl hsb => ?_) ?_
        · obtain ⟨n6, hD6⟩ := hpl
          have hD6' : h6.get? s2.heap.objs.size = some { cls := .type "list", data := .seq (List.toArray (vs ++ [v5])) n6 } := by rw [hD6]; simp
          refine again ((S3'.upd u45).touchN (tk := s5.toks) hDL hDC (hnoOwn _ rfl) hG5D u2.size (fun b o hb e => (hsb.2 b hb).trans e) (Nat.le_refl _)) ?_ hD6' hG5D hG5I (vrels_snoc (VRels.le u45.le hvs) r5) (by rw [hrs]; simp) hrest
          exact W.frame _ _ _ hS5 fun b hb o e => (hsb.2 b (hfL b hb).2.2).trans e
        · have h1 := VRels.length_eq hvs
          have h2 : rk.length ≤ rs.length := by rw [hrs]; simp
          simp only [List.size_toArray]
          omega
      | skip hifs hrest =>
        refine ifs_run hifs S3' fun s4 G4 u4 => ?_
        rw [if_neg (by decide)]
        refine again (S3'.upd u4) (fpk Sk.up.le S3'.on u4 hS3) (u4.keep.seq hD3) (u4.toUp0.still hGD hlt3) (u4.toUp0.still hGI hIs3) (VRels.le u4.le hvs) hrs hrest
    · have hke : k = xs.length := Nat.le_antisymm hk (Nat.le_of_not_lt hlt)
      subst hke
      rw [List.drop_length] at hCk
      cases hCk
      refine wp_tk (W.done s' _ _ hSk fun hh1 tk1 hk1 htk => ?_)
      have S1 := Sk.touchN (tk := tk1) hIL hIC (hnoOwn b0 hb0) hGI hI (fun b o hb e => hk1 b o (by simpa using hb) e) htk
      obtain ⟨m1, hm1, _⟩ := S1.ns
      exact hRR s2.heap.objs.size H2.objs.size (clOf X.env scope.names []) _ m1 vs n' Gk u2.size hLge hDL hm1 (hk1 _ _ (by simpa using hID.symm) hD) (by rw [hrs, List.append_nil]; exact hvs) S1.up S1.nL hGD
  exact codeAny_compStart_list loop (W.self 0 _ _ _ hst₁ loop)
end
end Mine
end
section
open PySem PySem.W PyProof.Rows PySem.Calls PySem.SeqAt
set_option Elab.async false
set_option linter.unusedVariables false
namespace Mine
section
variable {B : Base} {sc : Scope} {N : List Str} {X : FI B sc N} {σ : List Bnd} {A : Around}

theorem View.on_low {G : View} {h : Heap} (hG : G.on h) {a : Addr} (ha : h.objs.size ≤ a) : G a = none := by
  cases q : G a with
  | none => rfl
  | some o => exact absurd (Heap.lt_size (hG _ _ q)) (Nat.not_lt.mpr ha)

/-- what an expression's walk gives -/
structure Itr (X : FI B sc N) (σ : List Bnd) (iter : Expr) (xs : List AV) : Prop where
  run :
  ∀ (G : View) (s : Shared) (Q : Value → Shared → Prop) (E : Value → Shared → Prop), Sat X G σ s →
    (∀ I fp P St G1 s1 s2, Up s s1 G G1 → Up s1 s2 G1 G1 → Walks B.prog B.w X.A I fp [I] xs.length P St → (∀ k v b G', G1.le G' → P k v → xs[k]? = some b → VRel G' v b) → (∀ k h, St k h → ∃ oI, h.get? I = some oI ∧ Obj.mute oI) →
      St 0 s2.heap → s1.heap.objs.size ≤ I → I < s2.heap.objs.size → (∀ b ∈ fp, b = I ∨ (G1 b).isSome = true) → Q (.ref I) s2) →
    wpAny (model B.prog B.w) X.A (eval iter X.env) (fun x s₁ => wpAny (model B.prog B.w) X.A (pyIter x) Q E s₁) E s

theorem itr_list {iter : Expr} {xs : List AV} (hi : Ex X σ iter (.list xs)) : Itr X σ iter xs := .mk fun G s Q E Sa kk =>
  hi.run G s _ E Sa fun v s1 G1 u1 r1 => by
    cases r1 with
    | list g rs =>
      rename_i a n vs
      refine wpAny_pyIter_list (items := vs.toArray) ⟨_, u1.on _ _ g, rfl, n, rfl⟩ ?_
      have hlen := VRels.length_eq rs
      have hne : a ≠ s1.heap.objs.size := Nat.ne_of_lt (Heap.lt_size (u1.on _ _ g))
      have hsz : xs.length = vs.toArray.size := by simp [hlen]
      have hst : (s1.heap.push { cls := .type "list_iterator", data := .fields #[.ref a, .int 0 0] }).IsListIter s1.heap.objs.size a 0 ∧ (s1.heap.push { cls := .type "list_iterator", data := .fields #[.ref a, .int 0 0] }).IsList a vs.toArray :=
        ⟨⟨_, Heap.get?_push_size _ rfl, rfl, rfl⟩, ⟨_, Heap.get?_push_of_some _ (u1.on _ _ g), rfl, n, rfl⟩⟩
      refine kk _ _ (fun i v => vs.toArray[i]? = some v) _ G1 s1 { s1 with heap := s1.heap.push _ } u1 ⟨(Up0.refl u1.on).pushOut _, Nat.le_refl _⟩ (hsz ▸ Walks.list X.hh _ a hne vs.toArray) (fun k v b G' hl hv hb => ?_) (fun k h hk => ?_) hst (Nat.le_refl _) (by simp [Heap.size_push]) fun b hb => ?_
      · obtain ⟨v', hv', hr⟩ := VRels.get rs hb
        simp only [List.getElem?_toArray] at hv
        rw [hv] at hv'; cases hv'; exact VRel.le hl hr
      · obtain ⟨⟨oI, h1, _, h2⟩, _⟩ := hk
        exact ⟨oI, h1, _, h2⟩
      · simp only [List.mem_cons, List.not_mem_nil, or_false] at hb
        rcases hb with rfl | rfl
        · exact .inl rfl
        · exact .inr (by rw [g]; rfl)
theorem itr_tup {iter : Expr} {xs : List AV} (hi : Ex X σ iter (.tup xs)) : Itr X σ iter xs := .mk fun G s Q E Sa kk =>
  hi.run G s _ E Sa fun v s1 G1 u1 r1 => by
    cases r1 with
    | tup g rs =>
      rename_i a vs
      refine wpAny_pyIter_tuple (items := vs.toArray) ⟨_, u1.on _ _ g, rfl, 0, rfl⟩ ?_
      have hlen := VRels.length_eq rs
      have hne : a ≠ s1.heap.objs.size := Nat.ne_of_lt (Heap.lt_size (u1.on _ _ g))
      have hsz : xs.length = vs.toArray.size := by simp [hlen]
      have hst : (s1.heap.push { cls := .type "tuple_iterator", data := .fields #[.ref a, .int 0 0] }).IsTupleIter s1.heap.objs.size a 0 ∧ (s1.heap.push { cls := .type "tuple_iterator", data := .fields #[.ref a, .int 0 0] }).IsTuple a vs.toArray :=
        ⟨⟨_, Heap.get?_push_size _ rfl, rfl, rfl⟩, ⟨_, Heap.get?_push_of_some _ (u1.on _ _ g), rfl, 0, rfl⟩⟩
      refine kk _ _ (fun i v => vs.toArray[i]? = some v) _ G1 s1 { s1 with heap := s1.heap.push _ } u1 ⟨(Up0.refl u1.on).pushOut _, Nat.le_refl _⟩ (hsz ▸ Walks.tuple X.hh _ a hne vs.toArray) (fun k v b G' hl hv hb => ?_) (fun k h hk => ?_) hst (Nat.le_refl _) (by simp [Heap.size_push]) fun b hb => ?_
      · obtain ⟨v', hv', hr⟩ := VRels.get rs hb
        simp only [List.getElem?_toArray] at hv
        rw [hv] at hv'; cases hv'; exact VRel.le hl hr
      · obtain ⟨⟨oI, h1, _, h2⟩, _⟩ := hk
        exact ⟨oI, h1, _, h2⟩
      · simp only [List.mem_cons, List.not_mem_nil, or_false] at hb
        rcases hb with rfl | rfl
        · exact .inl rfl
        · exact .inr (by rw [g]; rfl)
theorem striter_mute {k : String} {h : Heap} {I : Addr} {x : Str} {t : Tok} {i : Nat} (hk : h.IsStrIter I k x t i) : ∃ oI, h.get? I = some oI ∧ Obj.mute oI := by
  obtain ⟨oI, h1, _, h2⟩ := hk
  exact ⟨oI, h1, _, h2⟩
theorem pyIter_str' {s : Shared} {x : Str} {t : Tok} {Q : Value → Shared → Prop} {E : Value → Shared → Prop}
    (hQ : ∀ (o : Obj) (St : Nat → Heap → Prop), (∀ A' : Around, A'.handled = none → Walks B.prog B.w A' s.heap.objs.size [s.heap.objs.size] [s.heap.objs.size] x.cps.size (SignAt x) St) → (∀ k h, St k h → ∃ oI, h.get? s.heap.objs.size = some oI ∧ Obj.mute oI) → St 0 (s.heap.push o) →
      Q (.ref s.heap.objs.size) { s with heap := s.heap.push o }) : wpAny (model B.prog B.w) A (pyIter (.str x t)) Q E s := by
  cases ha : x.cps.all (· < 128)
  · exact wpAny_pyIter_wide ha (hQ _ _ (fun A' hA => Walks.strWide hA _ x t) (fun k h hk => striter_mute hk) ⟨_, Heap.get?_push_size _ rfl, rfl, rfl⟩)
  · exact wpAny_pyIter_ascii ha (hQ _ _ (fun A' hA => Walks.strAscii hA _ x t) (fun k h hk => striter_mute hk) ⟨_, Heap.get?_push_size _ rfl, rfl, rfl⟩)
theorem itr_str {iter : Expr} {x : List Nat} (hi : Ex X σ iter (.str x)) : Itr X σ iter (x.map fun c => .str [c]) := .mk fun G s Q E Sa kk =>
  hi.run G s _ E Sa fun v s1 G1 u1 r1 => by
    cases r1 with
    | str y t =>
      refine pyIter_str' fun o St W hm h0 => ?_
      have hsz : (y.cps.toList.map fun c => AV.str [c]).length = y.cps.size := by simp
      refine kk _ _ _ _ G1 s1 { s1 with heap := s1.heap.push o } u1 ⟨(Up0.refl u1.on).pushOut _, Nat.le_refl _⟩ (hsz ▸ W _ X.hh) (fun k v b G' hl hv hb => ?_) hm h0 (Nat.le_refl _) (by simp [Heap.size_push]) fun b hb => ?_
      · obtain ⟨c, u, h1, rfl⟩ := hv
        have h1' : y.cps.toList[k]? = some c := by simpa using h1
        rw [List.getElem?_map, h1'] at hb
        simp at hb; subst hb
        exact VRel.str ⟨#[c]⟩ u
      · simp only [List.mem_cons, List.not_mem_nil, or_false] at hb
        exact .inl hb
theorem itr_range3 {px p pos : Pos} {k : Nat} (hx : sc.names.lookup ("range" : Str) = some NameKind.globalImplicit) (e : nsIn B.K mainGlobals ("range" : Str) = some none) (hb : bootBuiltins ("range" : Str) = some (.type "range")) :
    Itr X σ (.Call (.Name "range" px) [.Constant (.int 3) k p] [] pos) [.int 0, .int 1, .int 2] := .mk fun G s Q E Sa kk => by
  refine wpAny_Call_NameR ((ex_blt hx e hb (by decide) (by decide)).run G s _ E Sa fun f s0 G0 u0 r0 => ?_)
  cases r0
  have hse : backTo pos (starEach [.Constant (.int 3) k p] X.env) = [(false, eval (.Constant (.int 3) k p) X.env)] := rfl
  rw [hse]
  refine PySem.callWith_type rfl (Calls.evalArgs_plain (Calls.spliced_cons (ex_int.run G0 s0 _ E (Sa.upd u0) fun nv s1 G1 u1 r1 => Calls.spliced_nil ?_)))
  cases r1
  rename_i tN
  refine call_range_1 ?_
  refine wpAny_pyIter_range (IsRange.new ..) (small_one (by decide) (by decide) (by decide) (by decide)) ?_
  refine kk _ _ (fun i v => ∃ t, v = .int (0 + (i : Nat) * 1) t) _ G1 s1 _ (u0.trans u1) ?_ (Walks.range X.hh _ 0 1 3) (fun k v b G' hl hv hb => ?_) (fun k h hk => ⟨_, hk, _, rfl⟩) ?_ ?_ ?_ fun b hb => ?_
  · exact ⟨((Up0.refl u1.on).pushOut _ |>.pushOut _).tok _, by show s1.toks ≤ s1.toks + 1 + 1; omega⟩
  · obtain ⟨t, rfl⟩ := hv
    match k, hb with
    | 0, hb => simp at hb; subst hb; exact .int _ _
    | 1, hb => simp at hb; subst hb; exact .int _ _
    | 2, hb => simp at hb; subst hb; exact .int _ _
    | k + 3, hb => simp at hb
  · exact Heap.get?_push_size _ rfl
  · simp [Heap.size_push]
  · simp [Heap.size_push]
  · simp only [List.mem_cons, List.not_mem_nil, or_false] at hb
    exact .inl hb

theorem okComp_cl {scope : Scope} {x : Str} {ys : List Str} {bs : List Bnd} (hcap : Caps N σ ys bs) (hok : okComp scope sc x ys = true) :
    (∀ p ∈ scope.names, p.2 = .free → ∃ c, X.env.cells.lookup p.1 = some c) ∧ scope.kind = .function ∧ ∀ y ∈ scope.names, y.2 = .local → scope.names.lookup y.1 = some .local := by
  simp only [okComp, Bool.and_eq_true, List.all_eq_true, beq_iff_eq, bne_iff_ne, Bool.or_eq_true, ne_eq, Bool.not_eq_true'] at hok
  obtain ⟨⟨⟨⟨⟨⟨⟨⟨⟨hkind, hcell⟩, hnames⟩, hx⟩, hfree⟩, hys⟩, hdist⟩, hdbg⟩, hrx⟩, hrys⟩ := hok
  refine ⟨fun p hp hk => ?_, hkind, fun p hp hl => ?_⟩
  · rcases hfree p hp with h' | h'
    · exact absurd hk h'
    · have hy : p.1 ∈ ys := by simpa using h'
      obtain ⟨i, hi⟩ := List.getElem?_of_mem hy
      have hb : ∃ b, bs[i]? = some b := by
        have := caps_len hcap
        have h1 := (List.getElem?_eq_some_iff.mp hi).1
        exact ⟨bs[i]'(by omega), by simp⟩
      obtain ⟨b, hb⟩ := hb
      obtain ⟨a, rfl, hv⟩ := hcap.get hi hb
      obtain ⟨j, hj, _⟩ := hv.at_
      rcases X.hv _ hj.mem with h1 | ⟨_, h1⟩
      · rcases (hys _ hy).2 with h2 | h2 <;> rw [h1] at h2 <;> cases h2
      · exact h1
  · rcases hnames p hp with h' | h'
    · exact absurd hl h'
    · exact h'

/-- after the comprehension's names are let go -/
theorem Up.letGo {s s' : Shared} {G G' : View} {C D : Addr} {o : Obj} {h'' : Heap} (u : Up s s' G G') (hs : Heap.SameBut C s'.heap h'') (hC : s.heap.objs.size ≤ C) (hD : s.heap.objs.size ≤ D) (hDC : D ≠ C) (hGC : G' C = none) (hGD : G' D = none) (ho : s'.heap.get? D = some o) :
    Up s { s' with heap := h'' } G (G'.add D o) :=
  ⟨⟨near_but u.keep (fun b o hb e => (hs.2 b hb).trans e) hC, by show _ ≤ h''.objs.size; rw [hs.1]; exact u.size, u.gens, u.os, View.le_trans u.le (View.le_add o hGD), fun b o' e => by
      by_cases q : b = D
      · subst q; rw [View.add_self] at e; cases e; exact (hs.2 _ hDC).trans ho
      · rw [View.add_ne _ _ q] at e
        exact (hs.2 b (fun q' => by rw [q', hGC] at e; cases e)).trans (u.on _ _ e),
    fun b o' e => by
      by_cases q : b = D
      · subst q; exact .inr hD
      · rw [View.add_ne _ _ q] at e; exact u.new _ _ e⟩, u.tk⟩

theorem Up.addNew {s s' : Shared} {G G' : View} {D : Addr} {o : Obj} (u : Up s s' G G') (hD : s.heap.objs.size ≤ D) (hGD : G' D = none) (ho : s'.heap.get? D = some o) : Up s s' G (G'.add D o) :=
  ⟨⟨u.keep, u.size, u.gens, u.os, View.le_trans u.le (View.le_add o hGD), fun b o' e => by
      by_cases q : b = D
      · subst q; rw [View.add_self] at e; cases e; exact ho
      · rw [View.add_ne _ _ q] at e; exact u.on _ _ e,
    fun b o' e => by
      by_cases q : b = D
      · subst q; exact .inr hD
      · rw [View.add_ne _ _ q] at e; exact u.new _ _ e⟩, u.tk⟩

theorem ex_comp {x : Str} {px : Pos} {elt iter : Expr} {ifs : List Expr} {scope : Scope} {pos : Pos} {ys : List Str} {bs : List Bnd} {xs rs : List AV} (hi : Itr X σ iter xs) (hcap : Caps N σ ys bs) (hok : okComp scope sc x ys = true) (hn : xs.length ≤ sizeLine)
    (h : ∀ X' : FI B (relab scope sc) (x :: ys), X'.lvl = X.lvl → X'.A = X.A → Cmpr X' bs elt ifs xs rs) (hs : noSet iter = true := by rfl) :
    Ex X σ (.ListComp elt [⟨.Name x px, iter, ifs, 0⟩] scope pos) (.list rs) := .mk fun G s Q E Sa kk => by
  obtain ⟨hfree, hkind, hnames⟩ := okComp_cl (X := X) hcap hok
  rw [eval_ListComp]
  refine wpAny_comprehension_free (use := none) rfl (noSet_pure hs _) (closure_eq hfree) hkind hnames (hi.run G s _ E Sa fun I fp P St G1 s1 s2 u1 u2 W hP hm h0 hI hI2 hfp => ?_)
  have S1 := Sa.upd u1
  refine comp_core (RR := fun acc cenv => compPost _ _ E none Q acc cenv.locals) W hP hn hcap hok h S1 u2 h0 hI hI2 hfp hm fun D C cl s' m' vs n G' hD hC hDC hns ho hvs u hGC hGD => ?_
  · refine ⟨m', hns, fun h'' hs'' => ?_⟩
    exact kk _ _ _ (u1.trans (u.letGo hs'' hC hD hDC hGC hGD ho)) (.list (View.add_self _ _ _) (VRels.le (View.le_add _ hGD) hvs))

/-- a name that is let go of lies in no binding -/
theorem Sat.letGo {G : View} {s : Shared} {C : Addr} {m : Str → Option Value} {h'' : Heap} (Sa : Sat X G σ s) (hs : Heap.SameBut C s.heap h'') (hns : s.heap.Ns C m) (hL : C ≠ X.env.locals) (hC : ∀ x c, X.env.cells.lookup x = some c → c ≠ C) (hG : G C = none) (h0 : X.s₀.heap.objs.size ≤ C) :
    Sat X G σ { s with heap := h'' } := by
  obtain ⟨m₁, hm₁, hv⟩ := Sa.ns
  have hnsL : h''.Ns X.env.locals m₁ := hm₁.at' fun o e => (hs.2 _ (Ne.symm hL)).trans e
  have hk : ∀ b o, b ≠ C → s.heap.get? b = some o → h''.get? b = some o := fun b o hb e => (hs.2 b hb).trans e
  refine ⟨⟨⟨near_but Sa.up.keep hk h0, ?_, Sa.up.gens, Sa.up.os, Sa.up.le, fun b o e => hk b o (fun q => by rw [q, hG] at e; cases e) (Sa.up.on b o e), Sa.up.new⟩, Sa.up.tk⟩, Sa.nL, Sa.nC, fun x c hc => ?_, m₁, hnsL, fun i x b ha hb => ?_⟩
  · show _ ≤ h''.objs.size; rw [hs.1]; exact Sa.up.size
  · obtain ⟨v, o, h1, h2⟩ := Sa.cells x c hc
    exact ⟨v, o, hk c o (hC x c hc) h1, h2⟩
  · rcases hv i x b ha hb with h | ⟨v, hl, hb'⟩
    · exact .inl h
    · refine .inr ⟨v, ?_, ?_⟩
      · rcases hl with h | ⟨h1, c, h2, o, h3, h4⟩
        · exact .inl h
        · exact .inr ⟨h1, c, h2, o, hk c o (hC x c h2) h3, h4⟩
      · cases b with
        | no => trivial
        | val a => exact hb'
        | own xs =>
          obtain ⟨a, vs, e, hl, r⟩ := OwnIs.ex hb'
          refine ⟨a, vs, e, hl.at fun o q => hk a o (fun q' => ?_) q, r⟩
          subst q'
          obtain ⟨n, hl⟩ := hl
          obtain ⟨o, es, ep, h1, h2, _⟩ := hns
          rw [hl] at h1; cases h1; cases h2

noncomputable def plainLoc (x y : Str) (scope sc : Scope) (p1 p2 : Pos) : Bool := sc.names.lookup y == some .local && p1.line == p2.line && !(scope.names.any fun (n, k) => n == y && (k == .local || k == .cell))
theorem s1_comp {x y : Str} {px py spos : Pos} {elt iter : Expr} {ifs : List Expr} {scope : Scope} {pos : Pos} {ys : List Str} {bs : List Bnd} {xs rs : List AV} {τ : List Bnd} (hi : Itr X σ iter xs) (hcap : Caps N σ ys bs) (hok : okComp scope sc x ys = true) (hn : xs.length ≤ sizeLine)
    (h : ∀ X' : FI B (relab scope sc) (x :: ys), X'.lvl = X.lvl → X'.A = X.A → Cmpr X' bs elt ifs xs rs) (hset : Set1 N σ y (.val (.list rs)) τ) (hl : plainLoc x y scope sc py pos = true) (hs : noSet iter = true := by rfl) :
    S1 X σ (.Assign [.Name y py] (.ListComp elt [⟨.Name x px, iter, ifs, 0⟩] scope pos) spos) (.next τ) := .mk fun G s Q E Sa kk => by
  obtain ⟨hfree, hkind, hnames⟩ := okComp_cl (X := X) hcap hok
  simp only [plainLoc, Bool.and_eq_true, beq_iff_eq] at hl
  obtain ⟨⟨hly, hline⟩, hany⟩ := hl
  have hbk : X.env.blockKind = .function := by
    have := X_kind X
    unfold Env.blockKind; rw [this]; rfl
  have hsw : swapsWith (.ListComp elt [⟨.Name x px, iter, ifs, 0⟩] scope pos) (some (.Name y py)) spos.line X.env = pure true := by
    show (pure (X.env.blockKind == .function && X.env.kindOf y == some .local && py.line == pos.line && !(scope.names.any fun (n, k) => n == y && (k == .local || k == .cell))) : Sem Bool) = pure true
    rw [hbk, X_kindOf, hly, hline, hany]
    simp
  rw [exec_Assign_Name_used _ _ _ _ hsw]
  refine wpAny_bind (wpAny_standAt (wpAny_bind ?_))
  show wpAny _ X.A (do let _ ← comprehension (.ListComp elt [⟨.Name x px, iter, ifs, 0⟩] scope pos) scope X.env _ (newList []) false (eval iter X.env) (some (assign (.Name y py) X.env))) _ _ s
  refine wpAny_bind (wpAny_mono (wpAny_comprehension_free (use := some (assign (.Name y py) X.env)) (Q := fun _ s' => Q .next s') rfl (noSet_pure hs _) (closure_eq hfree) hkind hnames
    (hi.run G s _ E Sa fun I fp P St G1 s1 s2 u1 u2 W hP hm h0 hI hI2 hfp => ?_)) (fun _ s' hq => wpAny_pure (wpAny_pure hq)) fun _ _ e => e)
  have S1 := Sa.upd u1
  refine comp_core (RR := fun acc cenv => compPost _ _ E (some (assign (.Name y py) X.env)) (fun _ s' => Q .next s') acc cenv.locals) W hP hn hcap hok h S1 u2 h0 hI hI2 hfp hm fun D C cl s' m' vs n G' hD hC hDC hns ho hvs u hGC hGD => ?_
  · show wpAny _ X.A (assign (.Name y py) X.env (.ref D)) _ _ _
    obtain ⟨i, hi', rfl⟩ := hset.at_
    have S2 : Sat X (G'.add D { cls := .type "list", data := .seq (List.toArray vs) n }) σ s' := S1.upd (u.addNew hD hGD ho)
    have hCL : C ≠ X.env.locals := by
      obtain ⟨m1, ⟨o1, _, _, h1, _⟩, _⟩ := S1.ns
      exact Ne.symm (Nat.ne_of_lt (Nat.lt_of_lt_of_le (Heap.lt_size h1) hC))
    have hCC : ∀ z c, X.env.cells.lookup z = some c → c ≠ C := fun z c hc => by
      obtain ⟨v, hv⟩ := S1.cells z c hc
      exact Nat.ne_of_lt (Nat.lt_of_lt_of_le hv.lt hC)
    refine wpAny_assign_Name (store' S2 hi' (.inl hly) (.list (View.add_self _ _ _) (VRels.le (View.le_add _ hGD) hvs)) fun s3 S3 hk3 => ?_)
    have hns3 : s3.heap.Ns C m' := hns.at' fun o e => hk3 _ o hCL (fun y c hc => Ne.symm (hCC y c hc)) e
    refine ⟨m', hns3, fun h'' hs'' => ?_⟩
    refine kk .next _ _ ?_ (S3.letGo hs'' hns3 hCL hCC ?_ (Nat.le_trans S1.up.size hC))
    · exact View.le_trans u1.le (View.le_trans u.le (View.le_add _ hGD))
    · rw [View.add_ne _ _ (Ne.symm hDC)]; exact hGC
end
end Mine
end
section
open PySem PySem.W PyProof.Rows PySem.Calls PySem.SeqAt
set_option Elab.async false
set_option linter.unusedVariables false
namespace Mine
section
variable {B : Base} {sc : Scope} {N : List Str} {X : FI B sc N} {σ : List Bnd} {A : Around}

/-! names of a tuple -/
inductive Sets (N : List Str) : List Bnd → List Str → List AV → List Bnd → Prop
  | nil {σ : List Bnd} : Sets N σ [] [] σ
  | cons {σ σ' τ : List Bnd} {x : Str} {a : AV} {xs : List Str} {as : List AV} : Set1 N σ x (.val a) σ' → Sets N σ' xs as τ → Sets N σ (x :: xs) (a :: as) τ
inductive Stores (M : Model) (A : Around) (env : Env) : List (Value → Sem Unit) → List Str → Prop
  | nil : Stores M A env [] []
  | cons {t : Value → Sem Unit} {ts : List (Value → Sem Unit)} {x : Str} {xs : List Str} : (∀ v s (Q : Unit → Shared → Prop) (E : Value → Shared → Prop), wpAny M A (storeName env x v) Q E s → wpAny M A (t v) Q E s) → Stores M A env ts xs → Stores M A env (t :: ts) (x :: xs)
theorem wp_inOrder {ts : List (Value → Sem Unit)} {xs : List Str} {as : List AV} (hT : Stores (model B.prog B.w) X.A X.env ts xs) (ho : X.own = true) : ∀ {σ τ : List Bnd} {vs : List Value} {G : View} {s : Shared} {Q : Unit → Shared → Prop} {E : Value → Shared → Prop}, Sets N σ xs as τ → Sat X G σ s → VRels G vs as →
    (∀ s', Sat X G τ s' → Q () s') → wpAny (model B.prog B.w) X.A (assignInOrder ts vs) Q E s := by
  induction hT generalizing as with
  | nil =>
    intro σ τ vs.run G s Q E hS Sa hv kk
    cases hS; cases hv
    exact wpAny_pure (kk s Sa)
  | cons ht _ ih =>
    intro σ τ vs.run G s Q E hS Sa hv kk
    cases hS with
    | cons h1 h2 =>
      cases hv with
      | cons r1 r2 =>
        obtain ⟨i, hi, rfl⟩ := h1.at_
        show wpAny _ X.A (holding _ (_) >>= _) Q E s
        exact wpAny_bind (wpAny_holding (ht _ _ _ _ (store Sa hi (.inr ho) r1 fun s1 S1 => ih h2 S1 r2 kk)))
noncomputable def namesOf : List Expr → Option (List Str)
  | [] => some []
  | .Name x _ :: r => (namesOf r).map (x :: ·)
  | _ => none
theorem namesOf_cons {e : Expr} {r : List Expr} {xs : List Str} (h : namesOf (e :: r) = some xs) : ∃ x p ys, e = .Name x p ∧ xs = x :: ys ∧ namesOf r = some ys := by
  cases e with
  | Name x p =>
    change (namesOf r).map (x :: ·) = some xs at h
    cases q : namesOf r with
    | none => rw [q] at h; cases h
    | some ys => rw [q] at h; cases h; exact ⟨x, p, ys, rfl, rfl, rfl⟩
  | _ => cases h
theorem stores_names {M : Model} {env : Env} : ∀ {elts : List Expr} {xs : List Str}, namesOf elts = some xs → Stores M A env ((assignEach elts env).map (·.2)) xs
  | [], xs, h => by cases h; exact .nil
  | e :: r, xs, h => by
    obtain ⟨x, p, ys, rfl, rfl, q⟩ := namesOf_cons h
    exact .cons (fun v s Q E h' => wpAny_assign_Name h') (stores_names q)
theorem stores_bind {M : Model} {env : Env} : ∀ {xs : List Str}, Stores M A env (xs.map fun n => bindName env n) xs
  | [] => .nil
  | x :: r => .cons (fun v s Q E h' => wpAny_bindName h') stores_bind
theorem assignEach_len {env : Env} : ∀ {elts : List Expr} {xs : List Str}, namesOf elts = some xs → (assignEach elts env).length = xs.length ∧ (assignEach elts env).findIdx? (·.1) = none
  | [], xs, h => by cases h; exact ⟨rfl, rfl⟩
  | e :: r, xs, h => by
    obtain ⟨x, p, ys, rfl, rfl, q⟩ := namesOf_cons h
    obtain ⟨h1, h2⟩ := assignEach_len (env := env) q
    refine ⟨by show (assignEach r env).length + 1 = ys.length + 1; rw [h1], ?_⟩
    show List.findIdx? _ ((false, _) :: assignEach r env) = none
    rw [List.findIdx?_cons]
    simp [h2]
theorem Sets.len {σ τ : List Bnd} {xs : List Str} {as : List AV} (h : Sets N σ xs as τ) : xs.length = as.length := by
  induction h with
  | nil => rfl
  | cons _ _ ih => simpa using ih

theorem vrels_rev {G : View} : ∀ {vs : List Value} {xs : List AV}, VRels G vs xs → VRels G vs.reverse xs.reverse
  | _, _, .nil => .nil
  | _, _, .cons a r => by rw [List.reverse_cons, List.reverse_cons]; exact VRels.app (vrels_rev r) (.cons a .nil)
noncomputable def envS (sc : Scope) : Env := { scope := sc, locals := 0, globals := 0, cells := [] }
theorem swapped_scope {ts : List Expr} {v : Expr} : ∀ {e1 e2 : Env}, e1.scope = e2.scope → swappedStores ts v e1 = swappedStores ts v e2 := fun {e1 e2} h => by cases e1; cases e2; cases h; rfl
theorem swapped_envS {ts : List Expr} {v : Expr} (X : FI B sc N) : swappedStores ts v X.env = swappedStores ts v (envS sc) := swapped_scope X.hsc

/-- a heap that differs at one place that no binding speaks of -/
theorem Sat.touchG {G : View} {s : Shared} {h' : Heap} {tk : Nat} {D : Addr} (Sa : Sat X G σ s) (hL : D ≠ X.env.locals) (hC : ∀ x c, X.env.cells.lookup x = some c → c ≠ D) (hO : ∀ v xs a, OwnIs X G s.heap v xs → v = .ref a → a ≠ D) (hG : G D = none) (h0 : X.s₀.heap.objs.size ≤ D)
    (hk : ∀ b o, b ≠ D → s.heap.get? b = some o → h'.get? b = some o) (htk : s.toks ≤ tk) : Sat X G σ { s with heap := h', toks := tk } := by
  obtain ⟨m, hm', hv⟩ := Sa.ns
  have hnew : ∀ b o, G b = some o → b ≠ D := fun b o e q => by rw [q, hG] at e; cases e
  have hns : h'.Ns X.env.locals m := hm'.at' fun o e => hk _ o (Ne.symm hL) e
  refine ⟨⟨⟨near_but Sa.up.keep hk h0, ?_, Sa.up.gens, Sa.up.os, Sa.up.le, fun b o e => hk b o (hnew b o e) (Sa.up.on b o e), Sa.up.new⟩, Nat.le_trans Sa.up.tk htk⟩, Sa.nL, Sa.nC, fun x c hc => ?_, m, hns, fun i x b ha hb => ?_⟩
  · obtain ⟨oL, _, _, hL', _⟩ := hns
    exact Nat.le_trans X.hL (Nat.le_of_lt (Heap.lt_size hL'))
  · obtain ⟨v, o, h1, h2⟩ := Sa.cells x c hc
    exact ⟨v, o, hk c o (hC x c hc) h1, h2⟩
  · rcases hv i x b ha hb with h | ⟨v, hl, hb'⟩
    · exact .inl h
    · refine .inr ⟨v, ?_, ?_⟩
      · rcases hl with h | ⟨h1, c, h2, o, h3, h4⟩
        · exact .inl h
        · exact .inr ⟨h1, c, h2, o, hk c o (hC x c h2) h3, h4⟩
      · cases b with
        | no => trivial
        | val a => exact hb'
        | own xs =>
          obtain ⟨a, vs, e, hl, r⟩ := OwnIs.ex hb'
          exact ⟨a, vs, e, hl.at fun o q => hk a o (hO v xs a hb' e) q, r⟩
theorem Sat.fresh {G : View} {s : Shared} {h' : Heap} (Sa : Sat X G σ s) (he : Heap.ExtBut s.heap.objs.size s.heap h') : Sat X G σ { s with heap := h' } := by
  obtain ⟨m, hm, _⟩ := Sa.ns
  refine Sa.touchG (tk := s.toks) (D := s.heap.objs.size) ?_ (fun x c hc => ?_) (fun v xs a O e => ?_) (View.on_low Sa.on (Nat.le_refl _)) Sa.up.size (fun b o hb e => he b o hb e) (Nat.le_refl _)
  · obtain ⟨o, _, _, h1, _⟩ := hm
    exact Ne.symm (Nat.ne_of_lt (Heap.lt_size h1))
  · obtain ⟨v, hv⟩ := Sa.cells x c hc
    exact Nat.ne_of_lt hv.lt
  · obtain ⟨a', vs, e', ⟨n, hl⟩, _⟩ := O.ex
    rw [e] at e'; cases e'
    exact Nat.ne_of_lt (Heap.lt_size hl)

/-- an unpacking assignment, stores in order -/
theorem s1_tup {elts : List Expr} {k : Nat} {tpos pos : Pos} {value : Expr} {xs : List Str} {as : List AV} {τ : List Bnd} (hv : Ex X σ value (.tup as)) (hel : namesOf elts = some xs) (hS : Sets N σ xs as τ) (ho : X.own = true)
    (hw : swappedStores [.Tuple elts k tpos] value (envS sc) = pure none) (hs : swapsWithSole [.Tuple elts k tpos] value pos.line X.env = pure false) : S1 X σ (.Assign [.Tuple elts k tpos] value pos) (.next τ) := .mk fun G s Q E Sa kk => by
  refine Assign_Tuple (hv.run G s _ E Sa fun v s1 G1 u1 r1 => ?_) hs ((swapped_envS X).trans hw)
  cases r1 with
  | tup g rs =>
    rename_i a vs
    have hlen := VRels.length_eq rs
    obtain ⟨h1, h2⟩ := assignEach_len (env := X.env) hel
    have h3 := hS.len
    refine wpAny_assign_Tuple X.hh ⟨_, u1.on _ _ g, rfl, 0, rfl⟩ (by rw [h1]; simp only [List.size_toArray]; omega) h2 fun h' he => ?_
    have S1 := (Sa.upd u1).fresh he
    exact wp_inOrder (stores_names hel) ho hS S1 rs fun s2 S2 => kk .next s2 G1 u1.le S2
/-- stores from the last to the first -/
theorem s1_tupS {elts : List Expr} {k : Nat} {tpos pos : Pos} {value : Expr} {xs : List Str} {as : List AV} {τ : List Bnd} (hv : Ex X σ value (.tup as))
    (hw : swappedStores [.Tuple elts k tpos] value (envS sc) = pure (some xs)) (hS : Sets N σ xs.reverse as.reverse τ) (ho : X.own = true) (hs : swapsWithSole [.Tuple elts k tpos] value pos.line X.env = pure false) : S1 X σ (.Assign [.Tuple elts k tpos] value pos) (.next τ) := .mk fun G s Q E Sa kk => by
  refine Assign_Tuple_swapped (hv.run G s _ E Sa fun v s1 G1 u1 r1 => ?_) hs ((swapped_envS X).trans hw)
  cases r1 with
  | tup g rs =>
    rename_i a vs
    have hlen := VRels.length_eq rs
    have h3 := hS.len
    have hl : xs.length = vs.toArray.size := by simp at h3; simp only [List.size_toArray]; omega
    rw [hl]
    refine wpAny_unpackItems_tuple X.hh ⟨_, u1.on _ _ g, rfl, 0, rfl⟩ fun h' he => ?_
    have S1 := (Sa.upd u1).fresh he
    exact wp_inOrder stores_bind ho hS S1 (vrels_rev rs) fun s2 S2 => kk .next s2 G1 u1.le S2

/-! while -/
inductive Whl (X : FI B sc N) (test : Expr) (body : List Stmt) : Nat → List Bnd → Out → Prop
  | stop {n : Nat} {σ : List Bnd} : Tst X σ test false → Whl X test body n σ (.next σ)
  | next {n : Nat} {σ τ : List Bnd} {o o' : Out} : Tst X σ test true → Sx X σ body o' → (o' = .next τ ∨ o' = .cont τ) → Whl X test body n τ o → Whl X test body (n + 1) σ o
  | ret {n : Nat} {σ : List Bnd} {r : AV} : Tst X σ test true → Sx X σ body (.ret r) → Whl X test body n σ (.ret r)
  | brk {n : Nat} {σ τ : List Bnd} : Tst X σ test true → Sx X σ body (.brk τ) → Whl X test body n σ (.next τ)
theorem s1_while {test : Expr} {body : List Stmt} {pos : Pos} {n : Nat} {o : Out} (h : Whl X test body n σ o) : S1 X σ (.While test body [] pos) o := .mk fun G s Q E Sa kk => by
  refine wpAny_While (codeAny_whileLoop (fun n s' => ∃ σk Gk, Whl X test body n σk o ∧ Sat X Gk σk s' ∧ G.le Gk) (fun n s' ⟨σk, Gk, hW, Sk, lk⟩ => ?_) n ⟨σ, G, h, Sa, G.le_refl⟩)
  cases hW with
  | stop ht =>
    refine ht.run Gk s' _ _ Sk fun s2 G2 u2 => ?_
    rw [if_neg (by decide)]
    exact wpAny_execs_nil (kk .next s2 G2 (View.le_trans lk u2.le) (Sk.upd u2))
  | next ht hb hor hr =>
    refine ht.run Gk s' _ _ Sk fun s2 G2 u2 => ?_
    rw [if_pos rfl]
    refine hb.run G2 s2 _ _ (Sk.upd u2) fun fl s3 G3 l3 f3 => ?_

    have l := View.le_trans lk (View.le_trans u2.le l3)
    rcases hor with rfl | rfl
    · cases fl <;> first | exact f3.elim | exact ⟨_, Nat.lt_succ_self _, _, G3, hr, f3, l⟩
    · cases fl <;> first | exact f3.elim | exact ⟨_, Nat.lt_succ_self _, _, G3, hr, f3, l⟩
  | ret ht hb =>
    refine ht.run Gk s' _ _ Sk fun s2 G2 u2 => ?_
    rw [if_pos rfl]
    refine hb.run G2 s2 _ _ (Sk.upd u2) fun fl s3 G3 l3 f3 => ?_
    have l := View.le_trans lk (View.le_trans u2.le l3)
    cases fl <;> first | exact f3.elim | exact kk _ s3 G3 l f3
  | brk ht hb =>
    refine ht.run Gk s' _ _ Sk fun s2 G2 u2 => ?_
    rw [if_pos rfl]
    refine hb.run G2 s2 _ _ (Sk.upd u2) fun fl s3 G3 l3 f3 => ?_
    have l := View.le_trans lk (View.le_trans u2.le l3)
    cases fl <;> first | exact f3.elim | exact kk .next s3 G3 l f3

/-! try, when nothing is raised -/
theorem s1_try {body : List Stmt} {h₀ : ExceptHandler} {hs : List ExceptHandler} {pos : Pos} {o : Out} (h : Sx X σ body o) : S1 X σ (.Try body (h₀ :: hs) [] [] pos) o := .mk fun G s Q E Sa kk =>
  wpAny_Try_except (h.run G s _ _ Sa fun fl s1 G1 l1 f1 => by
    cases fl with
    | next => exact wpAny_execs_nil (kk .next s1 G1 l1 f1)
    | _ => exact kk _ s1 G1 l1 f1)
end
end Mine
end
section
open PySem PySem.W PyProof.Rows PySem.Calls PySem.SeqAt
set_option Elab.async false
set_option linter.unusedVariables false
namespace Mine
section
variable {B : Base} {sc : Scope} {N : List Str} {X : FI B sc N} {σ : List Bnd} {A : Around}

theorem near_butL {h₀ h h' : Heap} {wr : List Addr} (x : Near h₀ h) (hk : ∀ b o, b ∉ wr → h.get? b = some o → h'.get? b = some o) (h0 : ∀ D ∈ wr, h₀.objs.size ≤ D) : Near h₀ h' := fun b o e => by
  obtain ⟨sl, e1, k1⟩ := x b o e
  exact ⟨sl, hk b _ (fun q => absurd (Heap.lt_size e) (Nat.not_lt.mpr (h0 b q))) e1, k1⟩
/-- mute objects, out of the view, are turned -/
theorem Sat.touchL {G : View} {s : Shared} {h' : Heap} {tk : Nat} {wr : List Addr} (Sa : Sat X G σ s) (hI : ∀ D ∈ wr, ∃ oI, s.heap.get? D = some oI ∧ Obj.mute oI) (hG : ∀ D ∈ wr, G D = none) (h0 : ∀ D ∈ wr, X.s₀.heap.objs.size ≤ D)
    (hk : ∀ b o, b ∉ wr → s.heap.get? b = some o → h'.get? b = some o) (htk : s.toks ≤ tk) : Sat X G σ { s with heap := h', toks := tk } := by
  have hL : X.env.locals ∉ wr := fun q => by
    obtain ⟨oI, h1, h2⟩ := hI _ q
    exact (Sa.apart h1 h2).1 rfl
  have hC : ∀ x c, X.env.cells.lookup x = some c → c ∉ wr := fun x c hc q => by
    obtain ⟨oI, h1, h2⟩ := hI _ q
    exact (Sa.apart h1 h2).2.1 x c hc rfl
  have hO : ∀ v xs a, OwnIs X G s.heap v xs → v = .ref a → a ∉ wr := fun v xs a O e q => by
    obtain ⟨oI, h1, h2⟩ := hI _ q
    exact (Sa.apart h1 h2).2.2 v xs a O e rfl
  obtain ⟨m, hm', hv⟩ := Sa.ns
  have hnew : ∀ b o, G b = some o → b ∉ wr := fun b o e q => by rw [hG b q] at e; cases e
  have hns : h'.Ns X.env.locals m := hm'.at' fun o e => hk _ o hL e
  refine ⟨⟨⟨near_butL Sa.up.keep hk h0, ?_, Sa.up.gens, Sa.up.os, Sa.up.le, fun b o e => hk b o (hnew b o e) (Sa.up.on b o e), Sa.up.new⟩, Nat.le_trans Sa.up.tk htk⟩, Sa.nL, Sa.nC, fun x c hc => ?_, m, hns, fun i x b ha hb => ?_⟩
  · obtain ⟨oL, _, _, hL', _⟩ := hns
    exact Nat.le_trans X.hL (Nat.le_of_lt (Heap.lt_size hL'))
  · obtain ⟨v, o, h1, h2⟩ := Sa.cells x c hc
    exact ⟨v, o, hk c o (hC x c hc) h1, h2⟩
  · rcases hv i x b ha hb with h | ⟨v, hl, hb'⟩
    · exact .inl h
    · refine .inr ⟨v, ?_, ?_⟩
      · rcases hl with h | ⟨h1, c, h2, o, h3, h4⟩
        · exact .inl h
        · exact .inr ⟨h1, c, h2, o, hk c o (hC x c h2) h3, h4⟩
      · cases b with
        | no => trivial
        | val a => exact hb'
        | own xs =>
          obtain ⟨a, vs, e, hl, r⟩ := OwnIs.ex hb'
          exact ⟨a, vs, e, hl.at fun o q => hk a o (hO v xs a hb' e) q, r⟩

inductive LoopE (X : FI B sc N) (x y : Str) (body : List Stmt) : Nat → List AV → List Bnd → Out → Prop
  | nil {i : Nat} {σ : List Bnd} : LoopE X x y body i [] σ (.next σ)
  | next {i : Nat} {a : AV} {as : List AV} {σ σ' τ : List Bnd} {o o' : Out} : Sets N σ [x, y] [.int i, a] σ' → Sx X σ' body o' → (o' = .next τ ∨ o' = .cont τ) → LoopE X x y body (i + 1) as τ o → LoopE X x y body i (a :: as) σ o
  | ret {i : Nat} {a r : AV} {as : List AV} {σ σ' : List Bnd} : Sets N σ [x, y] [.int i, a] σ' → Sx X σ' body (.ret r) → LoopE X x y body i (a :: as) σ (.ret r)
  | brk {i : Nat} {a : AV} {as : List AV} {σ σ' τ : List Bnd} : Sets N σ [x, y] [.int i, a] σ' → Sx X σ' body (.brk τ) → LoopE X x y body i (a :: as) σ (.next τ)

theorem forE_core {x y : Str} {px py p : Pos} {k0 : Nat} {body : List Stmt} {xs : List AV} {o : Out} {e it : Addr} {fp : List Addr} {P : Nat → Value → Prop} {St : Nat → Heap → Prop} {Mid : Nat → Addr → Heap → Prop} {G1 : View} {s : Shared} {R : Result → Shared → Prop}
    (W : WalksT B.prog B.w X.A e fp [e, it] xs.length (fun i vals => ∃ t v, P i v ∧ vals = #[.int i t, v]) St Mid) (hSt : ∀ k h, St k h → ∀ D ∈ [e, it], ∃ oI, h.get? D = some oI ∧ Obj.mute oI) (hP : ∀ k v b, P k v → xs[k]? = some b → VRel G1 v b)
    (hMid : ∀ k T h, Mid k T h → ∀ D ∈ [e, it], ∃ oI, h.get? D = some oI ∧ Obj.mute oI)
    (hei : e ≠ it) (hL : LoopE X x y body 0 xs σ o) (ho : X.own = true) (Sa : Sat X G1 σ s) (h0 : St 0 s.heap) (hI0 : ∀ D ∈ [e, it], X.s₀.heap.objs.size ≤ D) (hG0 : ∀ D ∈ [e, it], X.G₀ D = none) (hG1 : ∀ D ∈ [e, it], G1 D = none) (hfp : ∀ b ∈ fp, b = e ∨ b = it ∨ (G1 b).isSome = true)
    (kk : ∀ fl s' G', G1.le G' → Flowed X G' s' o fl → R (.ok fl) s') : codeAny (model B.prog B.w) X.A (.forLoop (.Tuple [.Name x px, .Name y py] k0 p) (.ref e) body [] X.env) R s := by
  have me : e ∈ [e, it] := .head _
  have mi : it ∈ [e, it] := .tail _ (.head _)
  refine codeAny_forLoop_any (fun n s' => Pk3 fun k σk Gk => C7 (n = xs.length - k) (k ≤ xs.length) (LoopE X x y body k (xs.drop k) σk o) (Sat X Gk σk s') (G1.le Gk) (∀ D ∈ [e, it], Gk D = none) (St k s'.heap)) ?_ xs.length ⟨0, σ, G1, rfl, Nat.zero_le _, hL, Sa, G1.le_refl, hG1, h0⟩
  rintro n s' ⟨k, σk, Gk, rfl, hk, hLk, Sk, hle, hGk, hSk⟩
  by_cases hlt : k < xs.length
  · obtain ⟨b, hb⟩ : ∃ b, xs[k]? = some b := ⟨xs[k], by simp [hlt]⟩
    have hdrop : xs.drop k = b :: xs.drop (k + 1) := by
      rw [List.drop_eq_getElem_cons hlt]
      congr 1
      simpa [hlt] using hb
    rw [hdrop] at hLk
    refine wp_tk (W.item k s' _ _ hlt hSk fun T vals h1 tk1 hPv hT hIsT hMi hk1 htk => ?_)
    obtain ⟨t, v, hPv, rfl⟩ := hPv
    have S1 := Sk.touchL (tk := tk1) (hSt k _ hSk) hGk hI0 hk1 htk
    refine W.go _ _ _ k T { s' with heap := h1, toks := tk1 } _ _ hMi fun h2 hS2 hk2 => ?_
    have S2 := S1.touchL (tk := tk1) (hMid k T _ hMi) hGk hI0 hk2 (Nat.le_refl _)
    have hIsT2 : h2.IsTuple T #[.int k t, v] := hIsT.at fun o e => hk2 _ o (W.apart k T _ hMi) e
    refine wpAny_assign_Tuple X.hh hIsT2 rfl rfl fun h3 he3 => ?_
    have S3 : Sat X Gk σk { s' with heap := h3, toks := tk1 } := S2.fresh he3
    have low3 : ∀ b o, h2.get? b = some o → h3.get? b = some o := fun b o q => he3 b o (Nat.ne_of_lt (Heap.lt_size q)) q
    have hS3 : St (k + 1) h3 := W.frame _ _ _ hS2 fun b _ o q => low3 b o q
    obtain ⟨oe, hoe, hme⟩ := hSt _ _ hS3 e me
    obtain ⟨oi, hoi, hmi⟩ := hSt _ _ hS3 it mi
    have rv : VRel Gk v b := VRel.le hle (hP k v b hPv hb)
    have S4 := (S3.addView hoe hme (hGk e me) (hI0 e me))
    have g4i : (Gk.add e oe) it = none := by rw [View.add_ne _ _ (Ne.symm hei)]; exact hGk it mi
    have S5 := S4.addView hoi hmi g4i (hI0 it mi)
    have l45 : Gk.le ((Gk.add e oe).add it oi) := View.le_trans (View.le_add _ (hGk e me)) (View.le_add _ g4i)
    have g5e : ((Gk.add e oe).add it oi) e = some oe := by rw [View.add_ne _ _ hei]; exact View.add_self _ _ _
    have g5i : ((Gk.add e oe).add it oi) it = some oi := View.add_self _ _ _
    have main : ∀ {σ' : List Bnd} {o' : Out} {Q : Flow → Shared → Prop} {E : Value → Shared → Prop}, Sets N σk [x, y] [.int k, b] σ' → Sx X σ' body o' →
        (∀ fl s3 G3, Gk.le G3 → Flowed X G3 s3 o' fl → G3 e = some oe → G3 it = some oi → St (k + 1) s3.heap → Q fl s3) →
        wpAny (model B.prog B.w) X.A (assignInOrder ((assignEach [.Name x px, .Name y py] X.env).map (·.2)) (#[Value.int k t, v] : Array Value).toList) (fun _ s₂ => wpAny (model B.prog B.w) X.A (execs body X.env) Q E s₂) E { s' with heap := h3, toks := tk1 } := fun {σ' o' Q E} hset hbody hq => by
      refine wp_inOrder (stores_names rfl) ho hset S5 (.cons (.int _ _) (.cons (VRel.le l45 rv) .nil)) fun s6 S6 => ?_
      refine hbody.run _ s6 Q E S6 fun fl s7 G7 l7 f7 => ?_
      have on7 : G7.on s7.heap := by
        cases o' <;> cases fl <;> first | exact f7.elim | exact f7.on | exact f7.1.on
      refine hq fl s7 G7 (View.le_trans l45 l7) f7 (l7 _ _ g5e) (l7 _ _ g5i) (W.frame _ _ _ hS3 fun b hb o q => ?_)
      rcases hfp b hb with h0 | h0 | h'
      · rw [h0, hoe] at q; cases q; rw [h0]; exact on7 _ _ (l7 _ _ g5e)
      · rw [h0, hoi] at q; cases q; rw [h0]; exact on7 _ _ (l7 _ _ g5i)
      · obtain ⟨ob, hob⟩ := Option.isSome_iff_exists.mp h'
        have e3 := S3.on b ob (hle b ob hob)
        rw [show h3.get? b = some ob from e3] at q; cases q
        exact on7 _ _ (l7 _ _ (l45 _ _ (hle _ _ hob)))
    cases hLk with
    | next hset hbody hor hrest =>
      rename_i σ' τ o'
      refine main hset hbody fun fl s3 G3 l3 f3 ge gi hS3 => ?_
      have S3 : Sat X G3 τ s3 ∧ (fl = .next ∨ fl = .cont) := by
        rcases hor with rfl | rfl
        · cases fl <;> first | exact f3.elim | exact ⟨f3, .inl rfl⟩
        · cases fl <;> first | exact f3.elim | exact ⟨f3, .inr rfl⟩
      have gi' : (G3.del e) it = some oi := by rw [View.del_ne _ (Ne.symm hei)]; exact gi
      have inv : ∃ m, m < xs.length - k ∧ Pk3 fun k' σk' Gk' => C7 (m = xs.length - k') (k' ≤ xs.length) (LoopE X x y body k' (xs.drop k') σk' o) (Sat X Gk' σk' s3) (G1.le Gk') (∀ D ∈ [e, it], Gk' D = none) (St k' s3.heap) := by
        refine ⟨xs.length - (k + 1), Nat.sub_lt_sub_left hlt (Nat.lt_succ_self k), k + 1, τ, (G3.del e).del it, rfl, hlt, hrest, (S3.1.delView ge hme (hG0 e me)).delView gi' hmi (hG0 it mi), (fun a' o' q => ?_), fun D hD => ?_, hS3⟩
        · have hne : a' ≠ e := fun h0 => by rw [h0, hG1 e me] at q; cases q
          have hni : a' ≠ it := fun h0 => by rw [h0, hG1 it mi] at q; cases q
          rw [View.del_ne _ hni, View.del_ne _ hne]; exact l3 a' o' (hle _ _ q)
        · simp only [List.mem_cons, List.not_mem_nil, or_false] at hD
          rcases hD with h0 | h0
          · rw [h0, View.del_ne _ hei]; exact View.del_self _ _
          · rw [h0]; exact View.del_self _ _
      rcases S3.2 with rfl | rfl <;> exact inv
    | ret hset hbody =>
      refine main hset hbody fun fl s3 G3 l3 f3 _ _ _ => ?_
      cases fl <;> first | exact f3.elim | exact kk _ s3 G3 (View.le_trans hle l3) f3
    | brk hset hbody =>
      refine main hset hbody fun fl s3 G3 l3 f3 _ _ _ => ?_
      cases fl <;> first | exact f3.elim | exact kk _ s3 G3 (View.le_trans hle l3) f3
  · have hke : k = xs.length := Nat.le_antisymm hk (Nat.le_of_not_lt hlt)
    subst hke
    rw [List.drop_length] at hLk
    cases hLk
    refine wp_tk (W.done s' _ _ hSk fun h1 tk1 hk1 htk => ?_)
    exact wpAny_execs_nil (kk .next _ Gk hle (Sk.touchL (tk := tk1) (hSt _ _ hSk) hGk hI0 hk1 htk))

theorem enum_mute {h : Heap} {e it : Addr} {i : Int} {old : Value} (he : IsEnum h e it i old) : ∃ oI, h.get? e = some oI ∧ Obj.mute oI := ⟨_, he, _, rfl⟩
theorem enumOut_mute {h : Heap} {e it : Addr} {i : Int} {old : Value} {a : Addr} (he : IsEnumOut h e it i old a) : ∃ oI, h.get? e = some oI ∧ Obj.mute oI := ⟨_, he, _, rfl⟩
theorem listiter_mute {h : Heap} {I a : Addr} {i : Nat} (hk : h.IsListIter I a i) : ∃ oI, h.get? I = some oI ∧ Obj.mute oI := by
  obtain ⟨oI, h1, _, h2⟩ := hk
  exact ⟨oI, h1, _, h2⟩
theorem two_mem {α : Type} {a b c : α} (h : c ∈ [a, b]) : c = a ∨ c = b := by simpa using h

theorem for_enum {en : Str} {px py p p1 pos fpos : Pos} {x y : Str} {k0 : Nat} {e1 : Expr} {body : List Stmt} {G : View} {s : Shared} {Q : Flow → Shared → Prop} {E : Value → Shared → Prop} (hf : Ex X σ (.Name en p1) (.raw (.type "enumerate"))) (hst : notStar e1 = true) (Sa : Sat X G σ s)
    (h : ∀ s1 G1, Up s s1 G G1 → wpAny (model B.prog B.w) X.A (eval e1 X.env) (fun v s2 => wpAny (model B.prog B.w) X.A (call (.type "enumerate") [v]) (fun xv s3 => wpAny (model B.prog B.w) X.A (pyIter xv) (fun it s4 =>
      codeAny (model B.prog B.w) X.A (.forLoop (.Tuple [.Name x px, .Name y py] k0 p) it body [] X.env) (fun r s' => match r with | .ok f => Q f s' | .error e => cameBackBy (model B.prog B.w) X.A X.env E e s') s4) E s3) E s2) E s1) :
    wpAny (model B.prog B.w) X.A (exec (.For (.Tuple [.Name x px, .Name y py] k0 p) (.Call (.Name en p1) [e1] [] pos) body [] fpos) X.env) Q E s := by
  refine wpAny_For ?_ (fun _ => rfl)
  refine wpAny_Call_NameR (hf.run G s _ E Sa fun f s1 G1 u1 r1 => ?_)
  cases r1
  have hse : backTo pos (starEach [e1] X.env) = [(false, eval e1 X.env)] := by rw [starEach_cons hst]; rfl
  rw [hse]
  exact PySem.callWith_type rfl (Calls.evalArgs_plain (Calls.spliced_cons (wpAny_mono (h s1 G1 u1) (fun v s2 h2 => Calls.spliced_nil h2) fun _ _ e => e)))

theorem s1_forE_list {en : Str} {px py p p1 pos fpos : Pos} {x y : Str} {k0 : Nat} {e1 : Expr} {body : List Stmt} {xs : List AV} {o : Out} (hf : Ex X σ (.Name en p1) (.raw (.type "enumerate"))) (h1 : Ex X σ e1 (.list xs)) (hL : LoopE X x y body 0 xs σ o) (ho : X.own = true) (hst : notStar e1 = true := by rfl) :
    S1 X σ (.For (.Tuple [.Name x px, .Name y py] k0 p) (.Call (.Name en p1) [e1] [] pos) body [] fpos) o := .mk fun G s Q E Sa kk => by
  refine for_enum hf hst Sa fun s1 G1 u1 => h1.run G1 s1 _ E (Sa.upd u1) fun v s2 G2 u2 r2 => ?_
  have S2 := (Sa.upd u1).upd u2
  cases r2 with
  | list g rs =>
    rename_i a n vs
    have hlen := VRels.length_eq rs
    have hsz : xs.length = vs.toArray.size := by simp [hlen]
    have ha := Heap.lt_size (u2.on _ _ g)
    refine call_enumerate_list ⟨_, u2.on _ _ g, rfl, n, rfl⟩ fun h' he hit hs' hk' => ?_
    have hl' : h'.IsList a vs.toArray := ⟨_, hk' _ _ (u2.on _ _ g), rfl, n, rfl⟩
    have W := WalksT.enumerate (prog := B.prog) (w := B.w) X.hh (s2.heap.objs.size + 1) s2.heap.objs.size a (Nat.succ_ne_self _) (Nat.ne_of_lt (Nat.lt_succ_of_lt ha)) (Nat.ne_of_lt ha) vs.toArray
    rw [← hsz] at W
    have u3 : Up s2 { s2 with heap := h' } G2 G2 := ⟨⟨.of hk', by show _ ≤ h'.objs.size; omega, rfl, rfl, G2.le_refl, fun b o q => hk' _ _ (u2.on b o q), fun a o q => .inl (by rw [q]; rfl)⟩, Nat.le_refl _⟩
    have h0 : (∃ old, IsEnum h' (s2.heap.objs.size + 1) s2.heap.objs.size 0 old) ∧ h'.IsListIter s2.heap.objs.size a 0 ∧ h'.IsList a vs.toArray := ⟨⟨_, he⟩, hit, hl'⟩
    refine W.self 0 _ _ _ h0 ?_
    refine forE_core (P := fun i v => vs.toArray[i]? = some v) W (fun k h hk D hD => ?_) (fun k v b hv hb => ?_) (fun k T h hk D hD => ?_) (Nat.succ_ne_self _) hL ho (S2.upd u3) h0 (fun D hD => ?_) (fun D hD => ?_) (fun D hD => ?_) (fun b hb => ?_) fun fl s' G' l f => kk fl s' G' (View.le_trans u1.le (View.le_trans u2.le l)) f
    · obtain ⟨⟨old, h1⟩, h2, _⟩ := hk
      rcases two_mem hD with rfl | rfl
      · exact enum_mute h1
      · exact listiter_mute h2
    · obtain ⟨v', hv', hr⟩ := VRels.get rs hb
      simp only [List.getElem?_toArray] at hv
      rw [hv] at hv'; cases hv'; exact hr
    · obtain ⟨⟨old, h1⟩, h2, _⟩ := hk
      rcases two_mem hD with rfl | rfl
      · exact enumOut_mute h1
      · exact listiter_mute h2
    · have := S2.up.size
      rcases two_mem hD with rfl | rfl <;> omega
    · have := S2.up.size
      have hz : G2 D = none := View.on_low u2.on (by rcases two_mem hD with rfl | rfl <;> omega)
      cases q : X.G₀ D with
      | none => rfl
      | some o => rw [S2.up.le _ _ q] at hz; cases hz
    · exact View.on_low u2.on (by rcases two_mem hD with rfl | rfl <;> omega)
    · simp only [List.mem_cons, List.not_mem_nil, or_false] at hb
      rcases hb with rfl | rfl | rfl
      · exact .inl rfl
      · exact .inr (.inl rfl)
      · exact .inr (.inr (by rw [g]; rfl))

theorem strDraws {x : Str} {t : Tok} (hh : A.handled = none) (it : Addr) : ∃ St, Draws B.prog B.w A it [it] x.cps.size (fun i v => ∃ c u, x.cps[i]? = some c ∧ v = .str ⟨#[c]⟩ u) St ∧ (∀ k h, St k h → ∃ oI, h.get? it = some oI ∧ Obj.mute oI) ∧ ∀ h, h.IsStrIter it (strIterType x) x t 0 → St 0 h := by
  unfold strIterType
  cases ha : x.cps.all (· < 128)
  · exact ⟨_, Draws.strWide hh it x t, fun k h hk => striter_mute hk, fun h hk => by simpa using hk⟩
  · exact ⟨_, Draws.strAscii hh it x t, fun k h hk => striter_mute hk, fun h hk => by simpa using hk⟩

theorem s1_forE_str {en : Str} {px py p p1 pos fpos : Pos} {x y : Str} {k0 : Nat} {e1 : Expr} {body : List Stmt} {xs : List Nat} {o : Out} (hf : Ex X σ (.Name en p1) (.raw (.type "enumerate"))) (h1 : Ex X σ e1 (.str xs)) (hL : LoopE X x y body 0 (xs.map fun c => .str [c]) σ o) (ho : X.own = true) (hst : notStar e1 = true := by rfl) :
    S1 X σ (.For (.Tuple [.Name x px, .Name y py] k0 p) (.Call (.Name en p1) [e1] [] pos) body [] fpos) o := .mk fun G s Q E Sa kk => by
  refine for_enum hf hst Sa fun s1 G1 u1 => h1.run G1 s1 _ E (Sa.upd u1) fun v s2 G2 u2 r2 => ?_
  have S2 := (Sa.upd u1).upd u2
  cases r2 with
  | str z t =>
    refine call_enumerate_str fun h' he hit hs' hk' => ?_
    obtain ⟨St, D, hm, hz⟩ := strDraws (B := B) (A := X.A.in1) (x := z) (t := t) X.hh s2.heap.objs.size
    have W := WalksT.enumerateD D (s2.heap.objs.size + 1) (Nat.succ_ne_self _) (fun q => Nat.succ_ne_self _ (List.mem_singleton.mp q)) (List.mem_singleton.mpr rfl)
    have hsz : (z.cps.toList.map fun c => AV.str [c]).length = z.cps.size := by simp
    have u3 : Up s2 { s2 with heap := h' } G2 G2 := ⟨⟨.of hk', by show _ ≤ h'.objs.size; omega, rfl, rfl, G2.le_refl, fun b o q => hk' _ _ (u2.on b o q), fun a o q => .inl (by rw [q]; rfl)⟩, Nat.le_refl _⟩
    have h0 : (∃ old, IsEnum h' (s2.heap.objs.size + 1) s2.heap.objs.size ((0 : Nat) : Int) old) ∧ St 0 h' := ⟨⟨_, he⟩, hz _ hit⟩
    refine W.self 0 _ _ _ h0 ?_
    refine forE_core (hsz ▸ W) (fun k h hk D hD => ?_) (fun k v b hv hb => ?_) (fun k T h hk D hD => ?_) (Nat.succ_ne_self _) hL ho (S2.upd u3) h0 (fun D hD => ?_) (fun D hD => ?_) (fun D hD => ?_) (fun b hb => ?_) fun fl s' G' l f => kk fl s' G' (View.le_trans u1.le (View.le_trans u2.le l)) f
    · obtain ⟨⟨old, h1⟩, h2⟩ := hk
      rcases two_mem hD with rfl | rfl
      · exact enum_mute h1
      · exact hm _ _ h2
    · obtain ⟨c, u, h1, rfl⟩ := hv
      have h1' : z.cps.toList[k]? = some c := by simpa using h1
      rw [List.getElem?_map, h1'] at hb
      simp at hb; subst hb
      exact VRel.str ⟨#[c]⟩ u
    · obtain ⟨⟨old, h1⟩, h2, _⟩ := hk
      rcases two_mem hD with rfl | rfl
      · exact enumOut_mute h1
      · exact hm _ _ h2
    · have := S2.up.size
      rcases two_mem hD with rfl | rfl <;> omega
    · have := S2.up.size
      have hz : G2 D = none := View.on_low u2.on (by rcases two_mem hD with rfl | rfl <;> omega)
      cases q : X.G₀ D with
      | none => rfl
      | some o => rw [S2.up.le _ _ q] at hz; cases hz
    · exact View.on_low u2.on (by rcases two_mem hD with rfl | rfl <;> omega)
    · simp only [List.mem_cons, List.not_mem_nil, or_false] at hb
      rcases hb with rfl | rfl
      · exact .inl rfl
      · exact .inr (.inl rfl)
end
end Mine
end
section
open PySem PySem.W PyProof.Rows PySem.Calls PySem.SeqAt
open PySem.AutoSeq1 (wpAny_loadPart')
open PySem.MeetsSeq PySem.MeetsSeq2 PySem.MeetsSeq3
set_option Elab.async false
set_option linter.unusedVariables false
set_option maxRecDepth 100000
set_option maxHeartbeats 4000000
namespace Mine
theorem lex_cons_eq {x : List Nat} {xs ys : List (List Nat)} : decide ((x :: xs) < (x :: ys)) = decide (xs < ys) := by
  congr 1; rw [List.cons_lt_cons_self]
theorem lex_cons_ne {x y : List Nat} {xs ys : List (List Nat)} (h : x ≠ y) : decide ((x :: xs) < (y :: ys)) = decide (x < y) := by
  congr 1
  rw [List.cons_lt_cons_iff]
  exact propext ⟨fun q => q.elim id fun q => absurd q.1 h, .inl⟩
theorem gt_strP {prog : Program} {w : World} {A : Around} {E : Value → Shared → Prop} {s : Shared} {x y : Str} {t u : Tok} {Q : Value → Shared → Prop} (h : Q (.bool (y.cps.toList < x.cps.toList)) s) : wpAny (model prog w) A (compareOp .Gt (.str x t) (.str y u)) Q E s :=
  compareOp_gives (op := .Gt) (typeIs_str s x t) (typeIs_str s y u) F.slot_str_gt F.entry_str_gt (F.args_str_gt_2 _ _) (gives_str_gt x y t u) (fun e => nomatch e) h
noncomputable abbrev tx (ts : List (Str × Tok)) : List (List Nat) := ts.map fun p => p.1.cps.toList

theorem lt_loop (l b : Addr) (ts us : List (Str × Tok)) (n n2 : Nat) (dd dd2 : Option Addr) (sl sl2 : Array (Option Value)) (k : Nat) :
    ∀ i : Nat, ts.length - i = k → i ≤ ts.length → i ≤ us.length → Meets (Builtin.«list.__eq__.loop» ⟨[.ref l, .ref b, rawInt i, rawInt 0], []⟩)
      (fun A R s => s.heap.get? l = some { cls := .type "list", dict := dd, data := .seq (strValues ts).toArray n, slots := sl } ∧ s.heap.get? b = some { cls := .type "list", dict := dd2, data := .seq (strValues us).toArray n2, slots := sl2 } ∧
        R (.ok (.ret (.bool (decide ((tx ts).drop i < (tx us).drop i))))) s) := by
  induction k with
  | zero =>
    intro i hk hi1' hi2' prog w A R s h
    obtain ⟨hp, g, d, tk, os⟩ := s; obtain ⟨hl, hb, h⟩ := h
    have hie : i = ts.length := by omega
    wp_walk using wpAny_loadPart' hl, wpAny_loadPart' hb
    have hi1 : (strValues ts).toArray[((i : Nat) : Int).toNat]? = none := by simp [strValues]; omega
    have hd : (tx ts).drop i = [] := by simp; omega
    rw [hi1]
    have h' : R (.ok (.ret (.bool (decide (ts.length < us.length))))) ⟨hp, g, d, tk, os⟩ := by
      have e : decide ((tx ts).drop i < (tx us).drop i) = decide (ts.length < us.length) := by
        rw [hd]
        cases q : (tx us).drop i with
        | nil =>
          have : us.length ≤ i := by simpa using q
          simp [List.lt_irrefl]; omega
        | cons y r =>
          have : ¬ us.length ≤ i := fun q' => by
            have : (tx us).drop i = [] := by simpa using q'
            rw [this] at q; cases q
          simp [List.lt_irrefl]; try omega
      rw [← e]; exact h
    cases q : (strValues us).toArray[((i : Nat) : Int).toNat]? <;>
    · wp_walk using wpAny_loadPart' hl, wpAny_loadPart' hb
      show R (.ok (.ret (.bool (decide ((strValues ts).toArray.size < (strValues us).toArray.size))))) _
      simpa [strValues] using h'
  | succ k ih =>
    intro i hk hi1' hi2' prog w A R s h
    obtain ⟨hp, g, d, tk, os⟩ := s; obtain ⟨hl, hb, h⟩ := h
    wp_walk using wpAny_loadPart' hl, wpAny_loadPart' hb
    have hlt : i < ts.length := by omega
    have hi1 : (strValues ts).toArray[((i : Nat) : Int).toNat]? = some (.str ts[i].1 ts[i].2) := by simp [strValues, hlt]
    have hd : (tx ts).drop i = ts[i].1.cps.toList :: (tx ts).drop (i + 1) := by
      rw [List.drop_eq_getElem_cons (by simpa using hlt)]; simp
    have hc : ((i : Int) + 1) = ((i + 1 : Nat) : Int) := by push_cast; rfl
    rw [hi1]
    by_cases hlt2 : i < us.length
    · have hi2 : (strValues us).toArray[((i : Nat) : Int).toNat]? = some (.str us[i].1 us[i].2) := by simp [strValues, hlt2]
      have hd2 : (tx us).drop i = us[i].1.cps.toList :: (tx us).drop (i + 1) := by
        rw [List.drop_eq_getElem_cons (by simpa using hlt2)]; simp
      rw [hi2]
      refine wpAny_bind (EqAt.str_str _ _ _ _ prog w _ _ ?_)
      by_cases hb' : ts[i].1 = us[i].1
      · rw [hd, hd2, hb', lex_cons_eq] at h
        rw [show (ts[i].1 == us[i].1) = true by simp [hb']]
        wp_walk
        rw [hc]
        exact ⟨plainId_quiet plain_eq_loop _, codeAny_builtin entry_eq_loop (by
          rw [Around.under_plainId plain_eq_loop _]
          exact ih (i + 1) (by omega) (by omega) (by omega) prog w A R _ ⟨hl, hb, h⟩)⟩
      · have hne : ts[i].1.cps.toList ≠ us[i].1.cps.toList := fun e => hb' (by
          cases q1 : ts[i].1; cases q2 : us[i].1; rw [q1, q2] at e; simp at e; rw [e])
        rw [hd, hd2, lex_cons_ne hne] at h
        rw [show (ts[i].1 == us[i].1) = false by simpa using hb']
        wp_walk using wpAny_loadPart' hl, wpAny_loadPart' hb
        rw [hi1, hi2]
        show wpAny _ _ (compareOp .Lt (.str ts[i].1 ts[i].2) (.str us[i].1 us[i].2) >>= fun v => ret v) _ _ _
        exact wpAny_bind (P.lt_str (wpAny_pure h))
    · have hi2 : (strValues us).toArray[((i : Nat) : Int).toNat]? = none := by simp [strValues]; omega
      have hd2 : (tx us).drop i = [] := by simp; omega
      rw [hi2]
      wp_walk using wpAny_loadPart' hl, wpAny_loadPart' hb
      show R (.ok (.ret (.bool (decide ((strValues ts).toArray.size < (strValues us).toArray.size))))) _
      rw [hd, hd2] at h
      have e : decide ((strValues ts).toArray.size < (strValues us).toArray.size) = false := by simp [strValues]; omega
      rw [e]
      simpa using h

theorem list_lt_m (l b : Addr) (ts us : List (Str × Tok)) (n n2 : Nat) (dd dd2 : Option Addr) (sl sl2 : Array (Option Value)) :
    Meets (Builtin.«list.__lt__» ⟨[.ref l, .ref b], []⟩)
      (fun A R s => s.heap.get? l = some { cls := .type "list", dict := dd, data := .seq (strValues ts).toArray n, slots := sl } ∧ s.heap.get? b = some { cls := .type "list", dict := dd2, data := .seq (strValues us).toArray n2, slots := sl2 } ∧
        R (.ok (.ret (.bool (decide (tx ts < tx us))))) s) := by
  intro prog w A R s h
  obtain ⟨hp, g, d, tk, os⟩ := s; obtain ⟨hl, hb, h⟩ := h
  have f3 := AutoSeq1.sub_list_list
  wp_walk using wpAny_loadPart' hl, wpAny_loadPart' hb
  exact ⟨plainId_quiet plain_eq_loop _, codeAny_builtin entry_eq_loop (by
    rw [Around.under_plainId plain_eq_loop _]
    exact lt_loop l b ts us n n2 dd dd2 sl sl2 _ 0 rfl (Nat.zero_le _) (Nat.zero_le _) prog w A R _ ⟨hl, hb, h⟩)⟩
theorem rc_lt {prog : Program} {w : World} {A : Around} {s : Shared} {E : Value → Shared → Prop} {Q : Value → Shared → Prop} {l b : Addr} {ts us : List (Str × Tok)} (hl : s.heap.IsList l (strValues ts).toArray) (hb : s.heap.IsList b (strValues us).toArray) (hu : A.units < cLine)
    (h : Q (.bool (decide (tx ts < tx us))) s) : wpAny (model prog w) A (richCompare .Lt (.ref l) (.ref b)) Q E s := by
  obtain ⟨⟨cls, dd, data, sl⟩, ho, hc, n, hd⟩ := id hl
  obtain ⟨⟨cls2, dd2, data2, sl2⟩, ho2, hc2, n2, hd2⟩ := id hb
  simp only at hc hd hc2 hd2
  subst hc hd hc2 hd2
  exact richCompare_meets_room (op := .Lt) ⟨_, ho, rfl⟩ ⟨_, ho2, rfl⟩ F.slot_list_lt F.entry_list_lt (F.args_list_lt_2 _ _) (list_lt_m l b ts us n n2 dd dd2 sl sl2)
    ⟨ho, ho2, show Value.bool (decide (tx ts < tx us)) ≠ Value.notImplemented ∧ Q (.bool (decide (tx ts < tx us))) s from ⟨(fun x => nomatch x), h⟩⟩ hu

theorem gt_loop (l b : Addr) (ts us : List (Str × Tok)) (n n2 : Nat) (dd dd2 : Option Addr) (sl sl2 : Array (Option Value)) (k : Nat) :
    ∀ i : Nat, ts.length - i = k → i ≤ ts.length → i ≤ us.length → Meets (Builtin.«list.__eq__.loop» ⟨[.ref l, .ref b, rawInt i, rawInt 4], []⟩)
      (fun A R s => s.heap.get? l = some { cls := .type "list", dict := dd, data := .seq (strValues ts).toArray n, slots := sl } ∧ s.heap.get? b = some { cls := .type "list", dict := dd2, data := .seq (strValues us).toArray n2, slots := sl2 } ∧
        R (.ok (.ret (.bool (decide ((tx us).drop i < (tx ts).drop i))))) s) := by
  induction k with
  | zero =>
    intro i hk hi1' hi2' prog w A R s h
    obtain ⟨hp, g, d, tk, os⟩ := s; obtain ⟨hl, hb, h⟩ := h
    have hie : i = ts.length := by omega
    wp_walk using wpAny_loadPart' hl, wpAny_loadPart' hb
    have hi1 : (strValues ts).toArray[((i : Nat) : Int).toNat]? = none := by simp [strValues]; omega
    have hd : (tx ts).drop i = [] := by simp; omega
    rw [hi1]
    have h' : R (.ok (.ret (.bool (decide (ts.length > us.length))))) ⟨hp, g, d, tk, os⟩ := by
      have e : decide ((tx us).drop i < (tx ts).drop i) = decide (ts.length > us.length) := by
        rw [hd]
        cases q : (tx us).drop i with
        | nil =>
          have : us.length ≤ i := by simpa using q
          simp [List.lt_irrefl]; omega
        | cons y r =>
          have : ¬ us.length ≤ i := fun q' => by
            have : (tx us).drop i = [] := by simpa using q'
            rw [this] at q; cases q
          simp [List.lt_irrefl]; try omega
      rw [← e]; exact h
    cases q : (strValues us).toArray[((i : Nat) : Int).toNat]? <;>
    · wp_walk using wpAny_loadPart' hl, wpAny_loadPart' hb
      show R (.ok (.ret (.bool (decide ((strValues ts).toArray.size > (strValues us).toArray.size))))) _
      simpa [strValues] using h'
  | succ k ih =>
    intro i hk hi1' hi2' prog w A R s h
    obtain ⟨hp, g, d, tk, os⟩ := s; obtain ⟨hl, hb, h⟩ := h
    wp_walk using wpAny_loadPart' hl, wpAny_loadPart' hb
    have hlt : i < ts.length := by omega
    have hi1 : (strValues ts).toArray[((i : Nat) : Int).toNat]? = some (.str ts[i].1 ts[i].2) := by simp [strValues, hlt]
    have hd : (tx ts).drop i = ts[i].1.cps.toList :: (tx ts).drop (i + 1) := by
      rw [List.drop_eq_getElem_cons (by simpa using hlt)]; simp
    have hc : ((i : Int) + 1) = ((i + 1 : Nat) : Int) := by push_cast; rfl
    rw [hi1]
    by_cases hlt2 : i < us.length
    · have hi2 : (strValues us).toArray[((i : Nat) : Int).toNat]? = some (.str us[i].1 us[i].2) := by simp [strValues, hlt2]
      have hd2 : (tx us).drop i = us[i].1.cps.toList :: (tx us).drop (i + 1) := by
        rw [List.drop_eq_getElem_cons (by simpa using hlt2)]; simp
      rw [hi2]
      refine wpAny_bind (EqAt.str_str _ _ _ _ prog w _ _ ?_)
      by_cases hb' : ts[i].1 = us[i].1
      · rw [hd, hd2, hb', lex_cons_eq] at h
        rw [show (ts[i].1 == us[i].1) = true by simp [hb']]
        wp_walk
        rw [hc]
        exact ⟨plainId_quiet plain_eq_loop _, codeAny_builtin entry_eq_loop (by
          rw [Around.under_plainId plain_eq_loop _]
          exact ih (i + 1) (by omega) (by omega) (by omega) prog w A R _ ⟨hl, hb, h⟩)⟩
      · have hne : ts[i].1.cps.toList ≠ us[i].1.cps.toList := fun e => hb' (by
          cases q1 : ts[i].1; cases q2 : us[i].1; rw [q1, q2] at e; simp at e; rw [e])
        rw [hd, hd2, lex_cons_ne (Ne.symm hne)] at h
        rw [show (ts[i].1 == us[i].1) = false by simpa using hb']
        wp_walk using wpAny_loadPart' hl, wpAny_loadPart' hb
        rw [hi1, hi2]
        show wpAny _ _ (compareOp .Gt (.str ts[i].1 ts[i].2) (.str us[i].1 us[i].2) >>= fun v => ret v) _ _ _
        exact wpAny_bind (gt_strP (wpAny_pure h))
    · have hi2 : (strValues us).toArray[((i : Nat) : Int).toNat]? = none := by simp [strValues]; omega
      have hd2 : (tx us).drop i = [] := by simp; omega
      rw [hi2]
      wp_walk using wpAny_loadPart' hl, wpAny_loadPart' hb
      show R (.ok (.ret (.bool (decide ((strValues ts).toArray.size > (strValues us).toArray.size))))) _
      rw [hd, hd2] at h
      have e : decide ((strValues ts).toArray.size > (strValues us).toArray.size) = true := by simp [strValues]; omega
      rw [e]
      simpa using h

theorem list_gt_m (l b : Addr) (ts us : List (Str × Tok)) (n n2 : Nat) (dd dd2 : Option Addr) (sl sl2 : Array (Option Value)) :
    Meets (Builtin.«list.__gt__» ⟨[.ref l, .ref b], []⟩)
      (fun A R s => s.heap.get? l = some { cls := .type "list", dict := dd, data := .seq (strValues ts).toArray n, slots := sl } ∧ s.heap.get? b = some { cls := .type "list", dict := dd2, data := .seq (strValues us).toArray n2, slots := sl2 } ∧
        R (.ok (.ret (.bool (decide (tx us < tx ts))))) s) := by
  intro prog w A R s h
  obtain ⟨hp, g, d, tk, os⟩ := s; obtain ⟨hl, hb, h⟩ := h
  have f3 := AutoSeq1.sub_list_list
  wp_walk using wpAny_loadPart' hl, wpAny_loadPart' hb
  exact ⟨plainId_quiet plain_eq_loop _, codeAny_builtin entry_eq_loop (by
    rw [Around.under_plainId plain_eq_loop _]
    exact gt_loop l b ts us n n2 dd dd2 sl sl2 _ 0 rfl (Nat.zero_le _) (Nat.zero_le _) prog w A R _ ⟨hl, hb, h⟩)⟩
theorem rc_gt {prog : Program} {w : World} {A : Around} {s : Shared} {E : Value → Shared → Prop} {Q : Value → Shared → Prop} {l b : Addr} {ts us : List (Str × Tok)} (hl : s.heap.IsList l (strValues ts).toArray) (hb : s.heap.IsList b (strValues us).toArray) (hu : A.units < cLine)
    (h : Q (.bool (decide (tx us < tx ts))) s) : wpAny (model prog w) A (richCompare .Gt (.ref l) (.ref b)) Q E s := by
  obtain ⟨⟨cls, dd, data, sl⟩, ho, hc, n, hd⟩ := id hl
  obtain ⟨⟨cls2, dd2, data2, sl2⟩, ho2, hc2, n2, hd2⟩ := id hb
  simp only at hc hd hc2 hd2
  subst hc hd hc2 hd2
  exact richCompare_meets_room (op := .Gt) ⟨_, ho, rfl⟩ ⟨_, ho2, rfl⟩ F.slot_list_gt F.entry_list_gt (F.args_list_gt_2 _ _) (list_gt_m l b ts us n n2 dd dd2 sl sl2)
    ⟨ho, ho2, show Value.bool (decide (tx us < tx ts)) ≠ Value.notImplemented ∧ Q (.bool (decide (tx us < tx ts))) s from ⟨(fun x => nomatch x), h⟩⟩ hu
end Mine
end
section
open PySem PySem.W PyProof.Rows PySem.Calls PySem.SeqAt
set_option Elab.async false
set_option linter.unusedVariables false
set_option maxRecDepth 100000
namespace Mine
section
variable {B : Base} {sc : Scope} {N : List Str} {X : FI B sc N} {σ : List Bnd} {A : Around}
noncomputable def bestOf {α : Type} (lt : α → α → Bool) : α → List α → α
  | b, [] => b
  | b, x :: xs => bestOf lt (if lt x b then x else b) xs
theorem bestOf_mem {α : Type} {lt : α → α → Bool} : ∀ {xs : List α} {b : α}, bestOf lt b xs = b ∨ bestOf lt b xs ∈ xs
  | [], b => .inl rfl
  | x :: xs, b => by
    unfold bestOf
    rcases bestOf_mem (lt := lt) (xs := xs) (b := if lt x b then x else b) with h | h
    · by_cases c : lt x b = true
      · rw [if_pos c] at h ⊢; exact .inr (by rw [h]; exact .head _)
      · rw [if_neg c] at h ⊢; exact .inl h
    · exact .inr (.tail _ h)
theorem bestOf_map {α β : Type} (f : β → α) {lt : α → α → Bool} {lt' : β → β → Bool} (h : ∀ x y, lt (f x) (f y) = lt' x y) : ∀ {xs : List β} {b : β}, bestOf lt (f b) (xs.map f) = f (bestOf lt' b xs)
  | [], b => rfl
  | x :: xs, b => by
    rw [List.map_cons, bestOf, bestOf, h]
    by_cases c : lt' x b = true
    · rw [if_pos c, if_pos c]; exact bestOf_map f h
    · rw [if_neg c, if_neg c]; exact bestOf_map f h
section
variable {prog : Program} {w : World} {R : Result → Shared → Prop} {I : Addr} {fp wr : List Addr} {n : Nat} {St : Nat → Heap → Prop} {E : Value → Shared → Prop}

theorem min_turns {P : Nat → Value → Prop} (W : Walks prog w A.in1 I fp wr n P St) {xs : List AV} {lt : AV → AV → Bool} (C : Heap → Prop) (Rel : Value → AV → Prop) (S : Addr) (hSf : S ∉ fp)
    (hP : ∀ i v a, P i v → xs[i]? = some a → Rel v a) (hxs : xs.length = n)
    (hC : ∀ h h', C h → (∀ b o, b ∉ wr → b ≠ S → h.get? b = some o → h'.get? b = some o) → C h')
    (hcmp : ∀ v u a b (s : Shared) (Q : Value → Shared → Prop) (E : Value → Shared → Prop), C s.heap → Rel v a → Rel u b → Q (.bool (lt a b)) s → wpAny (model prog w) A.in1 (richCompare .Lt v u) Q E s) :
    ∀ (k j : Nat) (s : Shared) (vb : Value) (ab : AV) (c : Nat), n - (j + 1) = k → j + 1 ≤ n → St (j + 1) s.heap → C s.heap → Rel vb ab → s.heap.get? S = some { cls := .type "list", dict := none, data := .seq #[vb, vb] c, slots := #[] } →
    (∀ v h' tk, Rel v (bestOf lt ab (xs.drop (j + 1))) → S < h'.objs.size → (∀ b o, b ∉ wr → b ≠ S → s.heap.get? b = some o → h'.get? b = some o) → R (.ok (.ret v)) { s with heap := h', toks := tk }) →
    codeAny (model prog w) A (.builtin "min.loop" ⟨[.ref I, .none, .ref S], []⟩) R s := by
  have hSw : S ∉ wr := fun h => hSf (W.sub _ h)
  have hname : (toString "min" ++ toString ".loop" : String) = "min.loop" := by decide
  intro k
  induction k with
  | zero =>
    intro j s vb ab c hk hj hst hc hb hS hR
    have hin : j + 1 = n := by omega
    refine codeAny_builtin F.entry_min_loop ?_
    rw [Around.under_plainId F.plain_min_loop _]
    show wpAny _ A.in1 (seqItems? (.ref S) >>= _) _ _ s
    refine wpAny_bind (wpAny_seqItems hS rfl ?_)
    show wpAny _ A.in1 (tryCatch (pyNext (.ref I)) _ >>= _) _ _ s
    refine wpAny_bind (wpAny_tryCatch (W.done s _ _ (hin ▸ hst) fun h' tk hk' => ?_))
    show wpAny _ A.in1 (updateSeq S (fun _ => #[]) >>= _) _ _ _
    refine wpAny_bind (wpAny_updateSeq (hk' S _ hSw hS) rfl (wpAny_bind (wpAny_letGo (wpAny_pure ?_))))
    refine hR vb _ tk ?_ (by rw [Heap.size_after_update]; exact Heap.lt_size (hk' S _ hSw hS)) fun b o hbw hbS e => (Heap.get?_update_other _ _ (Ne.symm hbS)).trans (hk' b o hbw e)
    rw [List.drop_of_length_le (by omega)]; exact hb
  | succ k ih =>
    intro j s vb ab c hk hj hst hc hb hS hR
    have hlt : j + 1 < n := by omega
    obtain ⟨a, ha⟩ : ∃ a, xs[j + 1]? = some a := ⟨xs[j + 1], by simp [hxs, hlt]⟩
    have hdrop : xs.drop (j + 1) = a :: xs.drop (j + 1 + 1) := by
      rw [List.drop_eq_getElem_cons (by omega)]
      congr 1
      have : j + 1 < xs.length := by omega
      simpa [this] using ha
    refine codeAny_builtin F.entry_min_loop ?_
    rw [Around.under_plainId F.plain_min_loop _]
    show wpAny _ A.in1 (seqItems? (.ref S) >>= _) _ _ s
    refine wpAny_bind (wpAny_seqItems hS rfl ?_)
    show wpAny _ A.in1 (tryCatch (pyNext (.ref I)) _ >>= _) _ _ s
    refine wpAny_bind (wpAny_tryCatch (W.item (j + 1) s _ _ hlt hst fun v h' tk hPv hst' hk' => ?_))
    have hS' := hk' S _ hSw hS
    have hc' := hC _ _ hc fun b o hb _ e => hk' b o hb e
    have ra := hP _ _ _ hPv ha
    show wpAny _ A.in1 (tryCatch (holding [v, v] (richCompare .Lt v vb >>= _)) _ >>= _) _ _ _
    refine wpAny_bind (wpAny_tryCatch (wpAny_holding (wpAny_bind (hcmp v vb a ab _ _ _ hc' ra hb ?_))))
    refine wpAny_bind (wpAny_holding (wpAny_truthy_bool ?_))
    refine wpAny_bind (wpAny_letGo (wpAny_pure ?_))
    rw [hdrop] at hR
    cases hb' : lt a ab with
    | true =>
      simp only [if_true]
      refine wpAny_bind (wpAny_updateSeq hS' rfl (wpAny_bind (wpAny_letGo ?_)))
      rw [hname]
      have up : ∀ b o, b ≠ S → h'.get? b = some o → (h'.update S (Obj.mapSeq fun _ => #[v, v])).get? b = some o := fun b o hb e => (Heap.get?_update_other _ _ (Ne.symm hb)).trans e
      refine wpAny_pure ⟨plainId_quiet F.plain_min_loop _, ih (j + 1) _ v a _ (by omega) hlt (W.frame _ _ _ hst' fun b hbf o e => up b o (fun q => hSf (q ▸ hbf)) e) (hC _ _ hc' fun b o _ hb e => up b o hb e) ra (Heap.get?_update_self _ hS' rfl) fun v' h'' tk'' hP' hz hk'' => ?_⟩
      refine hR v' h'' tk'' ?_ hz fun b o hbw hbS e => hk'' b o hbw hbS (up b o hbS (hk' b o hbw e))
      rw [bestOf, if_pos hb']; exact hP'
    | false =>
      simp only [Bool.false_eq_true, if_false]
      refine wpAny_bind (wpAny_letGo ?_)
      rw [hname]
      refine wpAny_pure ⟨plainId_quiet F.plain_min_loop _, ih (j + 1) _ vb ab c (by omega) hlt hst' hc' hb hS' fun v' h'' tk'' hP' hz hk'' => ?_⟩
      refine hR v' h'' tk'' ?_ hz fun b o hbw hbS e => hk'' b o hbw hbS (hk' b o hbw e)
      rw [bestOf, hb', if_neg (by decide)]; exact hP'

theorem call_min {x : Value} {Q : Value → Shared → Prop} {s : Shared}
    (h : wpAny (model prog w) A.in1 (pyIter x) (fun it s₂ => Pk11 fun (I : Addr) (fp wr : List Addr) (n : Nat) (P : Nat → Value → Prop) (St : Nat → Heap → Prop) (xs : List AV) (a : AV) (lt : AV → AV → Bool) (C : Heap → Prop) (Rel : Value → AV → Prop) => C10 (it = .ref I) (Walks prog w A.in1 I fp wr n P St) (St 0 s₂.heap) (C s₂.heap) (∀ b ∈ fp, b < s₂.heap.objs.size) ((a :: xs).length = n) (∀ i v b, P i v → (a :: xs)[i]? = some b → Rel v b)
      (∀ h h', C h → (∀ b o, b ∉ wr → b < s₂.heap.objs.size → h.get? b = some o → h'.get? b = some o) → C h')
      (∀ v u a b (s : Shared) (Q : Value → Shared → Prop) (E : Value → Shared → Prop), C s.heap → Rel v a → Rel u b → Q (.bool (lt a b)) s → wpAny (model prog w) A.in1 (richCompare .Lt v u) Q E s)
      (∀ v h' tk, Rel v (bestOf lt a xs) → s₂.heap.objs.size ≤ h'.objs.size → (∀ b o, b ∉ wr → s₂.heap.get? b = some o → h'.get? b = some o) → Q v { s₂ with heap := h', toks := tk })) E s) :
    wpAny (model prog w) A (call (.builtin "min") [x]) Q E s := by
  have hname : (toString "min" ++ toString ".loop" : String) = "min.loop" := by decide
  refine call_function_tree F.kind_min F.plain_min F.entry_min (F.args_min1 _) ?_
  show wpAny _ A.in1 (Builtin.Builtins.bindParams "min" ["key", "default"] 0 ⟨[], []⟩ >>= _) _ _ s
  refine wpAny_bind (wpAny_of_eq (show Builtin.Builtins.bindParams "min" ["key", "default"] 0 ⟨[], []⟩ = pure [none, none] from rfl) ?_)
  refine wpAny_bind (wpAny_pure ?_)
  refine wpAny_bind (wpAny_mono h (fun it s₂ h₂ => ?_) fun _ _ e => e)
  obtain ⟨I, fp, wr, n, P, St, xs, a, lt, C, Rel, rfl, W, hst, hc, hfp, hn, hP, hC, hcmp, hQ⟩ := h₂
  refine wpAny_bind (wpAny_newObj_type ?_)
  have hSf : s₂.heap.objs.size ∉ fp := fun hm => Nat.lt_irrefl _ (hfp _ hm)
  have hSw : s₂.heap.objs.size ∉ wr := fun h => hSf (W.sub _ h)
  rw [hname]
  have hC' : ∀ h h', C h → (∀ b o, b ∉ wr → b ≠ s₂.heap.objs.size → h.get? b = some o → h'.get? b = some o) → C h' := fun h h' c k => hC h h' c fun b o h1 h2 e => k b o h1 (Nat.ne_of_lt h2) e
  refine wpAny_pure ⟨plainId_quiet F.plain_min_loop _, codeAny_builtin F.entry_min_loop ?_⟩
  rw [Around.under_plainId F.plain_min_loop _]
  have hS : (s₂.heap.push { cls := .type "list", data := .seq #[] 0 }).get? s₂.heap.objs.size = some { cls := .type "list", dict := none, data := .seq #[] 0, slots := #[] } := Heap.get?_push_size _ rfl
  show wpAny _ A.in1 (seqItems? (.ref s₂.heap.objs.size) >>= _) _ _ _
  refine wpAny_bind (wpAny_seqItems hS rfl ?_)
  show wpAny _ A.in1 (tryCatch (pyNext (.ref I)) _ >>= _) _ _ _
  refine wpAny_bind (wpAny_tryCatch (W.item 0 _ _ _ (by rw [← hn]; exact Nat.succ_pos _) (W.frame _ _ _ hst fun b _ o e => Heap.get?_push_of_some _ e) fun v h' tk hPv hst' hk' => ?_))
  have hS' := hk' _ _ hSw hS
  have hc' : C h' := hC _ _ hc fun b o hb hb2 e => hk' b o hb (Heap.get?_push_of_some _ e)
  have up : ∀ b o, b ≠ s₂.heap.objs.size → h'.get? b = some o → (h'.update s₂.heap.objs.size (Obj.mapSeq fun _ => #[v, v])).get? b = some o := fun b o hb e => (Heap.get?_update_other _ _ (Ne.symm hb)).trans e
  show wpAny _ A.in1 (updateSeq s₂.heap.objs.size (fun _ => #[v, v]) >>= _) _ _ _
  refine wpAny_bind (wpAny_updateSeq hS' rfl ?_)
  rw [hname]
  refine wpAny_pure ⟨plainId_quiet F.plain_min_loop _, min_turns W (xs := a :: xs) C Rel s₂.heap.objs.size hSf hP hn hC' hcmp _ 0 _ v a _ rfl (by rw [← hn]; exact Nat.succ_pos _) (W.frame _ _ _ hst' fun b hbf o e => up b o (fun q => hSf (q ▸ hbf)) e) (hC' _ _ hc' fun b o _ hb e => up b o hb e) (hP 0 v a hPv rfl) (Heap.get?_update_self _ hS' rfl) fun v' h'' tk'' hP' hz hk'' => ?_⟩
  exact hQ v' h'' tk'' (by simpa using hP') (Nat.le_of_lt hz) fun b o hbw e => hk'' b o hbw (Nat.ne_of_lt (Heap.lt_size e)) (up b o (Nat.ne_of_lt (Heap.lt_size e)) (hk' b o hbw (Heap.get?_push_of_some _ e)))

theorem max_turns {P : Nat → Value → Prop} (W : Walks prog w A.in1 I fp wr n P St) {xs : List AV} {lt : AV → AV → Bool} (C : Heap → Prop) (Rel : Value → AV → Prop) (S : Addr) (hSf : S ∉ fp)
    (hP : ∀ i v a, P i v → xs[i]? = some a → Rel v a) (hxs : xs.length = n)
    (hC : ∀ h h', C h → (∀ b o, b ∉ wr → b ≠ S → h.get? b = some o → h'.get? b = some o) → C h')
    (hcmp : ∀ v u a b (s : Shared) (Q : Value → Shared → Prop) (E : Value → Shared → Prop), C s.heap → Rel v a → Rel u b → Q (.bool (lt a b)) s → wpAny (model prog w) A.in1 (richCompare .Gt v u) Q E s) :
    ∀ (k j : Nat) (s : Shared) (vb : Value) (ab : AV) (c : Nat), n - (j + 1) = k → j + 1 ≤ n → St (j + 1) s.heap → C s.heap → Rel vb ab → s.heap.get? S = some { cls := .type "list", dict := none, data := .seq #[vb, vb] c, slots := #[] } →
    (∀ v h' tk, Rel v (bestOf lt ab (xs.drop (j + 1))) → S < h'.objs.size → (∀ b o, b ∉ wr → b ≠ S → s.heap.get? b = some o → h'.get? b = some o) → R (.ok (.ret v)) { s with heap := h', toks := tk }) →
    codeAny (model prog w) A (.builtin "max.loop" ⟨[.ref I, .none, .ref S], []⟩) R s := by
  have hSw : S ∉ wr := fun h => hSf (W.sub _ h)
  have hname : (toString "max" ++ toString ".loop" : String) = "max.loop" := by decide
  intro k
  induction k with
  | zero =>
    intro j s vb ab c hk hj hst hc hb hS hR
    have hin : j + 1 = n := by omega
    refine codeAny_builtin F.entry_max_loop ?_
    rw [Around.under_plainId F.plain_max_loop _]
    show wpAny _ A.in1 (seqItems? (.ref S) >>= _) _ _ s
    refine wpAny_bind (wpAny_seqItems hS rfl ?_)
    show wpAny _ A.in1 (tryCatch (pyNext (.ref I)) _ >>= _) _ _ s
    refine wpAny_bind (wpAny_tryCatch (W.done s _ _ (hin ▸ hst) fun h' tk hk' => ?_))
    show wpAny _ A.in1 (updateSeq S (fun _ => #[]) >>= _) _ _ _
    refine wpAny_bind (wpAny_updateSeq (hk' S _ hSw hS) rfl (wpAny_bind (wpAny_letGo (wpAny_pure ?_))))
    refine hR vb _ tk ?_ (by rw [Heap.size_after_update]; exact Heap.lt_size (hk' S _ hSw hS)) fun b o hbw hbS e => (Heap.get?_update_other _ _ (Ne.symm hbS)).trans (hk' b o hbw e)
    rw [List.drop_of_length_le (by omega)]; exact hb
  | succ k ih =>
    intro j s vb ab c hk hj hst hc hb hS hR
    have hlt : j + 1 < n := by omega
    obtain ⟨a, ha⟩ : ∃ a, xs[j + 1]? = some a := ⟨xs[j + 1], by simp [hxs, hlt]⟩
    have hdrop : xs.drop (j + 1) = a :: xs.drop (j + 1 + 1) := by
      rw [List.drop_eq_getElem_cons (by omega)]
      congr 1
      have : j + 1 < xs.length := by omega
      simpa [this] using ha
    refine codeAny_builtin F.entry_max_loop ?_
    rw [Around.under_plainId F.plain_max_loop _]
    show wpAny _ A.in1 (seqItems? (.ref S) >>= _) _ _ s
    refine wpAny_bind (wpAny_seqItems hS rfl ?_)
    show wpAny _ A.in1 (tryCatch (pyNext (.ref I)) _ >>= _) _ _ s
    refine wpAny_bind (wpAny_tryCatch (W.item (j + 1) s _ _ hlt hst fun v h' tk hPv hst' hk' => ?_))
    have hS' := hk' S _ hSw hS
    have hc' := hC _ _ hc fun b o hb _ e => hk' b o hb e
    have ra := hP _ _ _ hPv ha
    show wpAny _ A.in1 (tryCatch (holding [v, v] (richCompare .Gt v vb >>= _)) _ >>= _) _ _ _
    refine wpAny_bind (wpAny_tryCatch (wpAny_holding (wpAny_bind (hcmp v vb a ab _ _ _ hc' ra hb ?_))))
    refine wpAny_bind (wpAny_holding (wpAny_truthy_bool ?_))
    refine wpAny_bind (wpAny_letGo (wpAny_pure ?_))
    rw [hdrop] at hR
    cases hb' : lt a ab with
    | true =>
      simp only [if_true]
      refine wpAny_bind (wpAny_updateSeq hS' rfl (wpAny_bind (wpAny_letGo ?_)))
      rw [hname]
      have up : ∀ b o, b ≠ S → h'.get? b = some o → (h'.update S (Obj.mapSeq fun _ => #[v, v])).get? b = some o := fun b o hb e => (Heap.get?_update_other _ _ (Ne.symm hb)).trans e
      refine wpAny_pure ⟨plainId_quiet F.plain_max_loop _, ih (j + 1) _ v a _ (by omega) hlt (W.frame _ _ _ hst' fun b hbf o e => up b o (fun q => hSf (q ▸ hbf)) e) (hC _ _ hc' fun b o _ hb e => up b o hb e) ra (Heap.get?_update_self _ hS' rfl) fun v' h'' tk'' hP' hz hk'' => ?_⟩
      refine hR v' h'' tk'' ?_ hz fun b o hbw hbS e => hk'' b o hbw hbS (up b o hbS (hk' b o hbw e))
      rw [bestOf, if_pos hb']; exact hP'
    | false =>
      simp only [Bool.false_eq_true, if_false]
      refine wpAny_bind (wpAny_letGo ?_)
      rw [hname]
      refine wpAny_pure ⟨plainId_quiet F.plain_max_loop _, ih (j + 1) _ vb ab c (by omega) hlt hst' hc' hb hS' fun v' h'' tk'' hP' hz hk'' => ?_⟩
      refine hR v' h'' tk'' ?_ hz fun b o hbw hbS e => hk'' b o hbw hbS (hk' b o hbw e)
      rw [bestOf, hb', if_neg (by decide)]; exact hP'

theorem call_max {x : Value} {Q : Value → Shared → Prop} {s : Shared}
    (h : wpAny (model prog w) A.in1 (pyIter x) (fun it s₂ => Pk11 fun (I : Addr) (fp wr : List Addr) (n : Nat) (P : Nat → Value → Prop) (St : Nat → Heap → Prop) (xs : List AV) (a : AV) (lt : AV → AV → Bool) (C : Heap → Prop) (Rel : Value → AV → Prop) => C10 (it = .ref I) (Walks prog w A.in1 I fp wr n P St) (St 0 s₂.heap) (C s₂.heap) (∀ b ∈ fp, b < s₂.heap.objs.size) ((a :: xs).length = n) (∀ i v b, P i v → (a :: xs)[i]? = some b → Rel v b)
      (∀ h h', C h → (∀ b o, b ∉ wr → b < s₂.heap.objs.size → h.get? b = some o → h'.get? b = some o) → C h')
      (∀ v u a b (s : Shared) (Q : Value → Shared → Prop) (E : Value → Shared → Prop), C s.heap → Rel v a → Rel u b → Q (.bool (lt a b)) s → wpAny (model prog w) A.in1 (richCompare .Gt v u) Q E s)
      (∀ v h' tk, Rel v (bestOf lt a xs) → s₂.heap.objs.size ≤ h'.objs.size → (∀ b o, b ∉ wr → s₂.heap.get? b = some o → h'.get? b = some o) → Q v { s₂ with heap := h', toks := tk })) E s) :
    wpAny (model prog w) A (call (.builtin "max") [x]) Q E s := by
  have hname : (toString "max" ++ toString ".loop" : String) = "max.loop" := by decide
  refine call_function_tree F.kind_max F.plain_max F.entry_max (F.args_max1 _) ?_
  show wpAny _ A.in1 (Builtin.Builtins.bindParams "max" ["key", "default"] 0 ⟨[], []⟩ >>= _) _ _ s
  refine wpAny_bind (wpAny_of_eq (show Builtin.Builtins.bindParams "max" ["key", "default"] 0 ⟨[], []⟩ = pure [none, none] from rfl) ?_)
  refine wpAny_bind (wpAny_pure ?_)
  refine wpAny_bind (wpAny_mono h (fun it s₂ h₂ => ?_) fun _ _ e => e)
  obtain ⟨I, fp, wr, n, P, St, xs, a, lt, C, Rel, rfl, W, hst, hc, hfp, hn, hP, hC, hcmp, hQ⟩ := h₂
  refine wpAny_bind (wpAny_newObj_type ?_)
  have hSf : s₂.heap.objs.size ∉ fp := fun hm => Nat.lt_irrefl _ (hfp _ hm)
  have hSw : s₂.heap.objs.size ∉ wr := fun h => hSf (W.sub _ h)
  rw [hname]
  have hC' : ∀ h h', C h → (∀ b o, b ∉ wr → b ≠ s₂.heap.objs.size → h.get? b = some o → h'.get? b = some o) → C h' := fun h h' c k => hC h h' c fun b o h1 h2 e => k b o h1 (Nat.ne_of_lt h2) e
  refine wpAny_pure ⟨plainId_quiet F.plain_max_loop _, codeAny_builtin F.entry_max_loop ?_⟩
  rw [Around.under_plainId F.plain_max_loop _]
  have hS : (s₂.heap.push { cls := .type "list", data := .seq #[] 0 }).get? s₂.heap.objs.size = some { cls := .type "list", dict := none, data := .seq #[] 0, slots := #[] } := Heap.get?_push_size _ rfl
  show wpAny _ A.in1 (seqItems? (.ref s₂.heap.objs.size) >>= _) _ _ _
  refine wpAny_bind (wpAny_seqItems hS rfl ?_)
  show wpAny _ A.in1 (tryCatch (pyNext (.ref I)) _ >>= _) _ _ _
  refine wpAny_bind (wpAny_tryCatch (W.item 0 _ _ _ (by rw [← hn]; exact Nat.succ_pos _) (W.frame _ _ _ hst fun b _ o e => Heap.get?_push_of_some _ e) fun v h' tk hPv hst' hk' => ?_))
  have hS' := hk' _ _ hSw hS
  have hc' : C h' := hC _ _ hc fun b o hb hb2 e => hk' b o hb (Heap.get?_push_of_some _ e)
  have up : ∀ b o, b ≠ s₂.heap.objs.size → h'.get? b = some o → (h'.update s₂.heap.objs.size (Obj.mapSeq fun _ => #[v, v])).get? b = some o := fun b o hb e => (Heap.get?_update_other _ _ (Ne.symm hb)).trans e
  show wpAny _ A.in1 (updateSeq s₂.heap.objs.size (fun _ => #[v, v]) >>= _) _ _ _
  refine wpAny_bind (wpAny_updateSeq hS' rfl ?_)
  rw [hname]
  refine wpAny_pure ⟨plainId_quiet F.plain_max_loop _, max_turns W (xs := a :: xs) C Rel s₂.heap.objs.size hSf hP hn hC' hcmp _ 0 _ v a _ rfl (by rw [← hn]; exact Nat.succ_pos _) (W.frame _ _ _ hst' fun b hbf o e => up b o (fun q => hSf (q ▸ hbf)) e) (hC' _ _ hc' fun b o _ hb e => up b o hb e) (hP 0 v a hPv rfl) (Heap.get?_update_self _ hS' rfl) fun v' h'' tk'' hP' hz hk'' => ?_⟩
  exact hQ v' h'' tk'' (by simpa using hP') (Nat.le_of_lt hz) fun b o hbw e => hk'' b o hbw (Nat.ne_of_lt (Heap.lt_size e)) (up b o (Nat.ne_of_lt (Heap.lt_size e)) (hk' b o hbw (Heap.get?_push_of_some _ e)))
end

noncomputable def ltT (x y : AV) : Bool := match x, y with
  | .str a, .str b => decide (a < b)
  | _, _ => false
noncomputable def unL : List AV → List (List Nat)
  | [] => []
  | .str x :: r => x :: unL r
  | _ :: r => [] :: unL r
theorem unL_map : ∀ (l : List (List Nat)), unL (l.map .str) = l
  | [] => rfl
  | x :: r => by show x :: unL (r.map .str) = _; rw [unL_map r]
noncomputable def ltL (x y : AV) : Bool := match x, y with
  | .list a, .list b => decide (unL a < unL b)
  | _, _ => false
theorem wp_wr {G : View} {s : Shared} {h' : Heap} {tk : Nat} {o : Obj} (hG : G.on s.heap) (hk : ∀ b ob, b ∉ [s.heap.objs.size] → (s.heap.push o).get? b = some ob → h'.get? b = some ob) (hs : s.heap.objs.size ≤ h'.objs.size) : Up0 s { s with heap := h', toks := tk } G G := by
  have k : ∀ b ob, s.heap.get? b = some ob → h'.get? b = some ob := fun b ob e => hk b ob (fun q => by rw [List.mem_singleton.mp q] at e; exact absurd (Heap.lt_size e) (Nat.lt_irrefl _)) (Heap.get?_push_of_some _ e)
  exact ⟨.of k, hs, rfl, rfl, G.le_refl, fun b ob e => k b ob (hG b ob e), fun a ob e => .inl (by rw [e]; rfl)⟩

theorem fn_min_tup {x : List Nat} {xs : List (List Nat)} : FnIn X (.builtin "min") [.tup ((x :: xs).map .str)] (.str (bestOf (fun a b => decide (a < b)) x xs)) := fun G s vs Q E T fr ht hG rv kk => by
  obtain ⟨_, rfl, r1⟩ := rv.oneI
  obtain ⟨a, vs, rfl, g, rs⟩ := r1.tupI
  have hlen := VRels.length_eq rs
  have hne : a ≠ s.heap.objs.size := Nat.ne_of_lt (Heap.lt_size (hG _ _ g))
  have hb : ∀ b ob, G b = some ob → b ≠ s.heap.objs.size := fun b ob e => Nat.ne_of_lt (Heap.lt_size (hG b ob e))
  have hts : ∀ y ∈ ((x :: xs).map AV.str), ∃ z, y = .str z := fun y hy => by
    obtain ⟨z, _, h⟩ := List.mem_map.mp hy
    exact ⟨z, h.symm⟩
  refine call_min (wpAny_pyIter_tuple (items := vs.toArray) ⟨_, hG _ _ g, rfl, 0, rfl⟩ ?_)
  refine ⟨_, [s.heap.objs.size, a], [s.heap.objs.size], vs.toArray.size, _, _, xs.map .str, .str x, fun u v => ltT u v, fun h => G.on h, fun v a => VRel G v a ∧ ∃ z, a = .str z, rfl, Walks.tuple (A := X.A.in1) X.hh _ a hne vs.toArray, ⟨⟨_, Heap.get?_push_size _ rfl, rfl, rfl⟩, ⟨_, Heap.get?_push_of_some _ (hG _ _ g), rfl, 0, rfl⟩⟩,
    fun b ob e => Heap.get?_push_of_some _ (hG b ob e), fun b hb => ?_, by rw [show AV.str x :: xs.map AV.str = (x :: xs).map AV.str from rfl]; simp only [List.size_toArray]; exact hlen.symm, fun i v b hv hb => ?_, fun h h' c k b ob e => k b ob (fun q => hb b ob e (List.mem_singleton.mp q)) (by show b < (s.heap.push _).objs.size; rw [Heap.size_push]; exact Nat.lt_succ_of_lt (Heap.lt_size (hG b ob e))) (c b ob e), fun v u c d s' Q' E' _ r1 r2 hq => ?_, fun v h' tk r hs k => ?_⟩
  · show b < (s.heap.push _).objs.size
    rw [Heap.size_push]
    rcases two_mem hb with rfl | rfl
    · exact Nat.lt_succ_self _
    · exact Nat.lt_succ_of_lt (Heap.lt_size (hG _ _ g))
  · obtain ⟨v', hv', hr⟩ := VRels.get rs hb
    simp only [List.getElem?_toArray] at hv
    rw [hv] at hv'; cases hv'; exact ⟨hr, hts _ (List.mem_of_getElem? hb)⟩
  · obtain ⟨r1, z1, rfl⟩ := r1
    obtain ⟨r2, z2, rfl⟩ := r2
    cases r1; cases r2
    exact P.lt_str hq
  · obtain ⟨r, _⟩ := r
    rw [bestOf_map (β := List Nat) AV.str (lt' := fun a b => decide (a < b)) (fun x y => rfl)] at r
    exact kk v _ G (wp_wr hG k (Nat.le_trans (by show _ ≤ (s.heap.push _).objs.size; rw [Heap.size_push]; exact Nat.le_succ _) hs)) r
theorem fn_min_lists {x : List (List Nat)} {xs : List (List (List Nat))} : FnIn X (.builtin "min") [.list ((x :: xs).map AV.strs)] (.strs (bestOf (fun a b => decide (a < b)) x xs)) := fun G s vs Q E T fr ht hG rv kk => by
  obtain ⟨_, rfl, r1⟩ := rv.oneI
  obtain ⟨a, n, vs, rfl, g, rs⟩ := r1.listI
  have hlen := VRels.length_eq rs
  have hne : a ≠ s.heap.objs.size := Nat.ne_of_lt (Heap.lt_size (hG _ _ g))
  have hb : ∀ b ob, G b = some ob → b ≠ s.heap.objs.size := fun b ob e => Nat.ne_of_lt (Heap.lt_size (hG b ob e))
  have hts : ∀ y ∈ ((x :: xs).map AV.strs), ∃ z, y = AV.strs z := fun y hy => by
    obtain ⟨z, _, h⟩ := List.mem_map.mp hy
    exact ⟨z, h.symm⟩
  refine call_min (wpAny_pyIter_list (items := vs.toArray) ⟨_, hG _ _ g, rfl, n, rfl⟩ ?_)
  refine ⟨_, [s.heap.objs.size, a], [s.heap.objs.size], vs.toArray.size, _, _, xs.map AV.strs, AV.strs x, fun u v => ltL u v, fun h => G.on h, fun v a => VRel G v a ∧ ∃ z, a = AV.strs z, rfl, Walks.list (A := X.A.in1) X.hh _ a hne vs.toArray, ⟨⟨_, Heap.get?_push_size _ rfl, rfl, rfl⟩, ⟨_, Heap.get?_push_of_some _ (hG _ _ g), rfl, n, rfl⟩⟩,
    fun b ob e => Heap.get?_push_of_some _ (hG b ob e), fun b hb => ?_, by rw [show AV.strs x :: xs.map AV.strs = (x :: xs).map AV.strs from rfl]; simp only [List.size_toArray]; exact hlen.symm, fun i v b hv hb => ?_, fun h h' c k b ob e => k b ob (fun q => hb b ob e (List.mem_singleton.mp q)) (by show b < (s.heap.push _).objs.size; rw [Heap.size_push]; exact Nat.lt_succ_of_lt (Heap.lt_size (hG b ob e))) (c b ob e), fun v u c d s' Q' E' hc r1 r2 hq => ?_, fun v h' tk r hs k => ?_⟩
  · show b < (s.heap.push _).objs.size
    rw [Heap.size_push]
    rcases two_mem hb with rfl | rfl
    · exact Nat.lt_succ_self _
    · exact Nat.lt_succ_of_lt (Heap.lt_size (hG _ _ g))
  · obtain ⟨v', hv', hr⟩ := VRels.get rs hb
    simp only [List.getElem?_toArray] at hv
    rw [hv] at hv'; cases hv'; exact ⟨hr, hts _ (List.mem_of_getElem? hb)⟩
  · obtain ⟨r1, z1, rfl⟩ := r1
    obtain ⟨r2, z2, rfl⟩ := r2
    cases r1 with
    | list g1 rs1 =>
      cases r2 with
      | list g2 rs2 =>
        obtain ⟨ts, rfl, rfl⟩ := texts_vrels rs1
        obtain ⟨us, rfl, rfl⟩ := texts_vrels rs2
        refine rc_lt ⟨_, hc _ _ g1, rfl, _, rfl⟩ ⟨_, hc _ _ g2, rfl, _, rfl⟩ (by have := X.hu; show X.A.units + 1 < _; omega) ?_
        simpa only [ltL, unL_map] using hq
  · obtain ⟨r, _⟩ := r
    rw [bestOf_map (β := List (List Nat)) AV.strs (lt' := fun a b => decide (a < b)) (fun x y => by simp only [ltL, unL_map])] at r
    exact kk v _ G (wp_wr hG k (Nat.le_trans (by show _ ≤ (s.heap.push _).objs.size; rw [Heap.size_push]; exact Nat.le_succ _) hs)) r

theorem fn_max_tup {x : List Nat} {xs : List (List Nat)} : FnIn X (.builtin "max") [.tup ((x :: xs).map .str)] (.str (bestOf (fun a b => decide (b < a)) x xs)) := fun G s vs Q E T fr ht hG rv kk => by
  obtain ⟨_, rfl, r1⟩ := rv.oneI
  obtain ⟨a, vs, rfl, g, rs⟩ := r1.tupI
  have hlen := VRels.length_eq rs
  have hne : a ≠ s.heap.objs.size := Nat.ne_of_lt (Heap.lt_size (hG _ _ g))
  have hb : ∀ b ob, G b = some ob → b ≠ s.heap.objs.size := fun b ob e => Nat.ne_of_lt (Heap.lt_size (hG b ob e))
  have hts : ∀ y ∈ ((x :: xs).map AV.str), ∃ z, y = .str z := fun y hy => by
    obtain ⟨z, _, h⟩ := List.mem_map.mp hy
    exact ⟨z, h.symm⟩
  refine call_max (wpAny_pyIter_tuple (items := vs.toArray) ⟨_, hG _ _ g, rfl, 0, rfl⟩ ?_)
  refine ⟨_, [s.heap.objs.size, a], [s.heap.objs.size], vs.toArray.size, _, _, xs.map .str, .str x, fun u v => ltT v u, fun h => G.on h, fun v a => VRel G v a ∧ ∃ z, a = .str z, rfl, Walks.tuple (A := X.A.in1) X.hh _ a hne vs.toArray, ⟨⟨_, Heap.get?_push_size _ rfl, rfl, rfl⟩, ⟨_, Heap.get?_push_of_some _ (hG _ _ g), rfl, 0, rfl⟩⟩,
    fun b ob e => Heap.get?_push_of_some _ (hG b ob e), fun b hb => ?_, by rw [show AV.str x :: xs.map AV.str = (x :: xs).map AV.str from rfl]; simp only [List.size_toArray]; exact hlen.symm, fun i v b hv hb => ?_, fun h h' c k b ob e => k b ob (fun q => hb b ob e (List.mem_singleton.mp q)) (by show b < (s.heap.push _).objs.size; rw [Heap.size_push]; exact Nat.lt_succ_of_lt (Heap.lt_size (hG b ob e))) (c b ob e), fun v u c d s' Q' E' _ r1 r2 hq => ?_, fun v h' tk r hs k => ?_⟩
  · show b < (s.heap.push _).objs.size
    rw [Heap.size_push]
    rcases two_mem hb with rfl | rfl
    · exact Nat.lt_succ_self _
    · exact Nat.lt_succ_of_lt (Heap.lt_size (hG _ _ g))
  · obtain ⟨v', hv', hr⟩ := VRels.get rs hb
    simp only [List.getElem?_toArray] at hv
    rw [hv] at hv'; cases hv'; exact ⟨hr, hts _ (List.mem_of_getElem? hb)⟩
  · obtain ⟨r1, z1, rfl⟩ := r1
    obtain ⟨r2, z2, rfl⟩ := r2
    cases r1; cases r2
    exact gt_strP hq
  · obtain ⟨r, _⟩ := r
    rw [bestOf_map (β := List Nat) AV.str (lt' := fun a b => decide (b < a)) (fun x y => rfl)] at r
    exact kk v _ G (wp_wr hG k (Nat.le_trans (by show _ ≤ (s.heap.push _).objs.size; rw [Heap.size_push]; exact Nat.le_succ _) hs)) r
theorem fn_max_lists {x : List (List Nat)} {xs : List (List (List Nat))} : FnIn X (.builtin "max") [.list ((x :: xs).map AV.strs)] (.strs (bestOf (fun a b => decide (b < a)) x xs)) := fun G s vs Q E T fr ht hG rv kk => by
  obtain ⟨_, rfl, r1⟩ := rv.oneI
  obtain ⟨a, n, vs, rfl, g, rs⟩ := r1.listI
  have hlen := VRels.length_eq rs
  have hne : a ≠ s.heap.objs.size := Nat.ne_of_lt (Heap.lt_size (hG _ _ g))
  have hb : ∀ b ob, G b = some ob → b ≠ s.heap.objs.size := fun b ob e => Nat.ne_of_lt (Heap.lt_size (hG b ob e))
  have hts : ∀ y ∈ ((x :: xs).map AV.strs), ∃ z, y = AV.strs z := fun y hy => by
    obtain ⟨z, _, h⟩ := List.mem_map.mp hy
    exact ⟨z, h.symm⟩
  refine call_max (wpAny_pyIter_list (items := vs.toArray) ⟨_, hG _ _ g, rfl, n, rfl⟩ ?_)
  refine ⟨_, [s.heap.objs.size, a], [s.heap.objs.size], vs.toArray.size, _, _, xs.map AV.strs, AV.strs x, fun u v => ltL v u, fun h => G.on h, fun v a => VRel G v a ∧ ∃ z, a = AV.strs z, rfl, Walks.list (A := X.A.in1) X.hh _ a hne vs.toArray, ⟨⟨_, Heap.get?_push_size _ rfl, rfl, rfl⟩, ⟨_, Heap.get?_push_of_some _ (hG _ _ g), rfl, n, rfl⟩⟩,
    fun b ob e => Heap.get?_push_of_some _ (hG b ob e), fun b hb => ?_, by rw [show AV.strs x :: xs.map AV.strs = (x :: xs).map AV.strs from rfl]; simp only [List.size_toArray]; exact hlen.symm, fun i v b hv hb => ?_, fun h h' c k b ob e => k b ob (fun q => hb b ob e (List.mem_singleton.mp q)) (by show b < (s.heap.push _).objs.size; rw [Heap.size_push]; exact Nat.lt_succ_of_lt (Heap.lt_size (hG b ob e))) (c b ob e), fun v u c d s' Q' E' hc r1 r2 hq => ?_, fun v h' tk r hs k => ?_⟩
  · show b < (s.heap.push _).objs.size
    rw [Heap.size_push]
    rcases two_mem hb with rfl | rfl
    · exact Nat.lt_succ_self _
    · exact Nat.lt_succ_of_lt (Heap.lt_size (hG _ _ g))
  · obtain ⟨v', hv', hr⟩ := VRels.get rs hb
    simp only [List.getElem?_toArray] at hv
    rw [hv] at hv'; cases hv'; exact ⟨hr, hts _ (List.mem_of_getElem? hb)⟩
  · obtain ⟨r1, z1, rfl⟩ := r1
    obtain ⟨r2, z2, rfl⟩ := r2
    cases r1 with
    | list g1 rs1 =>
      cases r2 with
      | list g2 rs2 =>
        obtain ⟨ts, rfl, rfl⟩ := texts_vrels rs1
        obtain ⟨us, rfl, rfl⟩ := texts_vrels rs2
        refine rc_gt ⟨_, hc _ _ g1, rfl, _, rfl⟩ ⟨_, hc _ _ g2, rfl, _, rfl⟩ (by have := X.hu; show X.A.units + 1 < _; omega) ?_
        simpa only [ltL, unL_map] using hq
  · obtain ⟨r, _⟩ := r
    rw [bestOf_map (β := List (List Nat)) AV.strs (lt' := fun a b => decide (b < a)) (fun x y => by simp only [ltL, unL_map])] at r
    exact kk v _ G (wp_wr hG k (Nat.le_trans (by show _ ≤ (s.heap.push _).objs.size; rw [Heap.size_push]; exact Nat.le_succ _) hs)) r
end
end Mine
end
section
open PySem PySem.W PyProof.Rows PySem.Calls PySem.SeqAt
open PySem.AutoSeq1 (wpAny_loadPart')
set_option Elab.async false
set_option linter.unusedVariables false
set_option maxRecDepth 100000
namespace Mine
namespace Fm
theorem owner_map : Manifest.owners.lookup (String.ofList ['p', 'a', 'm'].reverse) = some Manifest.sig_map := by kernel_rfl
theorem slot_map_init : Slot "map" "__init__" "object.__init__" :=
  .of (owner := "object") (n := "__init__") (by rw [typeLookup_type, builtinLookup_eq_fast]; kernel_rfl) (by decide +kernel) (by decide +kernel) (by decide +kernel)
    (by first | exact .inl (by decide +kernel) | exact .inr (by decide +kernel)) (by rw [isSubtype_type]; kernel_rfl)
theorem slot_map_next : Slot "map" "__next__" "map.__next__" :=
  .of (owner := "map") (n := "__next__") (by rw [typeLookup_type, builtinLookup_eq_fast]; kernel_rfl) (by decide +kernel) (by decide +kernel) (by decide +kernel)
    (by first | exact .inl (by decide +kernel) | exact .inr (by decide +kernel)) (by rw [isSubtype_type]; kernel_rfl)
theorem slot_map_iter : Slot "map" "__iter__" "map.__iter__" :=
  .of (owner := "map") (n := "__iter__") (by rw [typeLookup_type, builtinLookup_eq_fast]; kernel_rfl) (by decide +kernel) (by decide +kernel) (by decide +kernel)
    (by first | exact .inl (by decide +kernel) | exact .inr (by decide +kernel)) (by rw [isSubtype_type]; kernel_rfl)
theorem args_map_next (a : Value) : argsOk "map.__next__" ⟨[a], []⟩ := by
  unfold argsOk; rw [signature?_of (id := "map.__next__") (n := ['_', '_', 't', 'x', 'e', 'n', '_', '_']) (o := ['p', 'a', 'm']) (by kernel_rfl) owner_map]; kernel_rfl
theorem args_map_iter (a : Value) : argsOk "map.__iter__" ⟨[a], []⟩ := by
  unfold argsOk; rw [signature?_of (id := "map.__iter__") (n := ['_', '_', 'r', 'e', 't', 'i', '_', '_']) (o := ['p', 'a', 'm']) (by kernel_rfl) owner_map]; kernel_rfl
theorem entry_map_iter : entryFor table "map.__iter__" = some Builtin.«dict_keyiterator.__iter__» :=
  entryFor_alias (id' := "dict_keyiterator.__iter__") (by kernel_rfl) (by first | rfl | decide +kernel | (unfold String.splitOn; simp +decide [String.splitOnAux])) (by decide +kernel) (by kernel_rfl)
theorem entry_map_next : entryFor table "map.__next__" = some Builtin.«map.__next__» := entryFor_of_tree (by kernel_rfl)
theorem entry_map_new : entryFor table "map.__new__" = some Builtin.«map.__new__» := entryFor_of_tree (by kernel_rfl)
theorem mro_map : mroOf (.type "map") = pure [.type "map", .type "object"] := by rw [mroOf_type]; kernel_rfl
theorem lookup_map_new : typeLookup (.type "map") "__new__" = pure (some (.builtin "map.__new__")) := by rw [typeLookup_type, builtinLookup_eq_fast]; kernel_rfl
theorem called_map : TypeCalled "map" "map.__new__" "object.__init__" :=
  ⟨by decide +kernel, by decide +kernel, ⟨_, _, mro_map⟩, madeBy_type mro_map lookup_map_new (by decide +kernel), by decide +kernel, by rw [isSubtype_type]; kernel_rfl, slot_map_init⟩
theorem typeCall_map_2 (a b : Value) : checkTypeCall "map" ⟨[a, b], []⟩ = pure () := by kernel_rfl
theorem newCall_map_2 (a b : Value) : checkBuiltinCall "map.__new__" ⟨[.type "map", a, b], []⟩ = pure () := by kernel_rfl
theorem sub_map : isSubtype (.type "map") (.type "map") = pure true := by rw [isSubtype_type]; kernel_rfl
theorem nolen_map : typeLookup (.type "map") "__len__" = pure none := by rw [typeLookup_type, builtinLookup_eq_fast]; kernel_rfl
theorem nohint_map : typeLookup (.type "map") "__length_hint__" = pure none := by rw [typeLookup_type, builtinLookup_eq_fast]; kernel_rfl
end Fm
theorem meets_map_new (f : Value) (l : Addr) (items : Array Value) (n : Nat) :
    Meets (Builtin.«map.__new__» ⟨[.type "map", f, .ref l], []⟩) (fun _ R s => s.heap.get? l = some { cls := .type "list", data := .seq items n } ∧
      R (.ok (.ret (.ref (s.heap.objs.size + 2))))
        { s with heap := ((s.heap.push { cls := .type "list_iterator", data := .fields #[.ref l, .int 0 0] }).push { cls := .type "tuple", data := .seq #[.ref s.heap.objs.size] }).push { cls := .type "map", data := .fields #[.ref (s.heap.objs.size + 1), f] } }) :=
  .of_wp fun prog w A R s h => by
    obtain ⟨hp, g, d, tk, os⟩ := s; obtain ⟨hl, h⟩ := h
    have hsub := Fm.sub_map
    have hL : Heap.IsList (Shared.heap ⟨hp, g, d, tk, os⟩) l items := ⟨_, hl, rfl, n, rfl⟩
    wp_walk using wpAny_loadPart' hl, wpAny_pyIter_list hL
    exact ⟨_, rfl, by simpa [Heap.size_push] using h⟩

end Mine
end
section
open PySem PySem.W PyProof.Rows PySem.Calls PySem.SeqAt
open PySem.AutoSeq1 (wpAny_loadPart')
set_option Elab.async false
set_option linter.unusedVariables false
set_option maxRecDepth 100000
namespace Mine
noncomputable def IsMap (h : Heap) (M T it : Addr) (f : Value) : Prop := h.get? M = some { cls := .type "map", data := .fields #[.ref T, f] } ∧ h.get? T = some { cls := .type "tuple", data := .seq #[.ref it] }
section
variable {prog : Program} {w : World} {A : Around} {E : Value → Shared → Prop} {s : Shared}
theorem map_next_item {M T it l : Addr} {f : Value} {i : Nat} {items : Array Value} {x : Value} {Q : Value → Shared → Prop} (hm : IsMap s.heap M T it f) (hit : s.heap.IsListIter it l i) (hl : s.heap.IsList l items) (hx : items[i]? = some x) (hMi : M ≠ it)
    (h : ∀ h', h'.IsListIter it l (i + 1) → Heap.SameBut it s.heap h' → wpAny (model prog w) A (call f [x]) Q E { s with heap := h' }) :
    wpAny (model prog w) A (Builtin.«map.__next__» ⟨[.ref M], []⟩) (fun fin s' => ∃ v, fin = .done (.ret v) ∧ Q v s') E s := by
  obtain ⟨hm1, hm2⟩ := hm
  show wpAny _ A (field (.ref M) 0 >>= _) _ _ _
  refine wpAny_bind (wpAny_field hm1 rfl (x := .ref T) rfl ?_)
  show wpAny _ A (seqItems? (.ref T) >>= _) _ _ _
  refine wpAny_bind (wpAny_seqItems hm2 rfl ?_)
  dsimp only
  rw [← Array.forIn_toList]
  simp only [List.forIn_cons, List.forIn_nil]
  refine wpAny_bind (wpAny_bind (wpAny_bind (wpAny_holding (wpAny_nextOf_list_item hit hl hx fun h1 hit1 hs1 => wpAny_pure (wpAny_pure ?_)))))
  have hm1' := (hs1.2 M hMi).trans hm1
  show wpAny _ A (field (.ref M) 1 >>= _) _ _ _
  refine wpAny_bind (wpAny_field hm1' rfl (x := f) rfl ?_)
  refine wpAny_bind (wpAny_holding (wpAny_mono (h h1 hit1 hs1) (fun v s2 hq => ?_) fun _ _ e => e))
  exact wpAny_bind (wpAny_letGo (wpAny_pure ⟨v, rfl, hq⟩))
theorem map_pyNext_item {M T it l : Addr} {f : Value} {i : Nat} {items : Array Value} {x : Value} {Q : Option Value → Shared → Prop} (hm : IsMap s.heap M T it f) (hit : s.heap.IsListIter it l i) (hl : s.heap.IsList l items) (hx : items[i]? = some x) (hMi : M ≠ it)
    (h : ∀ h', h'.IsListIter it l (i + 1) → Heap.SameBut it s.heap h' → wpAny (model prog w) A.in1 (call f [x]) (fun v s' => Q (some v) s') (fun _ _ => False) { s with heap := h' }) :
    wpAny (model prog w) A (pyNext (.ref M)) Q E s := by
  have hT : s.TypeIs (.ref M) "map" := ⟨_, hm.1, rfl⟩
  unfold pyNext
  refine wpAny_bind (wpAny_attempt (wpAny_callSpecial?_slot (name := Str.ofString "__next__") hT Fm.slot_map_next
    (wpAny_call_entry Fm.slot_map_next hT Fm.entry_map_next
      (map_next_item hm hit hl hx hMi fun h' a b => wpAny_mono (h h' a b) (fun v s' q => wpAny_pure q) fun _ _ q => q.elim) (Fm.args_map_next _))))
theorem map_pyNext_end {M T it l : Addr} {f : Value} {i : Nat} {items : Array Value} {Q : Option Value → Shared → Prop} (hh : A.handled = none) (hm : IsMap s.heap M T it f) (hit : s.heap.IsListIter it l i) (hl : s.heap.IsList l items) (hx : items[i]? = none)
    (hQ : ∀ h', Heap.ExtBut it s.heap h' → Q none { s with heap := h' }) :
    wpAny (model prog w) A (pyNext (.ref M)) Q E s := by
  have hT : s.TypeIs (.ref M) "map" := ⟨_, hm.1, rfl⟩
  obtain ⟨hm1, hm2⟩ := hm
  unfold pyNext
  refine wpAny_bind (wpAny_attempt (wpAny_callSpecial?_slot (name := Str.ofString "__next__") hT Fm.slot_map_next
    (wpAny_call_entry Fm.slot_map_next hT Fm.entry_map_next ?_ (Fm.args_map_next _))))
  show wpAny _ A.in1 (field (.ref M) 0 >>= _) _ _ _
  refine wpAny_bind (wpAny_field hm1 rfl (x := .ref T) rfl ?_)
  show wpAny _ A.in1 (seqItems? (.ref T) >>= _) _ _ _
  refine wpAny_bind (wpAny_seqItems hm2 rfl ?_)
  dsimp only
  rw [← Array.forIn_toList]
  simp only [List.forIn_cons, List.forIn_nil]
  refine wpAny_bind (wpAny_bind (wpAny_bind (wpAny_holding (wpAny_nextOf_list_end (A := A.in1) hh hit hl hx fun h' e he hx' => ?_))))
  obtain ⟨o, ho, hc⟩ := hx'
  refine wpAny_bind (wpAny_isInstance (T := "StopIteration") (b := true) ⟨o, ho, hc⟩ isSubtype_stop ?_)
  exact wpAny_pure (hQ _ he)
end
end Mine
end
section
open PySem PySem.W PyProof.Rows PySem.Calls PySem.SeqAt
open PySem.AutoSeq1 (wpAny_loadPart')
set_option Elab.async false
set_option linter.unusedVariables false
set_option maxRecDepth 100000
namespace Mine
section
variable {B : Base} {A : Around} {E : Value → Shared → Prop}

/-- the state amid `tuple(map(f, l))` -/
structure Amid (B : Base) (s₀ : Shared) (G₀ : View) (M T it l : Addr) (f : Value) (items : Array Value) (rs : List AV) (i : Nat) (s : Shared) (G : View) (acc : List Value) : Prop where
  up : Up s₀ s G₀ G
  map : IsMap s.heap M T it f
  iter : s.heap.IsListIter it l i
  got : VRels G acc (rs.take i)
  gM : G M = none
  gT : G T = none
  gi : G it = none

structure MapCtx (B : Base) (s₀ : Shared) (G₀ : View) (M T it l : Addr) (f : Value) (items : Array Value) (xs rs : List AV) : Prop where
  tp : Tp B s₀.heap
  on : G₀.on s₀.heap
  tk : 1 ≤ s₀.toks
  list : ∃ n, G₀ l = some { cls := .type "list", data := .seq items n }
  rel : VRels G₀ items.toList xs
  len : xs.length = rs.length
  hM : s₀.heap.objs.size ≤ M
  hT : s₀.heap.objs.size ≤ T
  hi : s₀.heap.objs.size ≤ it
  hMi : M ≠ it
  hTi : T ≠ it
  fn : ∀ (i : Nat) (a r : AV), xs[i]? = some a → rs[i]? = some r → Fn B f 1 [a] r

theorem amid_turn {s₀ : Shared} {G₀ : View} {M T it l : Addr} {f : Value} {items : Array Value} {xs rs : List AV} (C : MapCtx B s₀ G₀ M T it l f items xs rs) (hh : A.handled = none) (hd : A.depth + 1 < recursionLimit) (hu : A.units + 211 < cLine) (hf : FramesOk A G₀ s₀.heap)
    {i : Nat} {s : Shared} {G : View} {acc : List Value} (hi : i < xs.length) (J : Amid B s₀ G₀ M T it l f items rs i s G acc) {S : Addr} {o : Obj} (hS : s.heap.get? S = some o) (hSd : ∀ es n, o.data ≠ .dict es n) (gS : G S = none) (hSM : S ≠ it) {Q : Option Value → Shared → Prop}
    (k : ∀ v s' G', Amid B s₀ G₀ M T it l f items rs (i + 1) s' G' (acc ++ [v]) → s'.heap.get? S = some o → G' S = none → Q (some v) s') : wpAny (model B.prog B.w) A (pyNext (.ref M)) Q E s := by
  obtain ⟨n, gl⟩ := C.list
  have hlen := VRels.length_eq C.rel
  obtain ⟨a, ha⟩ : ∃ a, xs[i]? = some a := ⟨xs[i], by simp [hi]⟩
  obtain ⟨r, hr⟩ : ∃ r, rs[i]? = some r := ⟨rs[i]'(by rw [← C.len]; exact hi), by simp⟩
  obtain ⟨v, hv, rv⟩ := VRels.get C.rel ha
  have hl : s.heap.IsList l items := ⟨_, J.up.on _ _ (J.up.le _ _ gl), rfl, n, rfl⟩
  refine map_pyNext_item J.map J.iter hl (by simpa using hv) C.hMi fun h1 hit1 hs1 => ?_
  have k1 : ∀ b o, b ≠ it → s.heap.get? b = some o → h1.get? b = some o := fun b o hb e => (hs1.2 b hb).trans e
  have n1 : Near s₀.heap h1 := near_but J.up.keep k1 C.hi
  have on1 : G.on h1 := fun b o e => k1 b o (fun q => by rw [q, J.gi] at e; cases e) (J.up.on b o e)
  have sz1 : s.heap.objs.size = h1.objs.size := hs1.1.symm
  have ltM := Heap.lt_size J.map.1
  have ltT := Heap.lt_size J.map.2
  obtain ⟨oi, hoi, hoc, hod⟩ := hit1
  have lti := Heap.lt_size hoi
  have ltS := Heap.lt_size hS
  refine wp_tk (C.fn i a r ha hr A.in1 G { s with heap := h1 } [v] _ _ hh hd (by show A.units + 1 + 8 * 1 + 200 < _; omega) (C.tp.keeps n1 (by show _ ≤ h1.objs.size; rw [← sz1]; exact J.up.size)) ((hf.near n1 J.up.new).like rfl) (Nat.le_trans C.tk J.up.tk) on1 (.cons (VRel.le J.up.le rv) .nil) fun v2 s2 G2 u2 r2 tk2 => ?_)
  have mute2 : s2.heap.get? it = some oi := u2.keep.at_ hoi fun es n q => by rw [hod] at q; cases q
  have uu : Up s₀ s2 G₀ G2 := ⟨⟨n1.trans u2.keep, Nat.le_trans J.up.size (by rw [sz1]; exact u2.size), u2.gens.trans J.up.gens, u2.os.trans J.up.os, View.le_trans J.up.le u2.le, u2.on, fun b o e => by
      rcases u2.new b o e with h' | h'
      · obtain ⟨o', ho'⟩ := Option.isSome_iff_exists.mp h'
        exact J.up.new b o' ho'
      · exact .inr (Nat.le_trans J.up.size (by rw [sz1]; exact h'))⟩, Nat.le_trans J.up.tk u2.tk⟩
  refine k v2 s2 G2 ⟨uu, ⟨u2.keep.at_ (k1 _ _ C.hMi J.map.1) (fun es n q => by cases q), u2.keep.at_ (k1 _ _ C.hTi J.map.2) (fun es n q => by cases q)⟩, ⟨oi, mute2, hoc, hod⟩, ?_, u2.toUp0.still J.gM (by show M < h1.objs.size; rw [← sz1]; exact ltM), u2.toUp0.still J.gT (by show T < h1.objs.size; rw [← sz1]; exact ltT), u2.toUp0.still J.gi lti⟩
    (u2.keep.at_ (k1 _ _ hSM hS) hSd) (u2.toUp0.still gS (by show S < h1.objs.size; rw [← sz1]; exact ltS))
  rw [List.take_succ_eq_append_getElem (by rw [← C.len]; exact hi)]
  refine vrels_snoc (VRels.le u2.le J.got) ?_
  have : rs[i]'(by rw [← C.len]; exact hi) = r := by
    have := List.getElem?_eq_getElem (l := rs) (i := i) (by rw [← C.len]; exact hi)
    rw [hr] at this
    exact (Option.some.inj this).symm
  rw [this]; exact r2

theorem amid_end {s₀ : Shared} {G₀ : View} {M T it l : Addr} {f : Value} {items : Array Value} {xs rs : List AV} (C : MapCtx B s₀ G₀ M T it l f items xs rs) (hh : A.handled = none)
    {s : Shared} {G : View} {acc : List Value} (J : Amid B s₀ G₀ M T it l f items rs xs.length s G acc) {S : Addr} {o : Obj} (hS : s.heap.get? S = some o) (hSM : S ≠ it) {Q : Option Value → Shared → Prop}
    (k : ∀ h', Near s₀.heap h' → G.on h' → h'.get? S = some o → Q none { s with heap := h' }) : wpAny (model B.prog B.w) A (pyNext (.ref M)) Q E s := by
  obtain ⟨n, gl⟩ := C.list
  have hlen := VRels.length_eq C.rel
  have hl : s.heap.IsList l items := ⟨_, J.up.on _ _ (J.up.le _ _ gl), rfl, n, rfl⟩
  refine map_pyNext_end hh J.map J.iter hl (by simp; simp at hlen; omega) fun h1 he => ?_
  exact k h1 (near_but J.up.keep (fun b o hb e => he b o hb e) C.hi) (fun b o e => he b o (fun q => by rw [q, J.gi] at e; cases e) (J.up.on b o e)) (he _ _ hSM hS)

theorem Amid.heap {s₀ : Shared} {G₀ : View} {M T it l : Addr} {f : Value} {items : Array Value} {rs : List AV} {i : Nat} {s : Shared} {G : View} {acc : List Value} (J : Amid B s₀ G₀ M T it l f items rs i s G acc) {S : Addr} {h' : Heap}
    (hk : ∀ b o, b ≠ S → s.heap.get? b = some o → h'.get? b = some o) (hs : s.heap.objs.size ≤ h'.objs.size) (h0 : s₀.heap.objs.size ≤ S) (gS : G S = none) (hM : S ≠ M) (hT : S ≠ T) (hi : S ≠ it) : Amid B s₀ G₀ M T it l f items rs i { s with heap := h' } G acc :=
  ⟨⟨⟨near_but J.up.keep hk h0, Nat.le_trans J.up.size hs, J.up.gens, J.up.os, J.up.le, fun b o e => hk b o (fun q => by rw [q, gS] at e; cases e) (J.up.on b o e), J.up.new⟩, J.up.tk⟩,
    ⟨hk _ _ (Ne.symm hM) J.map.1, hk _ _ (Ne.symm hT) J.map.2⟩, J.iter.at fun o e => hk _ _ (Ne.symm hi) e, J.got, J.gM, J.gT, J.gi⟩

theorem amid_loop {s₀ : Shared} {G₀ : View} {M T it l : Addr} {f : Value} {items : Array Value} {xs rs : List AV} (C : MapCtx B s₀ G₀ M T it l f items xs rs) (hh : A.handled = none) (hd : A.depth + 1 < recursionLimit) (hu : A.units + 215 < cLine) (hf : FramesOk A G₀ s₀.heap)
    (hn : xs.length ≤ sizeLine) {S : Addr} (h0 : s₀.heap.objs.size ≤ S) (hM : S ≠ M) (hT : S ≠ T) (hi : S ≠ it) (res : Value) {R : Result → Shared → Prop} : ∀ (k i : Nat) (s : Shared) (G : View) (acc : List Value) (c : Nat), xs.length - i = k → i ≤ xs.length → Amid B s₀ G₀ M T it l f items rs i s G acc → G S = none →
      s.heap.get? S = some { cls := .type "list", data := .seq acc.toArray c } →
      (∀ acc' c' s' G', Up s₀ s' G₀ G' → G' S = none → s'.heap.get? S = some { cls := .type "list", data := .seq (List.toArray acc') c' } → VRels G' acc' rs → R (.ok (.ret res)) s') →
      codeAny (model B.prog B.w) A (.builtin "list.extend.loop" ⟨[.ref S, .ref M, res], []⟩) R s := by
  intro k
  induction k with
  | zero =>
    intro i s G acc c hk hi' J gS hS hR
    obtain rfl : i = xs.length := by omega
    refine codeAny_builtin F.entry_extend_loop ?_
    rw [Around.under_plainId F.plain_extend_loop _]
    show wpAny _ A.in1 (pyNext (.ref M) >>= _) _ _ s
    refine wpAny_bind (amid_end (A := A.in1) C hh J hS hi fun h' n1 o1 hS' => wpAny_pure (hR acc c { s with heap := h' } G ⟨⟨n1, ?_, J.up.gens, J.up.os, J.up.le, o1, J.up.new⟩, J.up.tk⟩ gS hS' ?_))
    · exact Nat.le_trans h0 (Nat.le_of_lt (Heap.lt_size hS'))
    · have := J.got
      rwa [List.take_of_length_le (by rw [C.len]; exact Nat.le_refl _)] at this
  | succ k ih =>
    intro i s G acc c hk hi' J gS hS hR
    have hlt : i < xs.length := by omega
    refine codeAny_builtin F.entry_extend_loop ?_
    rw [Around.under_plainId F.plain_extend_loop _]
    show wpAny _ A.in1 (pyNext (.ref M) >>= _) _ _ s
    refine wpAny_bind (amid_turn (A := A.in1) C hh hd (by show A.units + 1 + 211 < _; omega) (hf.like rfl) hlt J hS (fun es n q => by cases q) gS hi fun v s1 G1 J1 hS1 gS1 => ?_)
    have hlen : acc.length ≤ i := by
      have h1 := VRels.length_eq J.got
      rw [h1, List.length_take]; exact Nat.min_le_left _ _
    show wpAny _ A.in1 (updateSeq S (·.push v) >>= _) _ _ _
    refine wpAny_bind (wpAny_updateSeq hS1 rfl (wpAny_pure ⟨plainId_quiet F.plain_extend_loop _, ih (i + 1) _ G1 (acc ++ [v]) (c + 1) (by omega) hlt (J1.heap (fun b o hb e => (Heap.get?_update_other _ _ (Ne.symm hb)).trans e) (by rw [Heap.size_after_update]; exact Nat.le_refl _) h0 gS1 hM hT hi) gS1 ?_ hR⟩) (by simp only [List.size_toArray]; omega) (by simp only [Array.size_push, List.size_toArray]; omega))
    rw [Heap.get?_update_self _ hS1 rfl, Obj.mapSeq_push_plain]
    simp

theorem pyIter_map {M T it : Addr} {f : Value} {s : Shared} {Q : Value → Shared → Prop} (hm : IsMap s.heap M T it f) (h : Q (.ref M) s) : wpAny (model B.prog B.w) A (pyIter (.ref M)) Q E s := by
  have hT : s.TypeIs (.ref M) "map" := ⟨_, hm.1, rfl⟩
  refine wpAny_pyIter_slot hT Fm.slot_map_iter (wpAny_call_entry Fm.slot_map_iter hT Fm.entry_map_iter ?_ (Fm.args_map_iter _))
  show wpAny _ _ (ret (.ref M)) _ _ s
  exact wpAny_pure ⟨_, rfl, "map", _, hT, Fm.slot_map_next.lookup, h⟩

theorem collect_map {s₀ : Shared} {G₀ : View} {M T it l : Addr} {f : Value} {items : Array Value} {xs rs : List AV} (C : MapCtx B s₀ G₀ M T it l f items xs rs) (hh : A.handled = none) (hd : A.depth + 1 < recursionLimit) (hu : A.units + 215 < cLine) (hf : FramesOk A G₀ s₀.heap)
    (hn : xs.length ≤ sizeLine) {s : Shared} {G : View} (J : Amid B s₀ G₀ M T it l f items rs 0 s G []) {Q : List Value → Shared → Prop}
    (hQ : ∀ acc s' G', Up s₀ s' G₀ G' → VRels G' acc rs → Q acc s') : wpAny (model B.prog B.w) A (collect (.ref M)) Q E s := by
  have hSM : s.heap.objs.size ≠ M := Ne.symm (Nat.ne_of_lt (Heap.lt_size J.map.1))
  have hST : s.heap.objs.size ≠ T := Ne.symm (Nat.ne_of_lt (Heap.lt_size J.map.2))
  have hSi : s.heap.objs.size ≠ it := by
    obtain ⟨oi, hoi, _⟩ := J.iter
    exact Ne.symm (Nat.ne_of_lt (Heap.lt_size hoi))
  have gS : G s.heap.objs.size = none := View.on_low J.up.on (Nat.le_refl _)
  have h0 := J.up.size
  unfold collect
  refine wpAny_bind (wpAny_runValue (codeAny_builtin F.entry_proto_collect ?_))
  rw [Around.under_plainId F.plain_proto_collect _]
  show wpAny _ A.in1 (newList [] >>= fun l => again (.builtin "list.__iadd__" ⟨[l, .ref M], []⟩)) _ _ s
  refine wpAny_bind (wpAny_newObj_type ?_)
  refine wpAny_pure ⟨plainId_quiet F.plain_list_iadd _, codeAny_builtin F.entry_list_iadd ?_⟩
  rw [Around.under_plainId F.plain_list_iadd _]
  have hS₁ : (s.heap.push { cls := .type "list", data := .seq ([] : List Value).toArray }).get? s.heap.objs.size = some { cls := .type "list", data := .seq ([] : List Value).toArray } := Heap.get?_push_size _ rfl
  have J₁ := J.heap (h' := s.heap.push { cls := .type "list", data := .seq ([] : List Value).toArray }) (S := s.heap.objs.size) (fun b o _ e => Heap.get?_push_of_some _ e) (by rw [Heap.size_push]; exact Nat.le_succ _) h0 gS hSM hST hSi
  have hT₁ : Shared.TypeIs { s with heap := s.heap.push { cls := .type "list", data := .seq ([] : List Value).toArray } } (.ref M) "map" := ⟨_, J₁.map.1, rfl⟩
  show wpAny _ A.in1 (Builtin.List.listExtendWith (.ref s.heap.objs.size) (.ref M) (.ref s.heap.objs.size)) _ _ _
  unfold Builtin.List.listExtendWith
  refine wpAny_bind (wpAny_typeOf hT₁ ?_)
  have h1 : Builtin.List.listSameRef (.ref s.heap.objs.size) (.ref M) = false := by simp [Builtin.List.listSameRef, hSM]
  have h2 : (Value.type "map" == Value.type "list") = false := by decide
  have h3 : (Value.type "map" == Value.type "tuple") = false := by decide
  simp only [h1, h2, h3, Bool.or_false, Bool.false_eq_true, if_false]
  refine wpAny_bind (pyIter_map (A := A.in1) J₁.map ?_)
  refine wpAny_bind (wpAny_holding ?_)
  unfold Builtin.List.listLengthHint
  refine wpAny_bind (wpAny_specialOf hT₁ Fm.nolen_map ?_)
  show wpAny _ A.in1 (specialOf (Value.ref M) (Str.ofString "__length_hint__") >>= _) _ _ _
  refine wpAny_bind (wpAny_specialOf hT₁ Fm.nohint_map ?_)
  refine wpAny_pure ?_
  show wpAny _ A.in1 (rule "list.extend.makes-room" >>= fun _ => Builtin.List.listTouch (.ref s.heap.objs.size) >>= fun _ =>
    again (.builtin "list.extend.loop" ⟨[.ref s.heap.objs.size, .ref M, .ref s.heap.objs.size], []⟩)) _ _ _
  refine wpAny_bind (wpAny_rule (wpAny_bind ?_))
  show wpAny _ A.in1 (updateSeq s.heap.objs.size (·.push .none) >>= fun _ => updateSeq s.heap.objs.size (·.pop)) _ _ _
  refine wpAny_bind (wpAny_updateSeq hS₁ rfl ?_)
  have hS₂ := Heap.get?_update_self (Obj.mapSeq (·.push Value.none)) hS₁ rfl
  refine wpAny_updateSeq hS₂ rfl ?_
  have hS₃ := Heap.get?_update_self (Obj.mapSeq (·.pop)) hS₂ rfl
  have J₃ := J₁.heap (h' := ((s.heap.push { cls := .type "list", data := .seq ([] : List Value).toArray }).update s.heap.objs.size (Obj.mapSeq (·.push Value.none))).update s.heap.objs.size (Obj.mapSeq (·.pop))) (S := s.heap.objs.size)
    (fun b o hb e => (Heap.get?_update_other _ _ (Ne.symm hb)).trans ((Heap.get?_update_other _ _ (Ne.symm hb)).trans e)) (by rw [Heap.size_after_update, Heap.size_after_update]; exact Nat.le_refl _) h0 gS hSM hST hSi
  refine wpAny_pure ⟨plainId_quiet F.plain_extend_loop _, amid_loop C hh hd hu hf hn h0 hSM hST hSi _ _ 0 _ G [] _ rfl (Nat.zero_le _) J₃ gS hS₃ fun acc' c' s' G' u' gS' hS' hv => ?_⟩
  show wpAny _ A (load s.heap.objs.size >>= _) _ _ s'
  refine wpAny_bind (wpAny_load hS' ?_)
  exact wpAny_pure (by simpa using hQ acc' s' G' u' hv)
end
end Mine
end
section
open PySem PySem.W PyProof.Rows PySem.Calls PySem.SeqAt
open PySem.AutoSeq1 (wpAny_loadPart')
set_option Elab.async false
set_option linter.unusedVariables false
set_option maxRecDepth 100000
namespace Mine
section
variable {B : Base} {sc : Scope} {N : List Str} {X : FI B sc N} {σ : List Bnd} {A : Around} {E : Value → Shared → Prop}
theorem code_tuple_new_map {s₀ : Shared} {G₀ : View} {M T it l : Addr} {f : Value} {items : Array Value} {xs rs : List AV} (C : MapCtx B s₀ G₀ M T it l f items xs rs) (hh : A.handled = none) (hd : A.depth + 1 < recursionLimit) (hu : A.units + 220 < cLine) (hf : FramesOk A G₀ s₀.heap)
    (hn : xs.length ≤ sizeLine) {s : Shared} {G : View} (J : Amid B s₀ G₀ M T it l f items rs 0 s G []) {Q₁ : Value → Shared → Prop}
    (h : ∀ acc s' G', Up s₀ s' G₀ G' → VRels G' acc rs → Q₁ (.ref s'.heap.objs.size) { s' with heap := s'.heap.push { cls := .type "tuple", data := .seq acc.toArray } }) :
    codeAny (model B.prog B.w) A (.call (.builtin "tuple.__new__") ⟨[.type "tuple", .ref M], []⟩) (wants Q₁ E) s := by
  refine codeAny_of_tree ?_
  show wpAny _ A.in1 (do checkBuiltinCall "tuple.__new__" ⟨[.type "tuple", .ref M], []⟩; again (.builtin "tuple.__new__" ⟨[.type "tuple", .ref M], []⟩)) _ _ s
  refine wpAny_bind (wpAny_of_eq (F.newCall_tuple_1 _) (wpAny_pure ⟨plainId_quiet F.plain_tuple_new _, codeAny_builtin F.entry_tuple_new ?_⟩))
  rw [Around.under_plainId F.plain_tuple_new _]
  have hsub := sub_tuple_self
  have hinit := init_tuple_lookup
  have hmh := madeHere_tuple
  have hTI : s.TypeIs (.ref M) "map" := ⟨_, J.map.1, rfl⟩
  have hc : ∀ {Q : List Value → Shared → Prop} {E : Value → Shared → Prop}, (∀ acc s' G', Up s₀ s' G₀ G' → VRels G' acc rs → Q acc s') → wpAny (model B.prog B.w) A.in1 (collect (.ref M)) Q E s := fun hQ => collect_map (A := A.in1) C hh hd (by show A.units + 1 + 215 < _; omega) (hf.like rfl) hn J hQ
  wp_walk using wpAny_typeOf hTI, hc
  intro acc s' G' u hv
  show wpAny _ _ (Builtin.Tuple.tupleExact acc.toArray >>= fun v => ret v) _ _ _
  unfold Builtin.Tuple.tupleExact
  refine wpAny_bind (wpAny_newObj_type ?_ (by show acc.toArray.size ≤ sizeLine; simp only [List.size_toArray]; rw [VRels.length_eq hv, ← C.len]; exact hn))
  exact wpAny_pure (h acc s' G' u hv)

theorem call_tuple_map {s₀ : Shared} {G₀ : View} {M T it l : Addr} {f : Value} {items : Array Value} {xs rs : List AV} (C : MapCtx B s₀ G₀ M T it l f items xs rs) (hh : A.handled = none) (hd : A.depth + 1 < recursionLimit) (hu : A.units + 226 < cLine) (hf : FramesOk A G₀ s₀.heap)
    (hn : xs.length ≤ sizeLine) {s : Shared} {G : View} (J : Amid B s₀ G₀ M T it l f items rs 0 s G []) {Q : Value → Shared → Prop}
    (h : ∀ v s' G', Up s₀ s' G₀ G' → VRel G' v (.tup rs) → Q v s') : wpAny (model B.prog B.w) A (call (.type "tuple") [.ref M]) Q E s := by
  refine callType_codes (Q₁ := fun obj s₁ => s₁.TypeIs obj "tuple" ∧ Q obj s₁) F.called_tuple (F.typeCall_tuple_1 _) F.entry_object_init
    (code_tuple_new_map (A := A.in1) C hh hd (by show A.units + 1 + 220 < _; omega) (hf.like rfl) hn J fun acc s' G' u hv => ⟨⟨_, Heap.get?_push_size _ rfl, rfl⟩, ?_⟩) fun obj s₁ h₁ => ?_
  · exact h _ _ _ (u.push _ rfl) (.tup (View.add_self _ _ _) (VRels.le (View.le_add _ (View.on_low u.on (Nat.le_refl _))) hv))
  · exact ⟨h₁.1, F.args_object_init_2 obj _, object_init_meets F.called_tuple.init.lookup F.called_tuple.made (by decide) B.prog B.w A.in1 _ s₁ ⟨h₁.1, rfl, h₁.2⟩⟩

theorem ex_tuplemap {tn mn fnm : Str} {p1 p2 p3 pos1 pos2 : Pos} {e : Expr} {f : Addr} {xs rs : List AV} (ht : Ex X σ (.Name tn p1) (.raw (.type "tuple"))) (hm : Ex X σ (.Name mn p2) (.raw (.type "map"))) (hfe : Ex X σ (.Name fnm p3) (.raw (.ref f))) (he : Ex X σ e (.list xs))
    (hfn : ∀ (i : Nat) (a r : AV), xs[i]? = some a → rs[i]? = some r → Fn B (.ref f) 1 [a] r) (hlen : xs.length = rs.length) (hn : xs.length ≤ sizeLine) (hl : 4 ≤ X.lvl) (hst : notStar e = true := by rfl) :
    Ex X σ (.Call (.Name tn p1) [.Call (.Name mn p2) [.Name fnm p3, e] [] pos2] [] pos1) (.tup rs) := .mk fun G s Q E Sa kk => by
  refine wpAny_Call_NameR (ht.run G s _ E Sa fun v1 s1 G1 u1 r1 => ?_)
  cases r1
  have hse : backTo pos1 (starEach [.Call (.Name mn p2) [.Name fnm p3, e] [] pos2] X.env) = [(false, eval (.Call (.Name mn p2) [.Name fnm p3, e] [] pos2) X.env)] := rfl
  rw [hse]
  refine PySem.callWith_type rfl (Calls.evalArgs_plain (Calls.spliced_cons ?_))
  refine wpAny_Call_NameR (hm.run G1 s1 _ E (Sa.upd u1) fun v2 s2 G2 u2 r2 => ?_)
  cases r2
  have hse2 : backTo pos2 (starEach [.Name fnm p3, e] X.env) = [(false, eval (.Name fnm p3) X.env), (false, eval e X.env)] := by rw [starEach_cons rfl, starEach_cons hst]; rfl
  rw [hse2]
  have S2 := (Sa.upd u1).upd u2
  refine PySem.callWith_type rfl (Calls.evalArgs_plain (Calls.spliced_cons (hfe.run G2 s2 _ E S2 fun v3 s3 G3 u3 r3 => Calls.spliced_cons (he.run G3 s3 _ E (S2.upd u3) fun v4 s4 G4 u4 r4 => Calls.spliced_nil ?_))))
  cases r3
  cases r4 with
  | list g rv =>
    rename_i l n vs
    have S4 := (S2.upd u3).upd u4
    show wpAny _ X.A (call (.type "map") [.ref f, .ref l]) _ E s4
    have S4' := S4
    have hz1 : (s4.heap.push { cls := .type "list_iterator", data := .fields #[.ref l, .int 0 0] }).objs.size = s4.heap.objs.size + 1 := Heap.size_push ..
    have hz2 : ((s4.heap.push { cls := .type "list_iterator", data := .fields #[.ref l, .int 0 0] }).push { cls := .type "tuple", data := .seq #[.ref s4.heap.objs.size] }).objs.size = s4.heap.objs.size + 2 := by rw [Heap.size_push, hz1]
    have gM : (((s4.heap.push { cls := .type "list_iterator", data := .fields #[.ref l, .int 0 0] }).push { cls := .type "tuple", data := .seq #[.ref s4.heap.objs.size] }).push { cls := .type "map", data := .fields #[.ref (s4.heap.objs.size + 1), .ref f] }).get? (s4.heap.objs.size + 2) = some { cls := .type "map", data := .fields #[.ref (s4.heap.objs.size + 1), .ref f] } := by
      rw [← hz2]; exact Heap.get?_push_size _ rfl
    have gT : (((s4.heap.push { cls := .type "list_iterator", data := .fields #[.ref l, .int 0 0] }).push { cls := .type "tuple", data := .seq #[.ref s4.heap.objs.size] }).push { cls := .type "map", data := .fields #[.ref (s4.heap.objs.size + 1), .ref f] }).get? (s4.heap.objs.size + 1) = some { cls := .type "tuple", data := .seq #[.ref s4.heap.objs.size] } := by
      rw [← hz1]; exact Heap.get?_push_of_some _ (Heap.get?_push_size _ rfl)
    refine callType_new Fm.called_map (by decide) (Fm.typeCall_map_2 _ _) (Fm.newCall_map_2 _ _) (fun obj => F.args_object_init_3 obj _ _) Fm.entry_map_new (meets_map_new (.ref f) l vs.toArray n) ⟨u4.on _ _ g, ?_⟩
    show _ ∧ _
    refine ⟨⟨_, gM, rfl⟩, Calls.spliced_nil ?_⟩
    have C : MapCtx B s4 G4 (s4.heap.objs.size + 2) (s4.heap.objs.size + 1) s4.heap.objs.size l (.ref f) vs.toArray xs rs :=
      ⟨S4.top, u4.on, S4.tk, ⟨n, g⟩, by simpa using rv, hlen, Nat.le_add_right _ _, Nat.le_add_right _ _, Nat.le_refl _, Ne.symm (Nat.ne_of_lt (by omega)), Nat.succ_ne_self _, hfn⟩
    have up4 : Up s4 { s4 with heap := ((s4.heap.push { cls := .type "list_iterator", data := .fields #[.ref l, .int 0 0] }).push { cls := .type "tuple", data := .seq #[.ref s4.heap.objs.size] }).push { cls := .type "map", data := .fields #[.ref (s4.heap.objs.size + 1), .ref f] } } G4 G4 := ⟨(((Up0.refl u4.on).pushOut _).pushOut _).pushOut _, Nat.le_refl _⟩
    have J : Amid B s4 G4 (s4.heap.objs.size + 2) (s4.heap.objs.size + 1) s4.heap.objs.size l (.ref f) vs.toArray rs 0 { s4 with heap := ((s4.heap.push { cls := .type "list_iterator", data := .fields #[.ref l, .int 0 0] }).push { cls := .type "tuple", data := .seq #[.ref s4.heap.objs.size] }).push { cls := .type "map", data := .fields #[.ref (s4.heap.objs.size + 1), .ref f] } } G4 [] :=
      ⟨up4, ⟨gM, gT⟩, ⟨_, Heap.get?_push_of_some _ (Heap.get?_push_of_some _ (Heap.get?_push_size _ rfl)), rfl, rfl⟩, by rw [List.take_zero]; exact .nil, View.on_low u4.on (Nat.le_add_right _ _), View.on_low u4.on (Nat.le_add_right _ _), View.on_low u4.on (Nat.le_refl _)⟩
    exact call_tuple_map C X.hh (by have := X.hd; omega) (by have := X.hu; omega) S4.frames hn J fun v s' G' u' r' => kk v s' G' (((u1.trans u2).trans (u3.trans u4)).trans u') r'
end
end Mine
end
section
open PySem PySem.W PyProof.Rows PySem.Calls PySem.SeqAt
open PySem.AutoSeq1 (wpAny_loadPart')
set_option Elab.async false
set_option linter.unusedVariables false
set_option maxRecDepth 100000
namespace Mine
section
variable {B : Base} {sc : Scope} {N : List Str} {X : FI B sc N} {σ : List Bnd} {A : Around} {E : Value → Shared → Prop}
theorem fn_isi_str {x : List Nat} : FnIn X (.builtin "isinstance") [.str x, .tup [.raw (.type "list"), .raw (.type "tuple")]] (.bool false) := fun G s vs Q E T fr ht hG rv kk => by
  obtain ⟨_, _, rfl, r1, r2⟩ := rv.twoI
  obtain ⟨y, t, rfl, rfl⟩ := r1.strI
  obtain ⟨a, ws, rfl, g, rs⟩ := r2.tupI
  obtain ⟨_, _, rfl, q1, q2⟩ := rs.twoI
  obtain rfl := q1.rawI
  obtain rfl := q2.rawI
  have ha : AnswersAll (fun s => s.TypeIs (.str y t) "str") (.str y t) [.type "list", .type "tuple"] [false, false] := by pv_isi_answers
  exact call_isinstance (isinstance_tuple ha) ⟨typeIs_str _ _ _, hG _ _ g, fun tk => kk _ _ G (Up0.ofTok hG _) (.bool _)⟩
theorem fn_isi_list {xs : List AV} : FnIn X (.builtin "isinstance") [.list xs, .tup [.raw (.type "list"), .raw (.type "tuple")]] (.bool true) := fun G s vs Q E T fr ht hG rv kk => by
  obtain ⟨_, _, rfl, r1, r2⟩ := rv.twoI
  obtain ⟨a1, n1, vs1, rfl, g1, rs1⟩ := r1.listI
  obtain ⟨a, ws, rfl, g, rs⟩ := r2.tupI
  obtain ⟨_, _, rfl, q1, q2⟩ := rs.twoI
  obtain rfl := q1.rawI
  obtain rfl := q2.rawI
  have ha : AnswersAll (fun s => s.TypeIs (.ref a1) "list") (.ref a1) [.type "list", .type "tuple"] [true, false] := by pv_isi_answers
  exact call_isinstance (isinstance_tuple ha) ⟨⟨_, hG _ _ g1, rfl⟩, hG _ _ g, fun tk => kk _ _ G (Up0.ofTok hG _) (.bool _)⟩
theorem all_range : ∀ (bs : List Bool), (List.range bs.length).all (fun i => (bs[i]?).getD true) = bs.all id
  | [] => rfl
  | b :: r => by
    rw [List.length_cons, List.range_succ_eq_map, List.all_cons, List.all_cons, List.all_map, ← all_range r]
    rfl
theorem fn_all {bs : List Bool} : FnIn X (.builtin "all") [.list (bs.map .bool)] (.bool (bs.all id)) := fun G s vs Q E T fr ht hG rv kk => by
  obtain ⟨_, rfl, r1⟩ := rv.oneI
  obtain ⟨a, n, vs, rfl, g, rs⟩ := r1.listI
  have hlen := VRels.length_eq rs
  have hne : a ≠ s.heap.objs.size := Nat.ne_of_lt (Heap.lt_size (hG _ _ g))
  refine wp_sz (call_all_walk (wpAny_pyIter_list (items := vs.toArray) ⟨_, hG _ _ g, rfl, n, rfl⟩ ?_))
  refine ⟨_, [s.heap.objs.size, a], [s.heap.objs.size], vs.toArray.size, _, _, fun i => (bs[i]?).getD true, rfl, Walks.list (A := X.A.in1) X.hh _ a hne vs.toArray, ⟨⟨_, Heap.get?_push_size _ rfl, rfl, rfl⟩, ⟨_, Heap.get?_push_of_some _ (hG _ _ g), rfl, n, rfl⟩⟩, fun i v s' Q' E' hv hq => ?_, fun h' tk k => ?_⟩
  · have hi : i < bs.length := by
      have h1 := (Array.getElem?_eq_some_iff.mp hv).1
      simp at h1 hlen; omega
    obtain ⟨v', hv', hr⟩ := VRels.get rs (i := i) (x := .bool bs[i]) (by simp [hi])
    simp only [List.getElem?_toArray] at hv
    rw [hv] at hv'; cases hv'
    cases hr
    exact wpAny_truthy_bool (by simpa [hi] using hq)
  · have e : vs.toArray.size = bs.length := by simpa using hlen
    rw [e, all_range]
    exact fun hs => kk _ _ G (wp_wr hG k hs) (.bool _)
theorem cmp_isnot_bool {a b : Bool} : Cmp B A .IsNot (.bool a) (.bool b) (a != b) := fun G s va vb Q E hG ra rb kk => by
  cases ra; cases rb
  cases a <;> cases b <;> exact wpAny_pure (kk s G (Up0.refl hG))
end
end Mine
end
section
open PySem PySem.W PyProof.Rows PySem.Calls PySem.SeqAt
set_option Elab.async false
set_option linter.unusedVariables false
set_option maxRecDepth 100000
namespace Mine
section
variable {B : Base} {sc : Scope} {N : List Str} {X : FI B sc N} {σ : List Bnd} {A : Around} {E : Value → Shared → Prop}
inductive CP : List (Option Expr) → List Expr → List (Str × Str) → Prop
  | nil : CP [] [] []
  | cons {x y : Str} {k1 k2 : Nat} {p1 p2 : Pos} {ks : List (Option Expr)} {vs : List Expr} {ps : List (Str × Str)} : CP ks vs ps → CP (some (.Constant (.str x) k1 p1) :: ks) (.Constant (.str y) k2 p2 :: vs) ((x, y) :: ps)
inductive CPairs : List (Value × Value) → List (Str × Str) → Prop
  | nil : CPairs [] []
  | cons {x y : Str} {t u : Tok} {vs : List (Value × Value)} {ps : List (Str × Str)} : CPairs vs ps → CPairs ((.str x t, .str y u) :: vs) ((x, y) :: ps)
theorem CP.shape {keys : List (Option Expr)} {values : List Expr} {ps : List (Str × Str)} (h : CP keys values ps) : keys.all (·.isSome) = true ∧ keys.length = values.length ∧ keys.length = ps.length := by
  induction h with
  | nil => exact ⟨rfl, rfl, rfl⟩
  | cons _ ih => exact ⟨by simpa using ih.1, by simpa using ih.2.1, by simpa using ih.2.2⟩
theorem evalPairs_const {env : Env} {pos : Pos} {keys : List (Option Expr)} {values : List Expr} {ps : List (Str × Str)} (h : CP keys values ps) : ∀ {s : Shared} {Q : List (Value × Value) → Shared → Prop},
    (∀ vs tk, s.toks ≤ tk → CPairs vs ps → Q vs { s with toks := tk }) → wpAny (model B.prog B.w) A (evalPairs (pairTrees keys values env pos)) Q E s := by
  induction h with
  | nil => intro s Q kk; exact pairTrees_nil_walk (kk [] _ (Nat.le_refl _) .nil)
  | cons _ ih =>
    intro s Q kk
    refine pairTrees_cons_walk (wpAny_Constant_str (wpAny_Constant_str (ih fun vs tk htk hc => ?_)))
    exact kk _ tk (by show s.toks ≤ tk; exact Nat.le_trans (Nat.le_trans (Nat.le_succ _) (Nat.le_succ _)) htk) (.cons hc)
theorem merged_distinct {K : Type} [DecidableEq K] : ∀ (more acc : List (K × Value)), (∀ kv ∈ more, ∀ q ∈ acc, q.1 ≠ kv.1) → (more.map (·.1)).Nodup → merged acc more = acc ++ more
  | [], acc, _, _ => by simp [merged]
  | kv :: r, acc, h, hn => by
    have h1 : stored acc kv.1 kv.2 = acc ++ [kv] := by
      unfold stored
      rw [if_neg]
      simp only [List.any_eq_true, not_exists, not_and, decide_eq_true_eq]
      intro q hq
      exact h kv (.head _) q hq
    have h2 := merged_distinct r (acc ++ [kv]) (fun kv' hk q hq => by
      rcases List.mem_append.mp hq with hq | hq
      · exact h kv' (.tail _ hk) q hq
      · rw [List.mem_singleton.mp hq]
        intro e
        have := (List.nodup_cons.mp (by simpa using hn : (kv.1 :: r.map (·.1)).Nodup)).1
        exact this (by rw [e]; exact List.mem_map_of_mem hk)) (List.nodup_cons.mp (by simpa using hn : (kv.1 :: r.map (·.1)).Nodup)).2
    unfold merged at h2 ⊢
    rw [List.foldl_cons, h1, h2, List.append_assoc]; rfl
noncomputable def carried : List (Value × Value) → List (Str × Value)
  | [] => []
  | (.str x _, v) :: r => (x, v) :: carried r
  | _ :: r => carried r
theorem carried_ok {prog : Program} {w : World} : ∀ {vs : List (Value × Value)} {ps : List (Str × Str)}, CPairs vs ps → Carries (strKind prog w) vs (carried vs) ∧ (carried vs).map (·.1) = ps.map (·.1)
  | _, _, .nil => ⟨trivial, rfl⟩
  | _, _, .cons h => by
    obtain ⟨h1, h2⟩ := carried_ok (prog := prog) (w := w) h
    refine ⟨⟨?_, rfl, h1⟩, ?_⟩
    · exact strKind_is prog w _ _
    · show _ :: _ = _ :: _
      rw [h2]
noncomputable abbrev dtx (ps : List (Str × Str)) : List (List Nat × List Nat) := ps.map fun p => (p.1.cps.toList, p.2.cps.toList)
theorem drows_of {prog : Program} {w : World} : ∀ {vs : List (Value × Value)} {ps : List (Str × Str)} {es : List DictEntry}, CPairs vs ps → Pairs (strKind prog w) es (carried vs) → DRows es (dtx ps)
  | _, _, _, .nil, h => by cases h; exact .nil
  | _, _, _, .cons hc, h => by
    cases h with
    | cons h1 h2 h3 =>
      obtain ⟨t, ht⟩ := Value.isStrOf_shape h1
      exact .cons ht h2 (drows_of hc h3)
theorem ex_dict {keys : List (Option Expr)} {values : List Expr} {pos : Pos} {ps : List (Str × Str)} (h : CP keys values ps) (h0 : ps ≠ []) (hn : ps.length ≤ 15) (hd : (ps.map (·.1)).Nodup) : Ex X σ (.Dict keys values pos) (.dict (dtx ps)) := .mk fun G s Q E Sa kk => by
  obtain ⟨h1, h2, h3⟩ := h.shape
  have hbig := Sa.top.big
  refine wpAny_Dict_walk (knd := strKind B.prog B.w) h1 h2 (fun e => h0 (by rw [e] at h3; exact List.length_eq_zero_iff.mp h3.symm)) (by rw [h3]; exact hn) (evalPairs_const h fun vs tk htk hc => ?_)
  obtain ⟨c1, c2⟩ := carried_ok (prog := B.prog) (w := B.w) hc
  have hget : (s.heap.push { cls := .type "dict", data := .dict #[] }).get? s.heap.objs.size = some { cls := .type "dict", data := .dict #[] } := Heap.get?_push_size _ rfl
  refine ⟨carried vs, c1, ⟨_, _, _, hget, ⟨rfl, rfl, rfl⟩, rfl, ?_, .nil, List.nodup_nil⟩, fun h' hdo hsb => ?_⟩
  · intro e he; simp at he
  · rw [merged_distinct _ _ (fun _ _ q hq => by cases hq) (by rw [c2]; exact hd), List.nil_append] at hdo
    obtain ⟨o, es, ep, ho, hx, hdd, _, hp, _⟩ := hdo
    have gn : G s.heap.objs.size = none := View.on_low Sa.on (Nat.le_refl _)
    have kb : ∀ b ob, b ≠ s.heap.objs.size → s.heap.get? b = some ob → h'.get? b = some ob := fun b ob hb e => (hsb.2 b hb).trans (Heap.get?_push_of_some _ e)
    have hsz : s.heap.objs.size ≤ h'.objs.size := by rw [hsb.1]; show _ ≤ (s.heap.push _).objs.size; rw [Heap.size_push]; exact Nat.le_succ _
    have kl : ∀ b ob, s.heap.get? b = some ob → b ≠ s.heap.objs.size := fun b ob e => Nat.ne_of_lt (Heap.lt_size e)
    refine kk _ _ (G.add s.heap.objs.size o) ⟨⟨.of fun b ob e => kb b ob (kl b ob e) e, hsz, rfl, rfl, View.le_add _ gn, fun b ob e => ?_, fun b ob e => ?_⟩, ?_⟩ (.dict ?_ (View.add_self _ _ _) hx hdd (drows_of hc hp))
    · by_cases q : b = s.heap.objs.size
      · subst q; rw [View.add_self] at e; cases e; exact ho
      · rw [View.add_ne _ _ q] at e; exact kb b ob q (Sa.on _ _ e)
    · by_cases q : b = s.heap.objs.size
      · subst q; exact .inr (Nat.le_refl _)
      · rw [View.add_ne _ _ q] at e; exact .inl (by rw [e]; rfl)
    · show s.toks ≤ tk + vs.length
      exact Nat.le_trans htk (Nat.le_add_right _ _)
    · exact beq_eq_false_iff_ne.mpr (Nat.ne_of_gt (Nat.lt_of_lt_of_le (by decide : sysModules < cut) hbig))

noncomputable def look (k : List Nat) : List (List Nat × List Nat) → Option (List Nat)
  | [] => none
  | (x, y) :: r => if x = k then some y else look k r
noncomputable abbrev datOf (ps : List (Str × Str)) : List (Str × KTD.Dat) := ps.map fun p => (p.1, KTD.Dat.flat (.str p.2))
theorem drows_split {es : List DictEntry} {D : List (List Nat × List Nat)} (h : DRows es D) (hp : Heap) : ∃ ps, dtx ps = D ∧ KTD.Rows (KTD.Dat.At hp) es (datOf ps) := by
  induction h with
  | nil => exact ⟨[], rfl, .nil⟩
  | cons hk hv _ ih =>
    rename_i e x y t u es D _
    obtain ⟨ps, h1, h2⟩ := ih
    refine ⟨(x, y) :: ps, by rw [← h1]; rfl, .cons hk ?_ h2⟩
    show KTD.Dat.At hp (KTD.Dat.flat (.str y)) e.val
    rw [hv]
    exact .str y u
theorem str_ext {x y : Str} : x = y ↔ x.cps.toList = y.cps.toList := by
  constructor
  · rintro rfl; rfl
  · intro h
    obtain ⟨a⟩ := x
    obtain ⟨b⟩ := y
    congr 1
    exact Array.toList_inj.mp h
theorem look_at {x : Str} : ∀ (ps : List (Str × Str)), (KTD.datumAt x (datOf ps) = none ∧ look x.cps.toList (dtx ps) = none) ∨ ∃ y : Str, KTD.datumAt x (datOf ps) = some (KTD.Dat.flat (.str y)) ∧ look x.cps.toList (dtx ps) = some y.cps.toList
  | [] => .inl ⟨rfl, rfl⟩
  | (a, b) :: r => by
    show ((if decide (x = a) = true then some (KTD.Dat.flat (.str b)) else KTD.datumAt x (datOf r)) = none ∧ (if a.cps.toList = x.cps.toList then some b.cps.toList else look x.cps.toList (dtx r)) = none) ∨ ∃ y : Str, (if decide (x = a) = true then some (KTD.Dat.flat (.str b)) else KTD.datumAt x (datOf r)) = some (KTD.Dat.flat (.str y)) ∧ (if a.cps.toList = x.cps.toList then some b.cps.toList else look x.cps.toList (dtx r)) = some y.cps.toList
    by_cases h : x = a
    · rw [if_pos (decide_eq_true h), if_pos (by rw [h])]
      exact .inr ⟨b, rfl, rfl⟩
    · rw [if_neg (by simp [h]), if_neg (fun q => h (str_ext.mpr q.symm))]
      exact look_at r
theorem here_of {G : View} {s : Shared} {a : Addr} {D : List (List Nat × List Nat)} (hG : G.on s.heap) (r : VRel G (.ref a) (.dict D)) : ∃ ps, dtx ps = D ∧ KTD.Here s.heap s.heap a (datOf ps) := by
  cases r with
  | dict h1 h2 h3 h4 h5 =>
    obtain ⟨ps, e, hr⟩ := drows_split h5 s.heap
    exact ⟨ps, e, ⟨h1, _, _, _, hG _ _ h2, h3, h4, hr⟩, fun _ _ e => e⟩
theorem cmp_in_dict {x : List Nat} {D : List (List Nat × List Nat)} : Cmp B A .In (.str x) (.dict D) (look x D).isSome := fun G s va vb Q E hG ra rb kk => by
  obtain ⟨x, t, rfl, rfl⟩ := ra.text
  cases rb with
  | dict h1 h2 h3 h4 h5 =>
    obtain ⟨ps, rfl, H⟩ := here_of hG (.dict h1 h2 h3 h4 h5)
    refine KTD.in_text H ?_
    have e : KTD.inKeys x (datOf ps) = (look x.cps.toList (dtx ps)).isSome := by
      rw [← KTD.isSome_datumAt]
      rcases look_at (x := x) ps with ⟨h1, h2⟩ | ⟨y, h1, h2⟩ <;> rw [h1, h2] <;> rfl
    rw [e]
    exact kk _ G (Up0.ofTok hG _)
theorem itm_dict {x y : List Nat} {D : List (List Nat × List Nat)} (h : look x D = some y) : Itm B A (.dict D) (.str x) (.str y) := fun G s vo vi Q E hG ro ri kk => by
  obtain ⟨x, t, rfl, rfl⟩ := ri.text
  cases ro with
  | dict h1 h2 h3 h4 h5 =>
    rename_i a o es ep
    obtain ⟨ps, rfl, H⟩ := here_of hG (.dict h1 h2 h3 h4 h5)
    refine ⟨"dict", _, slot_dict_getitem.lookup, H.typeIs, ?_⟩
    unfold getItem
    try with_reducible refine wpAny_holding ?_
    refine wpAny_bind (wpAny_sequenceKey H.typeIs (by decide) ?_)
    refine wpAny_bind (wpAny_callSpecial?_slot (name := Str.ofString "__getitem__") H.typeIs slot_dict_getitem
      (wpAny_call_entry slot_dict_getitem H.typeIs entry_dict_getitem ?_ (args_dict_getitem _ _)))
    show wpAny _ _ (dictGet a (.str x t) >>= _) _ _ s
    refine wpAny_bind (KTD.dictGet_text H (fun d v ha hv => ?_) fun hn => ?_)
    · rcases look_at (x := x) ps with ⟨h1, h2⟩ | ⟨z, h1, h2⟩
      · rw [h1] at ha; cases ha
      · rw [h1] at ha; cases ha
        rw [h] at h2; cases h2
        have hv' := hv s.heap
        cases hv'
        exact wpAny_pure ⟨_, rfl, wpAny_pure (kk _ _ G (Up0.ofTok hG _) (.str _ _))⟩
    · rcases look_at (x := x) ps with ⟨h1, h2⟩ | ⟨z, h1, h2⟩
      · rw [h] at h2; cases h2
      · rw [h1] at hn; cases hn
end
end Mine
end
section
open PySem PySem.W PyProof.Rows PySem.Calls PySem.SeqAt
set_option Elab.async false
set_option linter.unusedVariables false
set_option maxRecDepth 100000
namespace Mine
section
variable {B : Base} {sc : Scope} {N : List Str} {X : FI B sc N} {σ : List Bnd} {A : Around} {E : Value → Shared → Prop}
noncomputable def noOwn (σ : List Bnd) : Bool := σ.all fun b => !b.isOwn
theorem noOwn_at {σ : List Bnd} (h : noOwn σ = true) {i : Nat} {b : Bnd} (hb : σ[i]? = some b) : b.isOwn = false := by
  have := List.all_eq_true.mp h b (List.mem_of_getElem? hb)
  simpa using this
theorem Sat.lend {G : View} {s : Shared} {x : Str} {i : Nat} {xs : List AV} (Sa : Sat X G σ s) (ha : At N i x) (hb : σ[i]? = some (.own xs)) (hno : noOwn (σ.set i (.val (.list xs))) = true) :
    ∃ a o, G a = none ∧ X.s₀.heap.objs.size ≤ a ∧ s.heap.get? a = some o ∧ Sat X (G.add a o) (σ.set i (.val (.list xs))) s := by
  obtain ⟨m, hm, hv⟩ := Sa.ns
  rcases hv i x _ ha hb with h | ⟨v, hl, hb'⟩
  · cases h
  obtain ⟨a, vs, rfl, ⟨n, ho⟩, hr, hG, h0, hL, hC⟩ := OwnIs.ex hb'
  have hle := View.le_add (G := G) { cls := .type "list", data := .seq vs.toArray n } hG
  refine ⟨a, _, hG, h0, ho, ⟨⟨Sa.up.keep, Sa.up.size, Sa.up.gens, Sa.up.os, View.le_trans Sa.up.le hle, fun b o e => ?_, fun b o e => ?_⟩, Sa.up.tk⟩, ?_, fun y c hc => ?_, Sa.cells, m, hm, fun j y b hj hb2 => ?_⟩
  · by_cases q : b = a
    · subst q; rw [View.add_self] at e; cases e; exact ho
    · rw [View.add_ne _ _ q] at e; exact Sa.up.on b o e
  · by_cases q : b = a
    · subst q; exact .inr h0
    · rw [View.add_ne _ _ q] at e; exact Sa.up.new b o e
  · rw [View.add_ne _ _ (Ne.symm hL)]; exact Sa.nL
  · rw [View.add_ne _ _ (hC y c hc)]; exact Sa.nC y c hc
  · have hno' := noOwn_at hno hb2
    rcases set_look hb2 with ⟨rfl, rfl⟩ | ⟨hne, hb2⟩
    · have e : y = x := by have := hj.get; rw [ha.get] at this; exact (Option.some.inj this).symm
      subst e
      exact .inr ⟨_, hl, .list (View.add_self _ _ _) (VRels.le hle hr)⟩
    · rcases hv j y b hj hb2 with h | ⟨v', hl', hb''⟩
      · exact .inl h
      · refine .inr ⟨v', hl', ?_⟩
        cases b with
        | no => trivial
        | val z => exact VRel.le hle hb''
        | own _ => cases hno'
theorem tst_lend {x : Str} {xs : List AV} {e : Expr} {b : Bool} {τ : List Bnd} (hv : Var N σ x (.own xs)) (hs : Set1 N σ x (.val (.list xs)) τ) (hno : noOwn τ = true) (h : Tst X τ e b) : Tst X σ e b := .mk fun G s Q E Sa kk => by
  obtain ⟨i, ha, hb⟩ := hv.at_
  obtain ⟨j, hj, rfl⟩ := hs.at_
  obtain rfl := At.inj X.hN ha hj
  obtain ⟨a, o, hG, h0, ho, S1⟩ := Sa.lend ha hb hno
  refine h.run _ s Q E S1 fun s' G' u => kk s' (G'.del a) ⟨⟨u.keep, u.size, u.gens, u.os, fun b o' e => ?_, fun b o' e => u.on b o' (View.del_some e).2, fun b o' e => ?_⟩, u.tk⟩
  · have hne : b ≠ a := by rintro rfl; rw [hG] at e; cases e
    rw [View.del_ne _ hne]
    exact u.le _ _ (by rw [View.add_ne _ _ hne]; exact e)
  · obtain ⟨hne, e⟩ := View.del_some e
    rcases u.new b o' e with h' | h'
    · rw [View.add_ne _ _ hne] at h'; exact .inl h'
    · exact .inr h'
theorem s1_lend {x : Str} {xs : List AV} {st : Stmt} {o : Out} {τ : List Bnd} (hv : Var N σ x (.own xs)) (hs : Set1 N σ x (.val (.list xs)) τ) (hno : noOwn τ = true) (h : S1 X τ st o) : S1 X σ st o := .mk fun G s Q E Sa kk => by
  obtain ⟨i, ha, hb⟩ := hv.at_
  obtain ⟨j, hj, rfl⟩ := hs.at_
  obtain rfl := At.inj X.hN ha hj
  obtain ⟨a, ob, hG, h0, ho, S1⟩ := Sa.lend ha hb hno
  exact h.run _ s Q E S1 fun fl s' G' l f => kk fl s' G' (View.le_trans (View.le_add _ hG) l) f

/-- the frame's own list is written anew -/
theorem Sat.regrow {G : View} {s : Shared} {h' : Heap} {x : Str} {i : Nat} {xs ys : List AV} {a : Addr} {vs : List Value} (Sa : Sat X G σ s) (ha : At N i x) (hb : σ[i]? = some (.own xs)) (hno : noOwn (σ.set i .no) = true)
    (hat : ∀ v m, s.heap.Ns X.env.locals m → Loc X m s.heap x v → v = .ref a) (hsb : Heap.SameBut a s.heap h') (hp : h'.PlainList a vs.toArray) (hr : VRels G vs ys) : Sat X G (σ.set i (.own ys)) { s with heap := h' } := by
  obtain ⟨m, hm, hv⟩ := Sa.ns
  rcases hv i x _ ha hb with h | ⟨v, hl, hb'⟩
  · cases h
  obtain ⟨a', vs', e', _, _, hG, h0, hL, hC⟩ := OwnIs.ex hb'
  obtain rfl : a = a' := by
    have := hat v m hm hl
    rw [this] at e'
    injection e'
  have hk : ∀ b o, b ≠ a → s.heap.get? b = some o → h'.get? b = some o := fun b o hb e => (hsb.2 b hb).trans e
  refine ⟨⟨⟨near_but Sa.up.keep hk h0, by rw [hsb.1]; exact Sa.up.size, Sa.up.gens, Sa.up.os, Sa.up.le, fun b o e => hk b o (fun q => by rw [q, hG] at e; cases e) (Sa.up.on b o e), Sa.up.new⟩, Sa.up.tk⟩, Sa.nL, Sa.nC, fun y c hc => ?_, m, hm.at' fun o e => hk _ o (Ne.symm hL) e, fun j y b hj hb2 => ?_⟩
  · obtain ⟨v, o, h1, h2⟩ := Sa.cells y c hc
    exact ⟨v, o, hk c o (hC y c hc) h1, h2⟩
  · have loc : ∀ y v, Loc X m s.heap y v → Loc X m h' y v := fun y v hl => by
      rcases hl with h | ⟨h1, c, h2, o, h3, h4⟩
      · exact .inl h
      · exact .inr ⟨h1, c, h2, o, hk c o (hC y c h2) h3, h4⟩
    rcases set_look hb2 with ⟨rfl, rfl⟩ | ⟨hne, hb2⟩
    · have e : y = x := by have := hj.get; rw [ha.get] at this; exact (Option.some.inj this).symm
      subst e
      exact .inr ⟨v, loc _ _ hl, ⟨a, vs, e', hp, hr, hG, h0, hL, hC⟩⟩
    · have hno' : b.isOwn = false := noOwn_at hno (i := j) (by rw [List.getElem?_set_ne (Ne.symm hne)]; exact hb2)
      rcases hv j y b hj hb2 with h | ⟨v', hl', hb''⟩
      · exact .inl h
      · refine .inr ⟨v', loc _ _ hl', ?_⟩
        cases b with
        | no => trivial
        | val z => exact hb''
        | own _ => cases hno'
theorem ns_fun {h : Heap} {a : Addr} {m m' : Str → Option Value} (x : h.Ns a m) (y : h.Ns a m') : m = m' := x.eq_nsMap.trans y.eq_nsMap.symm
theorem interactive_no (X : FI B sc N) : interactive X.env = false := by
  have := X_kind X
  unfold interactive
  rw [this]; rfl

theorem s1_append {x : Str} {e : Expr} {a : AV} {xs : List AV} {τ : List Bnd} {p1 apos pos pos2 : Pos} (hv : Var N σ x (.own xs)) (he : Ex X σ e a) (hs : Set1 N σ x (.own (xs ++ [a])) τ) (hl : sc.names.lookup x = some .local) (hn : xs.length ≤ sizeLine) {ρ : List Bnd} (hz : Set1 N σ x .no ρ) (hno : noOwn ρ = true)
    (hst : notStar e = true := by rfl) (hln : (apos.endLine == pos.line) = true := by rfl) : S1 X σ (.Expr (.Call (.Attribute (.Name x p1) (Str.ofString "append") apos) [e] [] pos) pos2) (.next τ) := .mk fun G s Q E Sa kk => by
  obtain ⟨i, ha, hb⟩ := hv.at_
  obtain ⟨j, hj, rfl⟩ := hs.at_
  obtain rfl := At.inj X.hN ha hj
  obtain ⟨j', hj', rfl⟩ := hz.at_
  obtain rfl := At.inj X.hN ha hj'
  have hno' := hno
  refine wpAny_Expr_any (Call_method1 (base_plain rfl) (starEach_cons hst) hln ?_) (interactive_no X) rfl
  obtain ⟨m, hm, hvv⟩ := Sa.ns
  obtain ⟨hd, hcd⟩ := X.hdbg x ha.mem
  rcases hvv i x _ ha hb with h' | ⟨v, hlc, hbi⟩
  · cases h'
  rcases hlc with ⟨hk, hmx⟩ | ⟨hk, _⟩
  · refine wpAny_Name (wpAny_loadName_local (X_kind X) ((X_kindOf X x).trans hk) hm hmx ?_) hd
    obtain ⟨l, vs, rfl, ⟨n, hpl⟩, hr, hG, h0, hL, hC⟩ := OwnIs.ex hbi
    refine ⟨"list", "list.append", F.plainAttrs_list, F.slot_list_append, F.type_list_append, ⟨_, hpl, rfl⟩, fun b eb => ?_, ?_⟩
    · injection eb with eb; subst eb; exact ⟨_, hpl, rfl⟩
    · refine P.append_list (he.run G s _ E Sa fun v1 s1 G1 u1 r1 => ?_)
      have S1 := Sa.upd u1
      have hlen := VRels.length_eq hr
      have hpl1 := u1.keep.seq hpl
      refine ⟨vs.toArray, n, by simp only [List.size_toArray]; omega, hpl1, ?_⟩
      refine kk .next _ G1 u1.le (S1.regrow (ys := xs ++ [a]) (vs := vs ++ [v1]) (a := l) ha hb hno' (fun v' m' hm' hl' => ?_) (Heap.SameBut.update ..) ⟨n + 1, ?_⟩ (vrels_snoc (VRels.le u1.le hr) r1))
      · have := ns_fun hm' (u1.keep.ns hm)
        subst this
        rcases hl' with ⟨_, h1⟩ | ⟨h1, _⟩
        · rw [hmx] at h1; injection h1 with h1; exact h1.symm
        · rcases h1 with h1 | h1 <;> rw [hl] at h1 <;> cases h1
      · rw [Heap.get?_update_self _ hpl1 rfl, Obj.mapSeq_push_plain]; simp
  · rcases hk with hk | hk <;> rw [hl] at hk <;> cases hk
theorem erase_last {vs : List Value} : vs.toArray.eraseIdxIfInBounds (vs.toArray.size - 1) = vs.dropLast.toArray := by
  unfold Array.eraseIdxIfInBounds
  split
  · rename_i h
    apply Array.toList_inj.mp
    rw [Array.toList_eraseIdx]
    simp only [List.size_toArray]
    rw [List.eraseIdx_eq_take_drop_succ, List.dropLast_eq_take]
    simp at h
    rw [List.drop_of_length_le (by omega), List.append_nil]
  · rename_i h
    have : vs = [] := by
      cases vs with
      | nil => rfl
      | cons a r => simp at h
    subst this; rfl
theorem s1_pop {x : Str} {xs : List AV} {τ : List Bnd} {p1 apos pos pos2 : Pos} (hv : Var N σ x (.own xs)) (hs : Set1 N σ x (.own xs.dropLast) τ) (hl : sc.names.lookup x = some .local) (h0 : xs ≠ []) (hn : xs.length ≤ sizeLine) {ρ : List Bnd} (hz : Set1 N σ x .no ρ) (hno : noOwn ρ = true)
    (hln : (apos.endLine == pos.line) = true := by rfl) : S1 X σ (.Expr (.Call (.Attribute (.Name x p1) (Str.ofString "pop") apos) [] [] pos) pos2) (.next τ) := .mk fun G s Q E Sa kk => by
  obtain ⟨i, ha, hb⟩ := hv.at_
  obtain ⟨j, hj, rfl⟩ := hs.at_
  obtain rfl := At.inj X.hN ha hj
  obtain ⟨j', hj', rfl⟩ := hz.at_
  obtain rfl := At.inj X.hN ha hj'
  have hno' := hno
  refine wpAny_Expr_any (Call_method0 (base_plain rfl) hln ?_) (interactive_no X) rfl
  obtain ⟨m, hm, hvv⟩ := Sa.ns
  obtain ⟨hd, hcd⟩ := X.hdbg x ha.mem
  rcases hvv i x _ ha hb with h' | ⟨v, hlc, hbi⟩
  · cases h'
  rcases hlc with ⟨hk, hmx⟩ | ⟨hk, _⟩
  · refine wpAny_Name (wpAny_loadName_local (X_kind X) ((X_kindOf X x).trans hk) hm hmx ?_) hd
    obtain ⟨l, vs, rfl, ⟨n, hpl⟩, hr, hG, h0', hL, hC⟩ := OwnIs.ex hbi
    refine ⟨"list", "list.pop", F.plainAttrs_list, F.slot_list_pop, F.type_list_pop, ⟨_, hpl, rfl⟩, fun b eb => ?_, ?_⟩
    · injection eb with eb; subst eb; exact ⟨_, hpl, rfl⟩
    · have hlen := VRels.length_eq hr
      have hpos : 0 < xs.length := List.length_pos_iff.mpr h0
      refine P.pop_list (items := vs.toArray) (n := n) (y := vs[vs.length - 1]'(by omega)) hpl (by simp) ?_ (by simp only [List.size_toArray]; omega)
      refine kk .next _ G G.le_refl (Sa.regrow (ys := xs.dropLast) (vs := vs.dropLast) (a := l) ha hb hno' (fun v' m' hm' hl' => ?_) (Heap.SameBut.update ..) ?_ ?_)
      · have := ns_fun hm' hm
        subst this
        rcases hl' with ⟨_, h1⟩ | ⟨h1, _⟩
        · rw [hmx] at h1; injection h1 with h1; exact h1.symm
        · rcases h1 with h1 | h1 <;> rw [hl] at h1 <;> cases h1
      · have hc := get?_update_seq (c := "list") hpl fun xs => xs.eraseIdxIfInBounds (vs.toArray.size - 1)
        rw [erase_last] at hc
        exact ⟨_, hc⟩
      · rw [List.dropLast_eq_take, List.dropLast_eq_take, hlen]; exact VRels.take _ hr
  · rcases hk with hk | hk <;> rw [hl] at hk <;> cases hk
theorem s1_newlist {x : Str} {τ : List Bnd} {p pos pos2 : Pos} (hs : Set1 N σ x (.own []) τ) (hl : sc.names.lookup x = some .local) {ρ : List Bnd} (hz : Set1 N σ x .no ρ) (hno : noOwn ρ = true) : S1 X σ (.Assign [.Name x p] (.List [] pos) pos2) (.next τ) := .mk fun G s Q E Sa kk => by
  obtain ⟨i, ha, rfl⟩ := hs.at_
  obtain ⟨i', ha', rfl⟩ := hz.at_
  obtain rfl := At.inj X.hN ha ha'
  have hno' := hno
  refine wpAny_Assign_Name (wpAny_List (wpAny_items_nil ⟨Nat.zero_le _, ?_⟩)) (swaps_no rfl)
  have hn : G s.heap.objs.size = none := View.on_low Sa.on (Nat.le_refl _)
  have S1 : Sat X G σ { s with heap := s.heap.push { cls := .type "list", data := .seq ([] : List Value).toArray } } := Sa.upd ⟨(Up0.refl Sa.on).pushOut _, Nat.le_refl _⟩
  obtain ⟨m, hm, hv⟩ := S1.ns
  have hL : s.heap.objs.size ≠ X.env.locals := by
    obtain ⟨m', ⟨oL, _, _, hL', _⟩, _⟩ := Sa.ns
    exact Ne.symm (Nat.ne_of_lt (Heap.lt_size hL'))
  have hC : ∀ y c, X.env.cells.lookup y = some c → c ≠ s.heap.objs.size := fun y c hc => by
    obtain ⟨v, hv⟩ := Sa.cells y c hc
    exact Nat.ne_of_lt hv.lt
  refine wpAny_storeName_local ((X_kindOf X x).trans hl) hm (fun h' hn' hs' => ?_) (by rw [X_kind X]; rfl)
  refine kk .next _ G G.le_refl ⟨S1.turn hs' X.hL Sa.nL (Nat.le_succ _), Sa.nL, Sa.nC, fun y' c' hp => ?_, _, hn', fun j y b hj hb => ?_⟩
  · obtain ⟨v', hv'⟩ := S1.cells y' c' hp
    exact ⟨v', hv'.sameBut hs' (X.hne _ (mem_of_lookup hp))⟩
  · rcases set_look hb with ⟨rfl, rfl⟩ | ⟨hne, hb⟩
    · have e : y = x := by have := hj.get; rw [ha.get] at this; exact (Option.some.inj this).symm
      subst e
      refine .inr ⟨_, .inl ⟨hl, if_pos rfl⟩, ⟨s.heap.objs.size, [], rfl, ⟨0, (hs'.2 _ hL).trans (Heap.get?_push_size _ rfl)⟩, .nil, hn, Sa.up.size, hL, hC⟩⟩
    · have hyx : y ≠ x := fun e => hne (At.inj X.hN (e ▸ hj) ha)
      have hno2 : b.isOwn = false := noOwn_at hno' (i := j) (by rw [List.getElem?_set_ne (Ne.symm hne)]; exact hb)
      rcases hv j y b hj hb with h | ⟨v', hl', hb'⟩
      · exact .inl h
      · refine .inr ⟨v', ?_, ?_⟩
        · rcases hl' with ⟨h1, h2⟩ | ⟨h1, c, h2, h3⟩
          · exact .inl ⟨h1, by dsimp only; rw [if_neg hyx]; exact h2⟩
          · exact .inr ⟨h1, c, h2, h3.sameBut hs' (X.hne _ (mem_of_lookup h2))⟩
        · cases b with
          | no => trivial
          | val z => exact hb'
          | own _ => cases hno2
end
end Mine
end
section
open PySem PySem.W PyProof.Rows PySem.Calls PySem.SeqAt
set_option Elab.async false
set_option linter.unusedVariables false
namespace Mine
section
variable {B : Base} {sc : Scope} {N : List Str} {X : FI B sc N} {σ : List Bnd} {A : Around} {E : Value → Shared → Prop}
theorem fn_go {f : Addr} {name qual : Str} {params : Arguments} {body : List Stmt} {sc : Scope} {g : Addr} {cl : List (Str × Addr)} {dv kv doc pm cd ct : Value} {an : Option Addr} {bl : Addr} {ps rest N : List Str} {σ : List Bnd} {l : Nat} {args args' : List AV} {r : AV}
    (ex : ∃ oc od osl, B.K.lookup f = some ⟨oc, od, .func ⟨name, qual, params, .stmts body, sc, g, cl, dv, kv, doc, pm, an, cd, ct, bl⟩, osl⟩)
    (code : codeIn B.K cd qual = true) (hf : (cl, g, bl, sc.isCoroutine, sc.isGenerator, sc.kind) = ([], mainGlobals, builtinsNs, false, false, ScopeKind.function))
    (hb : BindsBy B ⟨name, qual, params, .stmts body, sc, g, cl, dv, kv, doc, pm, an, cd, ct, bl⟩ ps args args') (hNe : ps ++ rest = N) (hN : okNames sc N = true) (hσ : start args' rest.length = σ) (hlen : args'.length = ps.length)
    (h : ∀ X : FI B sc N, X.own = true → X.lvl = l → Sx X σ body (.ret r)) : Fn B (.ref f) (l + 1) args r := by
  simp only [Prod.mk.injEq] at hf
  obtain ⟨h1, h2, h3, h4, h5, h6⟩ := hf
  subst hNe hσ
  exact fn_intro' ⟨ex, code, rfl, h1, h2, h3, h4, h5, h6⟩ hN hb hlen h
theorem binds1 {B : Base} {fd : FuncData} {p : Str} {a : AV} (h : ∀ v, bindArgs fd ⟨[v], []⟩ = pure [(p, v)]) : BindsBy B fd [p] [a] [a] := fun A G s vs Q E T hG rv kk => by
  cases rv with
  | cons r1 r2 =>
    cases r2
    rw [h]
    exact wpAny_pure (kk _ s G (Up.refl hG).toUp0 (.cons r1 .nil) rfl)
theorem binds2 {B : Base} {fd : FuncData} {p q : Str} {a b : AV} (h : ∀ v w, bindArgs fd ⟨[v, w], []⟩ = pure [(p, v), (q, w)]) : BindsBy B fd [p, q] [a, b] [a, b] := fun A G s vs Q E T hG rv kk => by
  cases rv with
  | cons r1 r2 =>
    cases r2 with
    | cons r2 r3 =>
      cases r3
      rw [h]
      exact wpAny_pure (kk _ s G (Up.refl hG).toUp0 (.cons r1 (.cons r2 .nil)) rfl)
theorem binds3 {B : Base} {fd : FuncData} {p q o : Str} {a b c : AV} (h : ∀ v w u, bindArgs fd ⟨[v, w, u], []⟩ = pure [(p, v), (q, w), (o, u)]) : BindsBy B fd [p, q, o] [a, b, c] [a, b, c] := fun A G s vs Q E T hG rv kk => by
  cases rv with
  | cons r1 r2 =>
    cases r2 with
    | cons r2 r3 =>
      cases r3 with
      | cons r3 r4 =>
        cases r4
        rw [h]
        exact wpAny_pure (kk _ s G (Up.refl hG).toUp0 (.cons r1 (.cons r2 (.cons r3 .nil))) rfl)
theorem binds4 {B : Base} {fd : FuncData} {p q o m : Str} {a b c d : AV} (h : ∀ v w u t, bindArgs fd ⟨[v, w, u, t], []⟩ = pure [(p, v), (q, w), (o, u), (m, t)]) : BindsBy B fd [p, q, o, m] [a, b, c, d] [a, b, c, d] := fun A G s vs Q E T hG rv kk => by
  cases rv with
  | cons r1 r2 =>
    cases r2 with
    | cons r2 r3 =>
      cases r3 with
      | cons r3 r4 =>
        cases r4 with
        | cons r4 r5 =>
          cases r5
          rw [h]
          exact wpAny_pure (kk _ s G (Up.refl hG).toUp0 (.cons r1 (.cons r2 (.cons r3 (.cons r4 .nil)))) rfl)
theorem s1_doc {x : Str} {k : Nat} {p pos : Pos} : S1 X σ (.Expr (.Constant (.str x) k p) pos) (.next σ) := .mk fun G s Q E Sa kk =>
  wpAny_Expr_any (wpAny_Constant_str (kk .next _ G G.le_refl (Sa.upd (Up.ofTok Sa.on)))) (interactive_no X) rfl
theorem sx_set {x : Str} {e : Expr} {a : AV} {τ : List Bnd} {p pos : Pos} {r : List Stmt} {o : Out} (h : Ex X σ e a) (hs : Set1 N σ x (.val a) τ) (ho : X.own = true) (hn : noComp e = true) (hr : Sx X τ r o) :
    Sx X σ (.Assign [.Name x p] e pos :: r) o := sx_cons (s1_assign h hs (.inr ho) hn) hr
end
end Mine
end
section
open PySem PySem.W PyProof.Rows PySem.Calls PySem.SeqAt
set_option Elab.async false
set_option linter.unusedVariables false
namespace Mine
section
variable {B : Base} {sc : Scope} {N : List Str} {X : FI B sc N} {σ : List Bnd} {A : Around} {E : Value → Shared → Prop}
theorem ex_neg {e : Expr} {i : Int} {pos : Pos} (h : Ex X σ e (.int i)) : Ex X σ (.UnaryOp .USub e pos) (.int (-i)) := .mk fun G s Q E Sa kk =>
  wpAny_UnaryOp (h.run G s _ E Sa fun v s1 G1 u1 r1 => by
    cases r1
    exact PyProof.Rows.neg_int (kk _ _ G1 ⟨(u1.toUp0).tok _, Nat.le_succ_of_le u1.tk⟩ (.int _ _)))
/-- a choice of two texts -/
theorem ex_if_str {t e1 e2 : Expr} {b : Bool} {x y : List Nat} {pos : Pos} (h : Tst X σ t b) (h1 : b = true → Ex X σ e1 (.str x)) (h2 : b = false → Ex X σ e2 (.str y)) : Ex X σ (.IfExp t e1 e2 pos) (.str (if b then x else y)) :=
  ex_ifexp h (fun hb => by rw [if_pos hb]; exact h1 hb) (fun hb => by rw [if_neg (by rw [hb]; decide)]; exact h2 hb)
theorem ex_if_strs {t e1 e2 : Expr} {b : Bool} {x y : List (List Nat)} {pos : Pos} (h : Tst X σ t b) (h1 : b = true → Ex X σ e1 (.strs x)) (h2 : b = false → Ex X σ e2 (.strs y)) : Ex X σ (.IfExp t e1 e2 pos) (.strs (if b then x else y)) :=
  ex_ifexp h (fun hb => by rw [if_pos hb]; exact h1 hb) (fun hb => by rw [if_neg (by rw [hb]; decide)]; exact h2 hb)
noncomputable def orT (x y : List Nat) : List Nat := if x.isEmpty then y else x
theorem ex_or_str {e1 e2 : Expr} {x y : List Nat} {pos : Pos} (h1 : Ex X σ e1 (.str x)) (h2 : Ex X σ e2 (.str y)) (hx : x.length ≤ sizeLine) : Ex X σ (.BoolOp .Or [e1, e2] pos) (.str (orT x y)) := by
  cases h : x.isEmpty with
  | true => exact ex_or2 h1 hx (b := false) (by show some (!x.isEmpty) = _; rw [h]; rfl) (fun q => by cases q) fun _ => by unfold orT; rw [h, if_pos rfl]; exact h2
  | false => exact ex_or2 h1 hx (b := true) (by show some (!x.isEmpty) = _; rw [h]; rfl) (fun _ => by unfold orT; rw [h, if_neg (by decide)]) fun q => by cases q
theorem sx_if_both {t : Expr} {b : Bool} {body orelse r : List Stmt} {τ₁ τ₂ : List Bnd} {o : Out} {pos : Pos} (h : Tst X σ t b) (h1 : b = true → Sx X σ body (.next τ₁)) (h1' : b = true → Sx X τ₁ r o) (h2 : b = false → Sx X σ orelse (.next τ₂)) (h2' : b = false → Sx X τ₂ r o) : Sx X σ (.If t body orelse pos :: r) o := by
  cases hb : b with
  | true => exact sx_if_t h hb (h1 hb) (h1' hb)
  | false => exact sx_if_f h hb (h2 hb) (h2' hb)
theorem Sx.to {ss : List Stmt} {o o' : Out} (h : Sx X σ ss o) (e : o = o') : Sx X σ ss o' := e ▸ h
noncomputable def scan (P : Int → Bool) (d : Int) : Nat → Int → Bool
  | 0, _ => false
  | n + 1, f => if f < d then (if P f = true then true else scan P d n (f + 1)) else false
theorem whl_scan {test : Expr} {body : List Stmt} (σf : Int → List Bnd) (P : Int → Bool) (d : Int) (r : AV) (ht : ∀ f, Tst X (σf f) test (decide (f < d))) (h1 : ∀ f, P f = true → Sx X (σf f) body (.ret r)) (h2 : ∀ f, P f = false → Sx X (σf f) body (.next (σf (f + 1)))) :
    ∀ (n : Nat) (f : Int), (scan P d n f = true → Whl X test body n (σf f) (.ret r)) ∧ (d - f ≤ n → scan P d n f = false → Whl X test body n (σf f) (.next (σf (max f d)))) := by
  intro n
  induction n with
  | zero =>
    intro f
    refine ⟨fun h => (by cases h), fun hd _ => ?_⟩
    have : max f d = f := by omega
    rw [this]
    exact .stop (by have := ht f; rwa [decide_eq_false (by omega)] at this)
  | succ n ih =>
    intro f
    unfold scan
    by_cases hf : f < d
    · rw [if_pos hf]
      have t : Tst X (σf f) test true := by have := ht f; rwa [decide_eq_true hf] at this
      cases hp : P f with
      | true =>
        rw [if_pos rfl]
        exact ⟨fun _ => .ret t (h1 f hp), fun _ h => (by cases h)⟩
      | false =>
        rw [if_neg (by decide)]
        refine ⟨fun h => .next t (h2 f hp) (.inl rfl) ((ih (f + 1)).1 h), fun hd h => ?_⟩
        have := (ih (f + 1)).2 (by omega) h
        rw [show max (f + 1) d = max f d by omega] at this
        exact .next t (h2 f hp) (.inl rfl) this
    · rw [if_neg hf]
      refine ⟨fun h => (by cases h), fun _ _ => ?_⟩
      have : max f d = f := by omega
      rw [this]
      exact .stop (by have := ht f; rwa [decide_eq_false hf] at this)
noncomputable def SxN (X : FI B sc N) (σ : List Bnd) (ss : List Stmt) (τ : List Bnd) : Prop := Sx X σ ss (.next τ) ∨ Sx X σ ss (.cont τ)
theorem sx_for_fold {β : Type} {x : Str} {p pos : Pos} {iter : Expr} {body r : List Stmt} {xs : List AV} {o : Out} (σf : β → Bnd → List Bnd) (step : β → AV → β) (Inv : Nat → β → Prop) {b : β} {bd : Bnd} (hi : Ex X (σf b bd) iter (.list xs)) (hI : Inv 0 b)
    (hset : ∀ b bd a, Set1 N (σf b bd) x (.val a) (σf b (.val a))) (hbody : ∀ k b a, Inv k b → xs[k]? = some a → SxN X (σf b (.val a)) body (σf (step b a) (.val a)) ∧ Inv (k + 1) (step b a))
    (ho : X.own = true) (hs : noSet iter = true) (hr : ∀ bd', (bd' = bd ∨ ∃ a, bd' = .val a) → Inv xs.length (xs.foldl step b) → Sx X (σf (xs.foldl step b) bd') r o) : Sx X (σf b bd) (.For (.Name x p) iter body [] pos :: r) o := by
  have key : ∀ (n k : Nat) (b : β) (bd : Bnd), xs.length - k = n → k ≤ xs.length → Inv k b → ∃ bd', (bd' = bd ∨ ∃ a, bd' = .val a) ∧ Loop X x body (xs.drop k) (σf b bd) (.next (σf ((xs.drop k).foldl step b) bd')) ∧ Inv xs.length ((xs.drop k).foldl step b) := by
    intro n
    induction n with
    | zero =>
      intro k b bd hk hk' hI
      have e : k = xs.length := by omega
      subst e
      rw [List.drop_length]
      exact ⟨bd, .inl rfl, .nil, hI⟩
    | succ n ih =>
      intro k b bd hk hk' hI
      have hlt : k < xs.length := by omega
      rw [List.drop_eq_getElem_cons hlt]
      obtain ⟨h1, h2⟩ := hbody k b xs[k] hI (by simp [hlt])
      obtain ⟨bd', h5, h3, h4⟩ := ih (k + 1) (step b xs[k]) (.val xs[k]) (by omega) hlt h2
      refine ⟨bd', .inr (h5.elim (fun e => ⟨_, e⟩) id), ?_, h4⟩
      rcases h1 with h1 | h1
      · exact .next (hset _ _ _) h1 (.inl rfl) h3
      · exact .next (hset _ _ _) h1 (.inr rfl) h3
  obtain ⟨bd', h0, h1, h2⟩ := key xs.length 0 b bd rfl (Nat.zero_le _) hI
  rw [List.drop_zero] at h1 h2
  exact sx_cons (s1_for hi h1 (.inr ho) hs) (hr bd' h0 h2)
theorem itm_listZ {xs : List AV} {z : Int} {r : AV} (h0 : 0 ≤ z) (hx : xs[z.toNat]? = some r) (hs : xs.length ≤ sizeLine) : Itm B A (.list xs) (.int z) r := by
  have := itm_list (B := B) (A := A) hx hs
  rwa [Int.toNat_of_nonneg h0] at this
theorem ex_strs1 {e : Expr} {x : List Nat} {pos : Pos} (h : Ex X σ e (.str x)) (hn : notStar e = true := by rfl) : Ex X σ (.List [e] pos) (.strs [x]) := ex_list (es_cons h es_nil hn) (Nat.le_of_ble_eq_true rfl)
theorem ex_strs2 {e f : Expr} {x y : List Nat} {pos : Pos} (h : Ex X σ e (.str x)) (h' : Ex X σ f (.str y)) (hn : notStar e = true := by rfl) (hn' : notStar f = true := by rfl) : Ex X σ (.List [e, f] pos) (.strs [x, y]) := ex_list (es_cons h (es_cons h' es_nil hn') hn) (Nat.le_of_ble_eq_true rfl)
theorem ex_strs3 {e f g : Expr} {x y z : List Nat} {pos : Pos} (h : Ex X σ e (.str x)) (h' : Ex X σ f (.str y)) (h'' : Ex X σ g (.str z)) (hn : notStar e = true := by rfl) (hn' : notStar f = true := by rfl) (hn'' : notStar g = true := by rfl) : Ex X σ (.List [e, f, g] pos) (.strs [x, y, z]) :=
  ex_list (es_cons h (es_cons h' (es_cons h'' es_nil hn'') hn') hn) (Nat.le_of_ble_eq_true rfl)
theorem ex_ints2 {e f : Expr} {x y : Int} {pos : Pos} (h : Ex X σ e (.int x)) (h' : Ex X σ f (.int y)) (hn : notStar e = true := by rfl) (hn' : notStar f = true := by rfl) : Ex X σ (.List [e, f] pos) (.list ([x, y].map .int)) := ex_list (es_cons h (es_cons h' es_nil hn') hn) (Nat.le_of_ble_eq_true rfl)
theorem ex_slice_strs {value : Expr} {lower upper : Option Expr} {p pos : Pos} {L : List (List Nat)} {lo hi : Option Int} (hv : Ex X σ value (.strs L)) (hl : Pt X σ lower lo) (hu : Pt X σ upper hi) (hx : L.length ≤ sizeLine) : Ex X σ (.Subscript value (.Slice lower upper none p) pos) (.strs (slc lo hi L)) :=
  (ex_slice_list hv hl hu (by rw [List.length_map]; exact hx)).of (by rw [slc_map])
theorem bop_add_strs {L K : List (List Nat)} (hn : L.length + K.length ≤ sizeLine) : Bop B A .Add (.strs L) (.strs K) (.strs (L ++ K)) := by
  have := bop_add_list (B := B) (A := A) (x := L.map AV.str) (y := K.map AV.str) (by simpa using hn)
  rwa [← List.map_append] at this
theorem bop_mul_strs1 {x : List Nat} {n : Int} (h0 : 0 ≤ n) (hn : n ≤ sizeLine) : Bop B A .Mult (.strs [x]) (.int n) (.strs (List.replicate n.toNat x)) := by
  have := bop_mul_list1 (B := B) (A := A) (a := .str x) h0 hn
  rwa [← List.map_replicate] at this
end
end Mine
end
section
open PySem PySem.W PyProof.Rows PySem.Calls
set_option Elab.async false
set_option linter.unusedVariables false
set_option maxRecDepth 100000
namespace Mine
theorem mem_look {α β : Type} [DecidableEq α] : ∀ {l : List (α × β)} {a : α} {b : β}, l.lookup a = some b → (a, b) ∈ l
  | [], a, b, h => by cases h
  | (x, y) :: r, a, b, h => by
    rw [List.lookup_cons] at h
    split at h
    · rename_i e; cases h; rw [eq_of_beq e]; exact .head _
    · exact .tail _ (mem_look h)
theorem low39 (P : Params) : ∀ a o, (frag P).lookup a = some o → a < cut := by
  have h : (frag P).all (fun p => Nat.blt p.1 cut) = true := by kernel_rfl
  intro a o e
  have := List.all_eq_true.mp h (a, o) (mem_look e)
  exact Nat.blt_eq.mp this
noncomputable abbrev bs (w : World) (mg mb : Str → Option Value) : Base := ⟨PySem.Challenge.pw_mr0370_01, w, frag w.params, vw, [Str.ofString "relpath"], mg, mb, low39 w.params⟩
section
variable {w : World} {mg mb : Str → Option Value} {sc : Scope} {N : List Str} {X : FI (bs w mg mb) sc N} {σ : List Bnd} {pos : Pos}
theorem g_fspath : nsIn (frag w.params) mainGlobals (Str.ofString "fspath") = some (some (.ref 101)) := by kernel_rfl
theorem xg_fspath (h : sc.names.lookup (Str.ofString "fspath") = some .globalImplicit) : Ex X σ (.Name (Str.ofString "fspath") pos) (.raw (.ref 101)) := ex_glob h g_fspath (by decide +kernel)
theorem g_commonprefix : nsIn (frag w.params) mainGlobals (Str.ofString "commonprefix") = some (some (.ref 108)) := by kernel_rfl
theorem xg_commonprefix (h : sc.names.lookup (Str.ofString "commonprefix") = some .globalImplicit) : Ex X σ (.Name (Str.ofString "commonprefix") pos) (.raw (.ref 108)) := ex_glob h g_commonprefix (by decide +kernel)
theorem g__splitext : nsIn (frag w.params) mainGlobals (Str.ofString "_splitext") = some (some (.ref 115)) := by kernel_rfl
theorem xg__splitext (h : sc.names.lookup (Str.ofString "_splitext") = some .globalImplicit) : Ex X σ (.Name (Str.ofString "_splitext") pos) (.raw (.ref 115)) := ex_glob h g__splitext (by decide +kernel)
theorem g__get_sep : nsIn (frag w.params) mainGlobals (Str.ofString "_get_sep") = some (some (.ref 129)) := by kernel_rfl
theorem xg__get_sep (h : sc.names.lookup (Str.ofString "_get_sep") = some .globalImplicit) : Ex X σ (.Name (Str.ofString "_get_sep") pos) (.raw (.ref 129)) := ex_glob h g__get_sep (by decide +kernel)
theorem g_isabs : nsIn (frag w.params) mainGlobals (Str.ofString "isabs") = some (some (.ref 136)) := by kernel_rfl
theorem xg_isabs (h : sc.names.lookup (Str.ofString "isabs") = some .globalImplicit) : Ex X σ (.Name (Str.ofString "isabs") pos) (.raw (.ref 136)) := ex_glob h g_isabs (by decide +kernel)
theorem g_join : nsIn (frag w.params) mainGlobals (Str.ofString "join") = some (some (.ref 143)) := by kernel_rfl
theorem xg_join (h : sc.names.lookup (Str.ofString "join") = some .globalImplicit) : Ex X σ (.Name (Str.ofString "join") pos) (.raw (.ref 143)) := ex_glob h g_join (by decide +kernel)
theorem g_split : nsIn (frag w.params) mainGlobals (Str.ofString "split") = some (some (.ref 150)) := by kernel_rfl
theorem xg_split (h : sc.names.lookup (Str.ofString "split") = some .globalImplicit) : Ex X σ (.Name (Str.ofString "split") pos) (.raw (.ref 150)) := ex_glob h g_split (by decide +kernel)
theorem g_splitext : nsIn (frag w.params) mainGlobals (Str.ofString "splitext") = some (some (.ref 157)) := by kernel_rfl
theorem xg_splitext (h : sc.names.lookup (Str.ofString "splitext") = some .globalImplicit) : Ex X σ (.Name (Str.ofString "splitext") pos) (.raw (.ref 157)) := ex_glob h g_splitext (by decide +kernel)
theorem g_splitroot : nsIn (frag w.params) mainGlobals (Str.ofString "splitroot") = some (some (.ref 167)) := by kernel_rfl
theorem xg_splitroot (h : sc.names.lookup (Str.ofString "splitroot") = some .globalImplicit) : Ex X σ (.Name (Str.ofString "splitroot") pos) (.raw (.ref 167)) := ex_glob h g_splitroot (by decide +kernel)
theorem g_basename : nsIn (frag w.params) mainGlobals (Str.ofString "basename") = some (some (.ref 174)) := by kernel_rfl
theorem xg_basename (h : sc.names.lookup (Str.ofString "basename") = some .globalImplicit) : Ex X σ (.Name (Str.ofString "basename") pos) (.raw (.ref 174)) := ex_glob h g_basename (by decide +kernel)
theorem g_dirname : nsIn (frag w.params) mainGlobals (Str.ofString "dirname") = some (some (.ref 181)) := by kernel_rfl
theorem xg_dirname (h : sc.names.lookup (Str.ofString "dirname") = some .globalImplicit) : Ex X σ (.Name (Str.ofString "dirname") pos) (.raw (.ref 181)) := ex_glob h g_dirname (by decide +kernel)
theorem g_normpath : nsIn (frag w.params) mainGlobals (Str.ofString "normpath") = some (some (.ref 188)) := by kernel_rfl
theorem xg_normpath (h : sc.names.lookup (Str.ofString "normpath") = some .globalImplicit) : Ex X σ (.Name (Str.ofString "normpath") pos) (.raw (.ref 188)) := ex_glob h g_normpath (by decide +kernel)
theorem g_abspath : nsIn (frag w.params) mainGlobals (Str.ofString "abspath") = some (some (.ref 195)) := by kernel_rfl
theorem xg_abspath (h : sc.names.lookup (Str.ofString "abspath") = some .globalImplicit) : Ex X σ (.Name (Str.ofString "abspath") pos) (.raw (.ref 195)) := ex_glob h g_abspath (by decide +kernel)
theorem g_relpath : nsIn (frag w.params) mainGlobals (Str.ofString "relpath") = some (some (.ref 203)) := by kernel_rfl
theorem xg_relpath (h : sc.names.lookup (Str.ofString "relpath") = some .globalImplicit) : Ex X σ (.Name (Str.ofString "relpath") pos) (.raw (.ref 203)) := ex_glob h g_relpath (by decide +kernel)
theorem g_commonpath : nsIn (frag w.params) mainGlobals (Str.ofString "commonpath") = some (some (.ref 208)) := by kernel_rfl
theorem xg_commonpath (h : sc.names.lookup (Str.ofString "commonpath") = some .globalImplicit) : Ex X σ (.Name (Str.ofString "commonpath") pos) (.raw (.ref 208)) := ex_glob h g_commonpath (by decide +kernel)
theorem g__escape_cdata : nsIn (frag w.params) mainGlobals (Str.ofString "_escape_cdata") = some (some (.ref 222)) := by kernel_rfl
theorem xg__escape_cdata (h : sc.names.lookup (Str.ofString "_escape_cdata") = some .globalImplicit) : Ex X σ (.Name (Str.ofString "_escape_cdata") pos) (.raw (.ref 222)) := ex_glob h g__escape_cdata (by decide +kernel)
theorem g__escape_attrib : nsIn (frag w.params) mainGlobals (Str.ofString "_escape_attrib") = some (some (.ref 229)) := by kernel_rfl
theorem xg__escape_attrib (h : sc.names.lookup (Str.ofString "_escape_attrib") = some .globalImplicit) : Ex X σ (.Name (Str.ofString "_escape_attrib") pos) (.raw (.ref 229)) := ex_glob h g__escape_attrib (by decide +kernel)
theorem g__escape_attrib_html : nsIn (frag w.params) mainGlobals (Str.ofString "_escape_attrib_html") = some (some (.ref 236)) := by kernel_rfl
theorem xg__escape_attrib_html (h : sc.names.lookup (Str.ofString "_escape_attrib_html") = some .globalImplicit) : Ex X σ (.Name (Str.ofString "_escape_attrib_html") pos) (.raw (.ref 236)) := ex_glob h g__escape_attrib_html (by decide +kernel)
theorem g__escape_cdata_c14n : nsIn (frag w.params) mainGlobals (Str.ofString "_escape_cdata_c14n") = some (some (.ref 243)) := by kernel_rfl
theorem xg__escape_cdata_c14n (h : sc.names.lookup (Str.ofString "_escape_cdata_c14n") = some .globalImplicit) : Ex X σ (.Name (Str.ofString "_escape_cdata_c14n") pos) (.raw (.ref 243)) := ex_glob h g__escape_cdata_c14n (by decide +kernel)
theorem g__escape_attrib_c14n : nsIn (frag w.params) mainGlobals (Str.ofString "_escape_attrib_c14n") = some (some (.ref 250)) := by kernel_rfl
theorem xg__escape_attrib_c14n (h : sc.names.lookup (Str.ofString "_escape_attrib_c14n") = some .globalImplicit) : Ex X σ (.Name (Str.ofString "_escape_attrib_c14n") pos) (.raw (.ref 250)) := ex_glob h g__escape_attrib_c14n (by decide +kernel)
theorem g__law_path : nsIn (frag w.params) mainGlobals (Str.ofString "_law_path") = some (some (.ref 257)) := by kernel_rfl
theorem xg__law_path (h : sc.names.lookup (Str.ofString "_law_path") = some .globalImplicit) : Ex X σ (.Name (Str.ofString "_law_path") pos) (.raw (.ref 257)) := ex_glob h g__law_path (by decide +kernel)
theorem g__law_write : nsIn (frag w.params) mainGlobals (Str.ofString "_law_write") = some (some (.ref 264)) := by kernel_rfl
theorem xg__law_write (h : sc.names.lookup (Str.ofString "_law_write") = some .globalImplicit) : Ex X σ (.Name (Str.ofString "_law_write") pos) (.raw (.ref 264)) := ex_glob h g__law_write (by decide +kernel)
theorem g__law_spelled : nsIn (frag w.params) mainGlobals (Str.ofString "_law_spelled") = some (some (.ref 269)) := by kernel_rfl
theorem xg__law_spelled (h : sc.names.lookup (Str.ofString "_law_spelled") = some .globalImplicit) : Ex X σ (.Name (Str.ofString "_law_spelled") pos) (.raw (.ref 269)) := ex_glob h g__law_spelled (by decide +kernel)
theorem g__law_front : nsIn (frag w.params) mainGlobals (Str.ofString "_law_front") = some (some (.ref 274)) := by kernel_rfl
theorem xg__law_front (h : sc.names.lookup (Str.ofString "_law_front") = some .globalImplicit) : Ex X σ (.Name (Str.ofString "_law_front") pos) (.raw (.ref 274)) := ex_glob h g__law_front (by decide +kernel)
theorem g__law_joined : nsIn (frag w.params) mainGlobals (Str.ofString "_law_joined") = some (some (.ref 281)) := by kernel_rfl
theorem xg__law_joined (h : sc.names.lookup (Str.ofString "_law_joined") = some .globalImplicit) : Ex X σ (.Name (Str.ofString "_law_joined") pos) (.raw (.ref 281)) := ex_glob h g__law_joined (by decide +kernel)
theorem g__law_parted : nsIn (frag w.params) mainGlobals (Str.ofString "_law_parted") = some (some (.ref 288)) := by kernel_rfl
theorem xg__law_parted (h : sc.names.lookup (Str.ofString "_law_parted") = some .globalImplicit) : Ex X σ (.Name (Str.ofString "_law_parted") pos) (.raw (.ref 288)) := ex_glob h g__law_parted (by decide +kernel)
theorem g__law_root : nsIn (frag w.params) mainGlobals (Str.ofString "_law_root") = some (some (.ref 295)) := by kernel_rfl
theorem xg__law_root (h : sc.names.lookup (Str.ofString "_law_root") = some .globalImplicit) : Ex X σ (.Name (Str.ofString "_law_root") pos) (.raw (.ref 295)) := ex_glob h g__law_root (by decide +kernel)
theorem g__law_walk : nsIn (frag w.params) mainGlobals (Str.ofString "_law_walk") = some (some (.ref 302)) := by kernel_rfl
theorem xg__law_walk (h : sc.names.lookup (Str.ofString "_law_walk") = some .globalImplicit) : Ex X σ (.Name (Str.ofString "_law_walk") pos) (.raw (.ref 302)) := ex_glob h g__law_walk (by decide +kernel)
theorem g__law_ending : nsIn (frag w.params) mainGlobals (Str.ofString "_law_ending") = some (some (.ref 309)) := by kernel_rfl
theorem xg__law_ending (h : sc.names.lookup (Str.ofString "_law_ending") = some .globalImplicit) : Ex X σ (.Name (Str.ofString "_law_ending") pos) (.raw (.ref 309)) := ex_glob h g__law_ending (by decide +kernel)
theorem g__law_common : nsIn (frag w.params) mainGlobals (Str.ofString "_law_common") = some (some (.ref 314)) := by kernel_rfl
theorem xg__law_common (h : sc.names.lookup (Str.ofString "_law_common") = some .globalImplicit) : Ex X σ (.Name (Str.ofString "_law_common") pos) (.raw (.ref 314)) := ex_glob h g__law_common (by decide +kernel)
theorem g__law_way : nsIn (frag w.params) mainGlobals (Str.ofString "_law_way") = some (some (.ref 321)) := by kernel_rfl
theorem xg__law_way (h : sc.names.lookup (Str.ofString "_law_way") = some .globalImplicit) : Ex X σ (.Name (Str.ofString "_law_way") pos) (.raw (.ref 321)) := ex_glob h g__law_way (by decide +kernel)
theorem g__law_told : nsIn (frag w.params) mainGlobals (Str.ofString "_law_told") = some (some (.ref 328)) := by kernel_rfl
theorem xg__law_told (h : sc.names.lookup (Str.ofString "_law_told") = some .globalImplicit) : Ex X σ (.Name (Str.ofString "_law_told") pos) (.raw (.ref 328)) := ex_glob h g__law_told (by decide +kernel)
theorem g__law_did : nsIn (frag w.params) mainGlobals (Str.ofString "_law_did") = some (some (.ref 335)) := by kernel_rfl
theorem xg__law_did (h : sc.names.lookup (Str.ofString "_law_did") = some .globalImplicit) : Ex X σ (.Name (Str.ofString "_law_did") pos) (.raw (.ref 335)) := ex_glob h g__law_did (by decide +kernel)
theorem g__law_kind : nsIn (frag w.params) mainGlobals (Str.ofString "_law_kind") = some (some (.ref 342)) := by kernel_rfl
theorem xg__law_kind (h : sc.names.lookup (Str.ofString "_law_kind") = some .globalImplicit) : Ex X σ (.Name (Str.ofString "_law_kind") pos) (.raw (.ref 342)) := ex_glob h g__law_kind (by decide +kernel)
theorem g__law_more : nsIn (frag w.params) mainGlobals (Str.ofString "_law_more") = some (some (.ref 347)) := by kernel_rfl
theorem xg__law_more (h : sc.names.lookup (Str.ofString "_law_more") = some .globalImplicit) : Ex X σ (.Name (Str.ofString "_law_more") pos) (.raw (.ref 347)) := ex_glob h g__law_more (by decide +kernel)
theorem g__law_led : nsIn (frag w.params) mainGlobals (Str.ofString "_law_led") = some (some (.ref 352)) := by kernel_rfl
theorem xg__law_led (h : sc.names.lookup (Str.ofString "_law_led") = some .globalImplicit) : Ex X σ (.Name (Str.ofString "_law_led") pos) (.raw (.ref 352)) := ex_glob h g__law_led (by decide +kernel)
theorem g__law_seen : nsIn (frag w.params) mainGlobals (Str.ofString "_law_seen") = some (some (.ref 359)) := by kernel_rfl
theorem xg__law_seen (h : sc.names.lookup (Str.ofString "_law_seen") = some .globalImplicit) : Ex X σ (.Name (Str.ofString "_law_seen") pos) (.raw (.ref 359)) := ex_glob h g__law_seen (by decide +kernel)
theorem b_type : nsIn (frag w.params) mainGlobals (Str.ofString "type") = some none := by kernel_rfl
theorem xb_type (h : sc.names.lookup (Str.ofString "type") = some .globalImplicit) : Ex X σ (.Name (Str.ofString "type") pos) (.raw (.type "type")) := ex_blt h b_type (by kernel_rfl) (by decide +kernel) (by decide +kernel)
theorem b_issubclass : nsIn (frag w.params) mainGlobals (Str.ofString "issubclass") = some none := by kernel_rfl
theorem xb_issubclass (h : sc.names.lookup (Str.ofString "issubclass") = some .globalImplicit) : Ex X σ (.Name (Str.ofString "issubclass") pos) (.raw (.builtin "issubclass")) := ex_blt h b_issubclass (by kernel_rfl) (by decide +kernel) (by decide +kernel)
theorem b_str : nsIn (frag w.params) mainGlobals (Str.ofString "str") = some none := by kernel_rfl
theorem xb_str (h : sc.names.lookup (Str.ofString "str") = some .globalImplicit) : Ex X σ (.Name (Str.ofString "str") pos) (.raw (.type "str")) := ex_blt h b_str (by kernel_rfl) (by decide +kernel) (by decide +kernel)
theorem b_bytes : nsIn (frag w.params) mainGlobals (Str.ofString "bytes") = some none := by kernel_rfl
theorem xb_bytes (h : sc.names.lookup (Str.ofString "bytes") = some .globalImplicit) : Ex X σ (.Name (Str.ofString "bytes") pos) (.raw (.type "bytes")) := ex_blt h b_bytes (by kernel_rfl) (by decide +kernel) (by decide +kernel)
theorem b_isinstance : nsIn (frag w.params) mainGlobals (Str.ofString "isinstance") = some none := by kernel_rfl
theorem xb_isinstance (h : sc.names.lookup (Str.ofString "isinstance") = some .globalImplicit) : Ex X σ (.Name (Str.ofString "isinstance") pos) (.raw (.builtin "isinstance")) := ex_blt h b_isinstance (by kernel_rfl) (by decide +kernel) (by decide +kernel)
theorem b_list : nsIn (frag w.params) mainGlobals (Str.ofString "list") = some none := by kernel_rfl
theorem xb_list (h : sc.names.lookup (Str.ofString "list") = some .globalImplicit) : Ex X σ (.Name (Str.ofString "list") pos) (.raw (.type "list")) := ex_blt h b_list (by kernel_rfl) (by decide +kernel) (by decide +kernel)
theorem b_tuple : nsIn (frag w.params) mainGlobals (Str.ofString "tuple") = some none := by kernel_rfl
theorem xb_tuple (h : sc.names.lookup (Str.ofString "tuple") = some .globalImplicit) : Ex X σ (.Name (Str.ofString "tuple") pos) (.raw (.type "tuple")) := ex_blt h b_tuple (by kernel_rfl) (by decide +kernel) (by decide +kernel)
theorem b_map : nsIn (frag w.params) mainGlobals (Str.ofString "map") = some none := by kernel_rfl
theorem xb_map (h : sc.names.lookup (Str.ofString "map") = some .globalImplicit) : Ex X σ (.Name (Str.ofString "map") pos) (.raw (.type "map")) := ex_blt h b_map (by kernel_rfl) (by decide +kernel) (by decide +kernel)
theorem b_min : nsIn (frag w.params) mainGlobals (Str.ofString "min") = some none := by kernel_rfl
theorem xb_min (h : sc.names.lookup (Str.ofString "min") = some .globalImplicit) : Ex X σ (.Name (Str.ofString "min") pos) (.raw (.builtin "min")) := ex_blt h b_min (by kernel_rfl) (by decide +kernel) (by decide +kernel)
theorem b_max : nsIn (frag w.params) mainGlobals (Str.ofString "max") = some none := by kernel_rfl
theorem xb_max (h : sc.names.lookup (Str.ofString "max") = some .globalImplicit) : Ex X σ (.Name (Str.ofString "max") pos) (.raw (.builtin "max")) := ex_blt h b_max (by kernel_rfl) (by decide +kernel) (by decide +kernel)
theorem b_enumerate : nsIn (frag w.params) mainGlobals (Str.ofString "enumerate") = some none := by kernel_rfl
theorem xb_enumerate (h : sc.names.lookup (Str.ofString "enumerate") = some .globalImplicit) : Ex X σ (.Name (Str.ofString "enumerate") pos) (.raw (.type "enumerate")) := ex_blt h b_enumerate (by kernel_rfl) (by decide +kernel) (by decide +kernel)
theorem b_len : nsIn (frag w.params) mainGlobals (Str.ofString "len") = some none := by kernel_rfl
theorem xb_len (h : sc.names.lookup (Str.ofString "len") = some .globalImplicit) : Ex X σ (.Name (Str.ofString "len") pos) (.raw (.builtin "len")) := ex_blt h b_len (by kernel_rfl) (by decide +kernel) (by decide +kernel)
theorem b_all : nsIn (frag w.params) mainGlobals (Str.ofString "all") = some none := by kernel_rfl
theorem xb_all (h : sc.names.lookup (Str.ofString "all") = some .globalImplicit) : Ex X σ (.Name (Str.ofString "all") pos) (.raw (.builtin "all")) := ex_blt h b_all (by kernel_rfl) (by decide +kernel) (by decide +kernel)
theorem b_range : nsIn (frag w.params) mainGlobals (Str.ofString "range") = some none := by kernel_rfl
theorem b_ValueError : nsIn (frag w.params) mainGlobals (Str.ofString "ValueError") = some none := by kernel_rfl
theorem b_TypeError : nsIn (frag w.params) mainGlobals (Str.ofString "TypeError") = some none := by kernel_rfl
theorem b_AttributeError : nsIn (frag w.params) mainGlobals (Str.ofString "AttributeError") = some none := by kernel_rfl
end
end Mine
end
local macro_rules | `(tactic| walk_at "side") => `(tactic| first | with_reducible assumption | omega | (simp only [List.length_append, List.length_cons, List.length_nil, List.length_map, List.length_replicate]; omega))
local macro_rules | `(tactic| walk_at "var") => `(tactic| first | with_reducible exact Mine.Var.here | (with_reducible refine Mine.Var.there ?_; walk_at "var"))
local macro_rules | `(tactic| walk_at "set") => `(tactic| first | with_reducible exact Mine.Set1.here | (with_reducible apply Mine.Set1.there; walk_at "set"))
local macro_rules | `(tactic| walk_at "small") => `(tactic| first | exact trivial | (show List.length _ ≤ _; walk_at "side"))
local macro_rules | `(tactic| walk_at "few") => `(tactic| exact Nat.le_of_ble_eq_true rfl)
section
open PySem PySem.W PyProof.Rows PySem.Calls
set_option Elab.async false
set_option linter.unusedVariables false
set_option maxRecDepth 100000
namespace Mine
section
variable {w : World} {mg mb : Str → Option Value}
local macro_rules | `(tactic| walk_at "side") => `(tactic| first | assumption | omega | (simp only [List.length_append, List.length_cons, List.length_nil, List.length_map, List.length_replicate]; omega))

theorem c_fspath (x : List Nat) : Fn (bs w mg mb) (.ref 101) 1 [.str x] (.str x) := by
  refine fn_go (N := [Str.ofString "path", Str.ofString "kind", Str.ofString "hook", Str.ofString "given"]) (σ := [.val (.str x), .no, .no, .no]) (ps := [Str.ofString "path"]) (rest := [Str.ofString "kind", Str.ofString "hook", Str.ofString "given"]) ⟨_, _, _, rfl⟩ rfl rfl (binds1 (a := .str x) fun v => rfl) rfl (by decide +kernel) rfl rfl ?_
  intro X ho hl
  apply sx_set
  · exact (ex_call (xb_type rfl) (es_cons (ex_loc (by walk_at "var")) es_nil) fn_type_str rfl)
  · walk_at "set"
  · exact ho
  · rfl
  exact sx_if_tr (tst_val (ex_call (xb_issubclass rfl) (es_cons (ex_loc (by walk_at "var")) (es_cons (ex_tuple (es_cons (xb_str rfl) (es_cons (xb_bytes rfl) es_nil)) (by walk_at "few")) es_nil)) fn_issub rfl) rfl (by walk_at "small")) rfl (sx_ret (ex_loc (by walk_at "var")))
local macro_rules | `(tactic| walk_at "fn fspath") => `(tactic| exact c_fspath _)
theorem c_get_sep (x : List Nat) : Fn (bs w mg mb) (.ref 129) 1 [.str x] (.str [47]) := by
  refine fn_go (N := [Str.ofString "path"]) (σ := [.val (.str x)]) (ps := [Str.ofString "path"]) (rest := []) ⟨_, _, _, rfl⟩ rfl rfl (binds1 (a := .str x) fun v => rfl) rfl (by decide +kernel) rfl rfl ?_
  intro X ho hl
  exact sx_if_fr (tst_val (ex_call (xb_isinstance rfl) (es_cons (ex_loc (by walk_at "var")) (es_cons (xb_bytes rfl) es_nil)) fn_isi_bytes rfl) rfl (by walk_at "small")) rfl (sx_ret (ex_str (l := [47]) rfl))
local macro_rules | `(tactic| walk_at "fn _get_sep") => `(tactic| exact c_get_sep _)
theorem c_isabs (x : List Nat) : Fn (bs w mg mb) (.ref 136) 2 [.str x] (.bool (x.head? == some 47)) := by
  refine fn_go (N := [Str.ofString "s", Str.ofString "sep"]) (σ := [.val (.str x), .no]) (ps := [Str.ofString "s"]) (rest := [Str.ofString "sep"]) ⟨_, _, _, rfl⟩ rfl rfl (binds1 (a := .str x) fun v => rfl) rfl (by decide +kernel) rfl rfl ?_
  intro X ho hl
  refine sx_cons s1_doc ?_
  apply sx_set
  · exact (ex_call (xg_fspath rfl) (es_cons (ex_loc (by walk_at "var")) es_nil) (Fn.inX (by walk_at "fn fspath") (by omega)) rfl)
  · walk_at "set"
  · exact ho
  · rfl
  apply sx_set
  · exact (ex_call (xg__get_sep rfl) (es_cons (ex_loc (by walk_at "var")) es_nil) (Fn.inX (by walk_at "fn _get_sep") (by omega)) rfl)
  · walk_at "set"
  · exact ho
  · rfl
  exact sx_ret (ex_meth1 (ex_loc (by walk_at "var")) (ex_loc (by walk_at "var")) m_startswith rfl rfl rfl)

/-! the slash -/
noncomputable def headS (x : List Nat) : List Nat := slc none (some (rfindc 47 x + 1)) x
noncomputable def tailS (x : List Nat) : List Nat := slc (some (rfindc 47 x + 1)) none x
noncomputable def trimS (h : List Nat) : List Nat := if (!h.isEmpty && h != List.replicate h.length 47) = true then (h.reverse.dropWhile (· == 47)).reverse else h
theorem slc_len {α : Type} (lo hi : Option Int) (x : List α) : (slc lo hi x).length ≤ x.length := by
  unfold slc; simp only [List.length_take, List.length_drop]; omega
theorem headS_len (x : List Nat) : (headS x).length ≤ x.length := slc_len _ _ _
theorem c_dirname (x : List Nat) (hx : x.length ≤ sizeLine) : Fn (bs w mg mb) (.ref 181) 2 [.str x] (.str (trimS (headS x))) := by
  refine fn_go (N := [Str.ofString "p", Str.ofString "sep", Str.ofString "i", Str.ofString "head"]) (σ := [.val (.str x), .no, .no, .no]) (ps := [Str.ofString "p"]) (rest := [Str.ofString "sep", Str.ofString "i", Str.ofString "head"]) ⟨_, _, _, rfl⟩ rfl rfl (binds1 (a := .str x) fun v => rfl) rfl (by decide +kernel) rfl rfl ?_
  intro X ho hl
  have hh := headS_len x
  refine sx_cons s1_doc ?_
  apply sx_set
  · exact (ex_call (xg_fspath rfl) (es_cons (ex_loc (by walk_at "var")) es_nil) (Fn.inX (by walk_at "fn fspath") (by omega)) rfl)
  · walk_at "set"
  · exact ho
  · rfl
  apply sx_set
  · exact (ex_call (xg__get_sep rfl) (es_cons (ex_loc (by walk_at "var")) es_nil) (Fn.inX (by walk_at "fn _get_sep") (by omega)) rfl)
  · walk_at "set"
  · exact ho
  · rfl
  apply sx_set
  · exact (ex_bin (ex_meth1 (ex_loc (by walk_at "var")) (ex_loc (by walk_at "var")) m_rfind rfl rfl rfl) ex_int bop_add_int)
  · walk_at "set"
  · exact ho
  · rfl
  apply sx_set
  · exact (ex_slice_str (ex_loc (by walk_at "var")) pt_none (pt_some (ex_loc (by walk_at "var"))) (by walk_at "side"))
  · walk_at "set"
  · exact ho
  · rfl
  change Sx X [_, _, _, .val (.str (headS x))] _ _
  apply sx_if_both
  · exact (tst_bool (and_cons (tst_val (ex_loc (by walk_at "var")) rfl (by walk_at "small")) (fun hc => (and_cons (tst_cmp1 (ex_loc (by walk_at "var")) (ex_bin (ex_loc (by walk_at "var")) (ex_call (xb_len rfl) (es_cons (ex_loc (by walk_at "var")) es_nil) (fn_len_str (by walk_at "side")) rfl) (bop_mul_sign (by walk_at "side"))) cmp_ne_str rfl) (fun hc => and_nil)))))
  · intro hb
    apply sx_set
    · exact (ex_meth1 (ex_loc (by walk_at "var")) (ex_loc (by walk_at "var")) (m_rstrip (by walk_at "side")) rfl rfl rfl)
    · walk_at "set"
    · exact ho
    · rfl
    exact sx_nil
  · intro hb
    refine (sx_ret (ex_loc (by walk_at "var"))).to ?_
    unfold trimS; rw [if_pos (by simpa using hb)]
  · intro hb; exact sx_nil
  · intro hb
    refine (sx_ret (ex_loc (by walk_at "var"))).to ?_
    unfold trimS; rw [if_neg (by simpa using hb)]
theorem c_basename (x : List Nat) (hx : x.length ≤ sizeLine) : Fn (bs w mg mb) (.ref 174) 2 [.str x] (.str (tailS x)) := by
  refine fn_go (N := [Str.ofString "p", Str.ofString "sep", Str.ofString "i"]) (σ := [.val (.str x), .no, .no]) (ps := [Str.ofString "p"]) (rest := [Str.ofString "sep", Str.ofString "i"]) ⟨_, _, _, rfl⟩ rfl rfl (binds1 (a := .str x) fun _ => rfl) rfl (by decide +kernel) rfl rfl ?_
  intro X ho hl
  refine sx_cons s1_doc ?_
  apply sx_set
  · exact (ex_call (xg_fspath rfl) (es_cons (ex_loc (by walk_at "var")) es_nil) (Fn.inX (by walk_at "fn fspath") (by omega)) rfl)
  · walk_at "set"
  · exact ho
  · rfl
  apply sx_set
  · exact (ex_call (xg__get_sep rfl) (es_cons (ex_loc (by walk_at "var")) es_nil) (Fn.inX (by walk_at "fn _get_sep") (by omega)) rfl)
  · walk_at "set"
  · exact ho
  · rfl
  apply sx_set
  · exact (ex_bin (ex_meth1 (ex_loc (by walk_at "var")) (ex_loc (by walk_at "var")) m_rfind rfl rfl rfl) ex_int bop_add_int)
  · walk_at "set"
  · exact ho
  · rfl
  exact sx_ret (ex_slice_str (ex_loc (by walk_at "var")) (pt_some (ex_loc (by walk_at "var"))) pt_none (by walk_at "side"))
theorem c_split (x : List Nat) (hx : x.length ≤ sizeLine) : Fn (bs w mg mb) (.ref 150) 2 [.str x] (.tup [.str (trimS (headS x)), .str (tailS x)]) := by
  refine fn_go (N := [Str.ofString "p", Str.ofString "sep", Str.ofString "i", Str.ofString "head", Str.ofString "tail"]) (σ := [.val (.str x), .no, .no, .no, .no]) (ps := [Str.ofString "p"]) (rest := [Str.ofString "sep", Str.ofString "i", Str.ofString "head", Str.ofString "tail"]) ⟨_, _, _, rfl⟩ rfl rfl (binds1 (a := .str x) fun _ => rfl) rfl (by decide +kernel) rfl rfl ?_
  intro X ho hl
  have hh := headS_len x
  refine sx_cons s1_doc ?_
  apply sx_set
  · exact (ex_call (xg_fspath rfl) (es_cons (ex_loc (by walk_at "var")) es_nil) (Fn.inX (by walk_at "fn fspath") (by omega)) rfl)
  · walk_at "set"
  · exact ho
  · rfl
  apply sx_set
  · exact (ex_call (xg__get_sep rfl) (es_cons (ex_loc (by walk_at "var")) es_nil) (Fn.inX (by walk_at "fn _get_sep") (by omega)) rfl)
  · walk_at "set"
  · exact ho
  · rfl
  apply sx_set
  · exact (ex_bin (ex_meth1 (ex_loc (by walk_at "var")) (ex_loc (by walk_at "var")) m_rfind rfl rfl rfl) ex_int bop_add_int)
  · walk_at "set"
  · exact ho
  · rfl
  apply sx_cons
  · apply s1_tupS
    · exact (ex_tuple (es_cons (ex_slice_str (ex_loc (by walk_at "var")) pt_none (pt_some (ex_loc (by walk_at "var"))) (by walk_at "side")) (es_cons (ex_slice_str (ex_loc (by walk_at "var")) (pt_some (ex_loc (by walk_at "var"))) pt_none (by walk_at "side")) es_nil)) (by walk_at "few"))
    · rfl
    · apply Sets.cons
      · walk_at "set"
      · apply Sets.cons
        · walk_at "set"
        · exact Sets.nil
    · exact ho
    · rfl
  change Sx X [_, _, _, .val (.str (headS x)), .val (.str (tailS x))] _ _
  apply sx_if_both
  · exact (tst_bool (and_cons (tst_val (ex_loc (by walk_at "var")) rfl (by walk_at "small")) (fun hc => (and_cons (tst_cmp1 (ex_loc (by walk_at "var")) (ex_bin (ex_loc (by walk_at "var")) (ex_call (xb_len rfl) (es_cons (ex_loc (by walk_at "var")) es_nil) (fn_len_str (by walk_at "side")) rfl) (bop_mul_sign (by walk_at "side"))) cmp_ne_str rfl) (fun hc => and_nil)))))
  · intro hb
    apply sx_set
    · exact (ex_meth1 (ex_loc (by walk_at "var")) (ex_loc (by walk_at "var")) (m_rstrip (by walk_at "side")) rfl rfl rfl)
    · walk_at "set"
    · exact ho
    · rfl
    exact sx_nil
  · intro hb
    refine (sx_ret (ex_tuple (es_cons (ex_loc (by walk_at "var")) (es_cons (ex_loc (by walk_at "var")) es_nil)) (by walk_at "few"))).to ?_
    unfold trimS; rw [if_pos (by simpa using hb)]
  · intro hb; exact sx_nil
  · intro hb
    refine (sx_ret (ex_tuple (es_cons (ex_loc (by walk_at "var")) (es_cons (ex_loc (by walk_at "var")) es_nil)) (by walk_at "few"))).to ?_
    unfold trimS; rw [if_neg (by simpa using hb)]
noncomputable def rootR (x : List Nat) : List Nat := if (slc none (some 1) x != [47]) = true then [] else if (slc (some 1) (some 2) x != [47] || slc (some 2) (some 3) x == [47]) = true then [47] else slc none (some 2) x
noncomputable def rootT (x : List Nat) : List Nat := if (slc none (some 1) x != [47]) = true then x else if (slc (some 1) (some 2) x != [47] || slc (some 2) (some 3) x == [47]) = true then slc (some 1) none x else slc (some 2) none x
theorem c_splitroot (x : List Nat) (hx : x.length ≤ sizeLine) : Fn (bs w mg mb) (.ref 167) 2 [.str x] (.tup [.str [], .str (rootR x), .str (rootT x)]) := by
  refine fn_go (N := [Str.ofString "p", Str.ofString "sep", Str.ofString "empty"]) (σ := [.val (.str x), .no, .no]) (ps := [Str.ofString "p"]) (rest := [Str.ofString "sep", Str.ofString "empty"]) ⟨_, _, _, rfl⟩ rfl rfl (binds1 (a := .str x) fun _ => rfl) rfl (by decide +kernel) rfl rfl ?_
  intro X ho hl
  refine sx_cons s1_doc ?_
  apply sx_set
  · exact (ex_call (xg_fspath rfl) (es_cons (ex_loc (by walk_at "var")) es_nil) (Fn.inX (by walk_at "fn fspath") (by omega)) rfl)
  · walk_at "set"
  · exact ho
  · rfl
  apply sx_if_f
  · exact (tst_val (ex_call (xb_isinstance rfl) (es_cons (ex_loc (by walk_at "var")) (es_cons (xb_bytes rfl) es_nil)) fn_isi_bytes rfl) rfl (by walk_at "small"))
  · rfl
  · apply sx_set
    · exact (ex_str (l := [47]) rfl)
    · walk_at "set"
    · exact ho
    · rfl
    apply sx_set
    · exact (ex_str (l := []) rfl)
    · walk_at "set"
    · exact ho
    · rfl
    exact sx_nil
  refine sx_one (s1_if (tst_cmp1 (ex_slice_str (ex_loc (by walk_at "var")) pt_none (pt_some ex_int) (by walk_at "side")) (ex_loc (by walk_at "var")) cmp_ne_str rfl) (fun hb => ?_) (fun hb => ?_)) (fun τ e => by cases e)
  · refine (sx_ret (ex_tuple (es_cons (ex_loc (by walk_at "var")) (es_cons (ex_loc (by walk_at "var")) (es_cons (ex_loc (by walk_at "var")) es_nil))) (by walk_at "few"))).to ?_
    unfold rootR rootT; rw [if_pos hb, if_pos hb]
  · refine sx_one (s1_if (tst_bool (or_cons (tst_cmp1 (ex_slice_str (ex_loc (by walk_at "var")) (pt_some ex_int) (pt_some ex_int) (by walk_at "side")) (ex_loc (by walk_at "var")) cmp_ne_str rfl) (fun hc => (or_cons (tst_cmp1 (ex_slice_str (ex_loc (by walk_at "var")) (pt_some ex_int) (pt_some ex_int) (by walk_at "side")) (ex_loc (by walk_at "var")) cmp_eq_str rfl) (fun hc => or_nil))))) (fun hc => ?_) (fun hc => ?_)) (fun τ e => by cases e)
    · refine (sx_ret (ex_tuple (es_cons (ex_loc (by walk_at "var")) (es_cons (ex_loc (by walk_at "var")) (es_cons (ex_slice_str (ex_loc (by walk_at "var")) (pt_some ex_int) pt_none (by walk_at "side")) es_nil))) (by walk_at "few"))).to ?_
      have hc' : (slc (some 1) (some 2) x != [47] || slc (some 2) (some 3) x == [47]) = true := by rw [Bool.or_false] at hc; exact hc
      unfold rootR rootT; simp only [hb, hc', Bool.false_eq_true, if_false, if_true]
    · refine (sx_ret (ex_tuple (es_cons (ex_loc (by walk_at "var")) (es_cons (ex_slice_str (ex_loc (by walk_at "var")) pt_none (pt_some ex_int) (by walk_at "side")) (es_cons (ex_slice_str (ex_loc (by walk_at "var")) (pt_some ex_int) pt_none (by walk_at "side")) es_nil))) (by walk_at "few"))).to ?_
      have hc' : (slc (some 1) (some 2) x != [47] || slc (some 2) (some 3) x == [47]) = false := by rw [Bool.or_false] at hc; exact hc
      unfold rootR rootT; simp only [hb, hc', Bool.false_eq_true, if_false]

/-! the ending -/
noncomputable abbrev notDot (x : List Nat) (f : Int) : Bool := slc (some f) (some (f + 1)) x != [46]
noncomputable def extHas (x : List Nat) : Bool := decide (rfindc 47 x < rfindc 46 x) && scan (notDot x) (rfindc 46 x) x.length (rfindc 47 x + 1)
noncomputable def extA (x : List Nat) : List Nat := if extHas x = true then slc none (some (rfindc 46 x)) x else x
noncomputable def extB (x : List Nat) : List Nat := if extHas x = true then slc (some (rfindc 46 x)) none x else slc none (some 0) x
theorem rfindc_lo (c : Nat) (x : List Nat) : -1 ≤ rfindc c x := by
  unfold rfindc; split <;> omega
theorem lastAt_lt (c : Nat) : ∀ (x : List Nat) (i : Nat), lastAt c x = some i → i < x.length := by
  intro x i h
  rcases lastAt_spec c x with ⟨h1, _⟩ | ⟨j, h1, h2, _⟩
  · rw [h] at h1; cases h1
  · rw [h] at h1; cases h1; exact (List.getElem?_eq_some_iff.mp h2).1
theorem rfindc_hi (c : Nat) (x : List Nat) : rfindc c x ≤ x.length := by
  unfold rfindc
  split
  · rename_i i h; have := lastAt_lt c x i h; omega
  · omega
theorem c_splitext_ (x : List Nat) (hx : x.length ≤ sizeLine) : Fn (bs w mg mb) (.ref 115) 2 [.str x, .str [47], .none, .str [46]] (.tup [.str (extA x), .str (extB x)]) := by
  refine fn_go (N := [Str.ofString "p", Str.ofString "sep", Str.ofString "altsep", Str.ofString "extsep", Str.ofString "sepIndex", Str.ofString "altsepIndex", Str.ofString "dotIndex", Str.ofString "filenameIndex"]) (σ := [.val (.str x), .val (.str [47]), .val (.none), .val (.str [46]), .no, .no, .no, .no]) (ps := [Str.ofString "p", Str.ofString "sep", Str.ofString "altsep", Str.ofString "extsep"]) (rest := [Str.ofString "sepIndex", Str.ofString "altsepIndex", Str.ofString "dotIndex", Str.ofString "filenameIndex"]) ⟨_, _, _, rfl⟩ rfl rfl (binds4 (a := .str x) (b := .str [47]) (c := .none) (d := .str [46]) fun _ _ _ _ => rfl) rfl (by decide +kernel) rfl rfl ?_
  intro X ho hl
  have hlo := rfindc_lo 47 x
  have hhi := rfindc_hi 46 x
  refine sx_cons s1_doc ?_
  apply sx_set
  · exact (ex_meth1 (ex_loc (by walk_at "var")) (ex_loc (by walk_at "var")) m_rfind rfl rfl rfl)
  · walk_at "set"
  · exact ho
  · rfl
  apply sx_if_skip
  · exact (tst_val (ex_loc (by walk_at "var")) rfl (by walk_at "small"))
  · rfl
  apply sx_set
  · exact (ex_meth1 (ex_loc (by walk_at "var")) (ex_loc (by walk_at "var")) m_rfind rfl rfl rfl)
  · walk_at "set"
  · exact ho
  · rfl
  by_cases hb : rfindc 47 x < rfindc 46 x
  · cases hg : scan (notDot x) (rfindc 46 x) x.length (rfindc 47 x + 1) with
    | true =>
      refine (sx_if_tr (o := .ret (.tup [.str (slc none (some (rfindc 46 x)) x), .str (slc (some (rfindc 46 x)) none x)])) (tst_cmp1 (ex_loc (by walk_at "var")) (ex_loc (by walk_at "var")) cmp_gt_int rfl) (decide_eq_true hb) ?_).to ?_
      · apply sx_set
        · exact (ex_bin (ex_loc (by walk_at "var")) ex_int bop_add_int)
        · walk_at "set"
        · exact ho
        · rfl
        refine sx_one (s1_while (n := x.length) ((whl_scan (fun f => [.val (.str x), .val (.str [47]), .val .none, .val (.str [46]), .val (.int (rfindc 47 x)), .no, .val (.int (rfindc 46 x)), .val (.int f)]) (notDot x) (rfindc 46 x) _ (fun f => ?_) (fun f hf => ?_) (fun f hf => ?_) x.length (rfindc 47 x + 1)).1 hg)) (fun _ e => by cases e)
        · exact (tst_cmp1 (ex_loc (by walk_at "var")) (ex_loc (by walk_at "var")) cmp_lt_int rfl)
        · exact sx_if_tr (tst_cmp1 (ex_slice_str (ex_loc (by walk_at "var")) (pt_some (ex_loc (by walk_at "var"))) (pt_some (ex_bin (ex_loc (by walk_at "var")) ex_int bop_add_int)) (by walk_at "side")) (ex_loc (by walk_at "var")) cmp_ne_str rfl) hf (sx_ret (ex_tuple (es_cons (ex_slice_str (ex_loc (by walk_at "var")) pt_none (pt_some (ex_loc (by walk_at "var"))) (by walk_at "side")) (es_cons (ex_slice_str (ex_loc (by walk_at "var")) (pt_some (ex_loc (by walk_at "var"))) pt_none (by walk_at "side")) es_nil)) (by walk_at "few")))
        · refine sx_if_skip (tst_cmp1 (ex_slice_str (ex_loc (by walk_at "var")) (pt_some (ex_loc (by walk_at "var"))) (pt_some (ex_bin (ex_loc (by walk_at "var")) ex_int bop_add_int)) (by walk_at "side")) (ex_loc (by walk_at "var")) cmp_ne_str rfl) hf (sx_cons ?_ sx_nil)
          apply s1_aug
          · walk_at "var"
          · exact ex_int
          · exact iop_int
          · walk_at "set"
          · exact .inr ho
      · unfold extA extB extHas; rw [decide_eq_true hb, hg]; rfl
    | false =>
      apply sx_if_t
      · exact (tst_cmp1 (ex_loc (by walk_at "var")) (ex_loc (by walk_at "var")) cmp_gt_int rfl)
      · exact decide_eq_true hb
      · apply sx_set
        · exact (ex_bin (ex_loc (by walk_at "var")) ex_int bop_add_int)
        · walk_at "set"
        · exact ho
        · rfl
        refine sx_cons (s1_while (n := x.length) ((whl_scan (fun f => [.val (.str x), .val (.str [47]), .val .none, .val (.str [46]), .val (.int (rfindc 47 x)), .no, .val (.int (rfindc 46 x)), .val (.int f)]) (notDot x) (rfindc 46 x) (.tup [.str (slc none (some (rfindc 46 x)) x), .str (slc (some (rfindc 46 x)) none x)]) (fun f => ?_) (fun f hf => ?_) (fun f hf => ?_) x.length (rfindc 47 x + 1)).2 (by omega) hg)) sx_nil
        · exact (tst_cmp1 (ex_loc (by walk_at "var")) (ex_loc (by walk_at "var")) cmp_lt_int rfl)
        · exact sx_if_tr (tst_cmp1 (ex_slice_str (ex_loc (by walk_at "var")) (pt_some (ex_loc (by walk_at "var"))) (pt_some (ex_bin (ex_loc (by walk_at "var")) ex_int bop_add_int)) (by walk_at "side")) (ex_loc (by walk_at "var")) cmp_ne_str rfl) hf (sx_ret (ex_tuple (es_cons (ex_slice_str (ex_loc (by walk_at "var")) pt_none (pt_some (ex_loc (by walk_at "var"))) (by walk_at "side")) (es_cons (ex_slice_str (ex_loc (by walk_at "var")) (pt_some (ex_loc (by walk_at "var"))) pt_none (by walk_at "side")) es_nil)) (by walk_at "few")))
        · refine sx_if_skip (tst_cmp1 (ex_slice_str (ex_loc (by walk_at "var")) (pt_some (ex_loc (by walk_at "var"))) (pt_some (ex_bin (ex_loc (by walk_at "var")) ex_int bop_add_int)) (by walk_at "side")) (ex_loc (by walk_at "var")) cmp_ne_str rfl) hf (sx_cons ?_ sx_nil)
          apply s1_aug
          · walk_at "var"
          · exact ex_int
          · exact iop_int
          · walk_at "set"
          · exact .inr ho
      · refine (sx_ret (ex_tuple (es_cons (ex_loc (by walk_at "var")) (es_cons (ex_slice_str (ex_loc (by walk_at "var")) pt_none (pt_some ex_int) (by walk_at "side")) es_nil)) (by walk_at "few"))).to ?_
        unfold extA extB extHas; rw [decide_eq_true hb, hg]; rfl
  · apply sx_if_skip
    · exact (tst_cmp1 (ex_loc (by walk_at "var")) (ex_loc (by walk_at "var")) cmp_gt_int rfl)
    · exact decide_eq_false hb
    · refine (sx_ret (ex_tuple (es_cons (ex_loc (by walk_at "var")) (es_cons (ex_slice_str (ex_loc (by walk_at "var")) pt_none (pt_some ex_int) (by walk_at "side")) es_nil)) (by walk_at "few"))).to ?_
      unfold extA extB extHas; rw [decide_eq_false hb]; rfl
local macro_rules | `(tactic| walk_at "fn _splitext") => `(tactic| exact c_splitext_ _ (by walk_at "side"))
theorem c_splitext (x : List Nat) (hx : x.length ≤ sizeLine) : Fn (bs w mg mb) (.ref 157) 3 [.str x] (.tup [.str (extA x), .str (extB x)]) := by
  refine fn_go (N := [Str.ofString "p", Str.ofString "sep", Str.ofString "extsep"]) (σ := [.val (.str x), .no, .no]) (ps := [Str.ofString "p"]) (rest := [Str.ofString "sep", Str.ofString "extsep"]) ⟨_, _, _, rfl⟩ rfl rfl (binds1 (a := .str x) fun _ => rfl) rfl (by decide +kernel) rfl rfl ?_
  intro X ho hl
  apply sx_set
  · exact (ex_call (xg_fspath rfl) (es_cons (ex_loc (by walk_at "var")) es_nil) (Fn.inX (by walk_at "fn fspath") (by omega)) rfl)
  · walk_at "set"
  · exact ho
  · rfl
  apply sx_if_f
  · exact (tst_val (ex_call (xb_isinstance rfl) (es_cons (ex_loc (by walk_at "var")) (es_cons (xb_bytes rfl) es_nil)) fn_isi_bytes rfl) rfl (by walk_at "small"))
  · rfl
  · apply sx_set
    · exact (ex_str (l := [47]) rfl)
    · walk_at "set"
    · exact ho
    · rfl
    apply sx_set
    · exact (ex_str (l := [46]) rfl)
    · walk_at "set"
    · exact ho
    · rfl
    exact sx_nil
  exact sx_ret (ex_call (xg__splitext rfl) (es_cons (ex_loc (by walk_at "var")) (es_cons (ex_loc (by walk_at "var")) (es_cons ex_none (es_cons (ex_loc (by walk_at "var")) es_nil)))) (Fn.inX (by walk_at "fn _splitext") (by omega)) rfl)

/-! normpath -/
noncomputable def wt (L : List (List Nat)) : Nat := (L.map (·.length)).sum + L.length
theorem wt_app (L K : List (List Nat)) : wt (L ++ K) = wt L + wt K := by
  unfold wt; rw [List.map_append, List.sum_append, List.length_append]; omega
theorem wt_one (x : List Nat) : wt [x] = x.length + 1 := by simp [wt]
theorem wt_len (L : List (List Nat)) : L.length ≤ wt L := Nat.le_add_left _ _
theorem wt_dropLast (L : List (List Nat)) : wt L.dropLast ≤ wt L := by
  cases L with
  | nil => exact Nat.le_refl _
  | cons a r =>
    have := wt_app (a :: r).dropLast [(a :: r).getLast (by simp)]
    rw [List.dropLast_concat_getLast] at this
    omega
theorem wt_take_succ {L : List (List Nat)} {k : Nat} {c : List Nat} (h : L[k]? = some c) : wt (L.take (k + 1)) = wt (L.take k) + (c.length + 1) := by
  rw [List.take_add_one, h, wt_app, ← wt_one]; rfl
theorem wt_cons (a : List Nat) (L : List (List Nat)) : wt (a :: L) = a.length + 1 + wt L := by
  rw [show a :: L = [a] ++ L from rfl, wt_app, wt_one]
theorem wt_splitc (c : Nat) : ∀ t : List Nat, wt (splitc c t) = t.length + 1
  | [] => rfl
  | a :: r => by
    have ih := wt_splitc c r
    rw [splitc_cons]
    split
    · rw [wt_cons, ih, List.length_cons]; simp; omega
    · split
      · rename_i p ps h
        rw [h, wt_cons] at ih
        rw [wt_cons, List.length_cons, List.length_cons]; omega
      · rename_i h
        rw [h] at ih
        simp [wt] at ih
theorem last_map {acc : List (List Nat)} (h : (!(acc.map AV.str).isEmpty) = true) : (acc.map AV.str).getLast? = some (.str (acc.getLast?.getD [])) := by
  cases acc with
  | nil => simp at h
  | cons a r => rw [List.getLast?_map, List.getLast?_eq_some_getLast (by simp)]; rfl
end
end Mine
end
local macro_rules | `(tactic| walk_at "fn fspath") => `(tactic| exact Mine.c_fspath _)
local macro_rules | `(tactic| walk_at "fn _get_sep") => `(tactic| exact Mine.c_get_sep _)
section
open PySem PySem.W PyProof.Rows PySem.Calls
set_option Elab.async false
set_option linter.unusedVariables false
set_option maxRecDepth 100000
namespace Mine
section
variable {w : World} {mg mb : Str → Option Value}
local macro_rules | `(tactic| walk_at "itm") => `(tactic| exact last_map (by assumption))
noncomputable def normStep (r : List Nat) (acc : List (List Nat)) (c : List Nat) : List (List Nat) :=
  if (c.isEmpty || c == [46]) = true then acc
  else if (c != [46, 46] || (r.isEmpty && acc.isEmpty) || (!acc.isEmpty && acc.getLast?.getD [] == [46, 46])) = true then acc ++ [c]
  else if acc.isEmpty = true then acc else acc.dropLast
theorem normStep_wt (r : List Nat) (acc : List (List Nat)) (c : List Nat) : wt (normStep r acc c) ≤ wt acc + (c.length + 1) := by
  unfold normStep
  split
  · omega
  · split
    · rw [wt_app, wt_one]; exact Nat.le_refl _
    · split
      · omega
      · have := wt_dropLast acc; omega
noncomputable def normS (x : List Nat) : List Nat := if x.isEmpty = true then [46] else orT (rootR x ++ joinc [47] ((splitc 47 (rootT x)).foldl (normStep (rootR x)) [])) [46]

local macro_rules | `(tactic| walk_at "fn splitroot") => `(tactic| exact c_splitroot _ (by walk_at "side"))
theorem rootT_len (x : List Nat) : (rootT x).length ≤ x.length := by
  unfold rootT; split
  · exact Nat.le_refl _
  · split <;> exact slc_len _ _ _
theorem rootR_len (x : List Nat) : (rootR x).length ≤ 2 := by
  unfold rootR; split
  · exact Nat.zero_le _
  · split
    · decide
    · unfold slc; simp only [List.length_take]; exact Nat.le_trans (Nat.min_le_left _ _) (by unfold clipAt; simp; omega)
theorem joinc_len : ∀ (L : List (List Nat)), (joinc [47] L).length ≤ wt L
  | [] => Nat.zero_le _
  | [p] => by rw [wt_one]; exact Nat.le_succ _
  | p :: q :: r => by
    have ih := joinc_len (q :: r)
    rw [wt_cons]
    show (p ++ [47] ++ joinc [47] (q :: r)).length ≤ _
    simp only [List.length_append, List.length_cons, List.length_nil]; omega
theorem foldl_av (r : List Nat) : ∀ (L acc : List (List Nat)), (L.map AV.str).foldl (fun b a => match a with | .str c => normStep r b c | _ => b) acc = L.foldl (normStep r) acc
  | [], _ => rfl
  | c :: L, acc => foldl_av r L (normStep r acc c)
theorem c_normpath (x : List Nat) (hx : x.length + 4 ≤ sizeLine) : Fn (bs w mg mb) (.ref 188) 3 [.str x] (.str (normS x)) := by
  refine fn_go (N := [Str.ofString "path", Str.ofString "sep", Str.ofString "dot", Str.ofString "dotdot", Str.ofString "_", Str.ofString "initial_slashes", Str.ofString "comps", Str.ofString "new_comps", Str.ofString "comp"]) (σ := [.val (.str x), .no, .no, .no, .no, .no, .no, .no, .no]) (ps := [Str.ofString "path"]) (rest := [Str.ofString "sep", Str.ofString "dot", Str.ofString "dotdot", Str.ofString "_", Str.ofString "initial_slashes", Str.ofString "comps", Str.ofString "new_comps", Str.ofString "comp"]) ⟨_, _, _, rfl⟩ rfl rfl (binds1 (a := .str x) fun _ => rfl) rfl (by decide +kernel) rfl rfl ?_
  intro X ho hl
  refine sx_cons s1_doc ?_
  apply sx_set
  · exact (ex_call (xg_fspath rfl) (es_cons (ex_loc (by walk_at "var")) es_nil) (Fn.inX (by walk_at "fn fspath") (by omega)) rfl)
  · walk_at "set"
  · exact ho
  · rfl
  apply sx_if_f
  · exact (tst_val (ex_call (xb_isinstance rfl) (es_cons (ex_loc (by walk_at "var")) (es_cons (xb_bytes rfl) es_nil)) fn_isi_bytes rfl) rfl (by walk_at "small"))
  · rfl
  · apply sx_set
    · exact (ex_str (l := [47]) rfl)
    · walk_at "set"
    · exact ho
    · rfl
    apply sx_set
    · exact (ex_str (l := [46]) rfl)
    · walk_at "set"
    · exact ho
    · rfl
    apply sx_set
    · exact (ex_str (l := [46, 46]) rfl)
    · walk_at "set"
    · exact ho
    · rfl
    exact sx_nil
  by_cases hx0 : x.isEmpty = true
  · refine (sx_if_tr (tst_not (tst_val (ex_loc (by walk_at "var")) rfl (by walk_at "small"))) (by rw [hx0]; rfl) (sx_ret (ex_loc (by walk_at "var")))).to ?_
    unfold normS; rw [if_pos hx0]
  apply sx_if_skip
  · exact (tst_not (tst_val (ex_loc (by walk_at "var")) rfl (by walk_at "small")))
  · simpa using hx0
  have ht := rootT_len x
  have hr := rootR_len x
  have hwt := wt_splitc 47 (rootT x)
  have hwl := wt_len (splitc 47 (rootT x))
  apply sx_cons
  · apply s1_tup
    · exact (ex_call (xg_splitroot rfl) (es_cons (ex_loc (by walk_at "var")) es_nil) (Fn.inX (by walk_at "fn splitroot") (by omega)) rfl)
    · rfl
    · apply Sets.cons
      · walk_at "set"
      · apply Sets.cons
        · walk_at "set"
        · apply Sets.cons
          · walk_at "set"
          · exact Sets.nil
    · exact ho
    · rfl
    · rfl
  apply sx_set
  · exact (ex_meth1 (ex_loc (by walk_at "var")) (ex_loc (by walk_at "var")) (m_split (by walk_at "side")) rfl rfl rfl)
  · walk_at "set"
  · exact ho
  · rfl
  apply sx_cons
  · apply s1_newlist
    · walk_at "set"
    · rfl
    · walk_at "set"
    · rfl
  change Sx X [.val (.str (rootT x)), _, _, _, .val (.str []), .val (.str (rootR x)), .val (.strs (splitc 47 (rootT x))), .own (([] : List (List Nat)).map AV.str), .no] _ _
  apply sx_for_fold (fun (acc : List (List Nat)) bd => [.val (.str (rootT x)), .val (.str [47]), .val (.str [46]), .val (.str [46, 46]), .val (.str []), .val (.str (rootR x)), .val (.strs (splitc 47 (rootT x))), .own (acc.map AV.str), bd]) (fun b a => match a with | .str c => normStep (rootR x) b c | _ => b) (fun k acc => wt acc ≤ wt ((splitc 47 (rootT x)).take k)) (b := []) (bd := .no)
  · exact (ex_loc (by walk_at "var"))
  · exact Nat.zero_le _
  · intro b bd a; walk_at "set"
  · intro k acc a hacc ha
    rw [List.getElem?_map] at ha
    obtain ⟨c, hc, rfl⟩ := Option.map_eq_some_iff.mp ha
    refine ⟨?_, ?_⟩
    · have hck := wt_take_succ hc
      have hk : wt (acc) ≤ wt (splitc 47 (rootT x)) := by
        have := wt_app ((splitc 47 (rootT x)).take k) ((splitc 47 (rootT x)).drop k)
        rw [List.take_append_drop] at this
        omega
      have hal := wt_len acc
      have hcl : c.length ≤ sizeLine := by
        have := wt_app ((splitc 47 (rootT x)).take (k + 1)) ((splitc 47 (rootT x)).drop (k + 1))
        rw [List.take_append_drop] at this
        omega
      have ham : (acc.map AV.str).length ≤ sizeLine := by rw [List.length_map]; omega
      by_cases h1 : (c.isEmpty || c == [46]) = true
      · refine .inr ((sx_if_tr (o := .cont _) (tst_bool (or_cons (tst_not (tst_val (ex_loc (by walk_at "var")) rfl (by walk_at "small"))) (fun hc => (or_cons (tst_cmp1 (ex_loc (by walk_at "var")) (ex_loc (by walk_at "var")) cmp_eq_str rfl) (fun hc => or_nil))))) (by simpa [Bool.or_assoc] using h1) (sx_one s1_cont (fun _ e => by cases e))).to ?_)
        show Out.cont _ = Out.cont _
        dsimp only
        unfold normStep
        rw [if_pos h1]
      · refine .inl ?_
        apply sx_if_skip
        · exact (tst_bool (or_cons (tst_not (tst_val (ex_loc (by walk_at "var")) rfl (by walk_at "small"))) (fun hc => (or_cons (tst_cmp1 (ex_loc (by walk_at "var")) (ex_loc (by walk_at "var")) cmp_eq_str rfl) (fun hc => or_nil)))))
        · simpa [Bool.or_assoc] using h1
        dsimp only
        by_cases h2 : (c != [46, 46] || ((rootR x).isEmpty && acc.isEmpty) || (!acc.isEmpty && acc.getLast?.getD [] == [46, 46])) = true
        · have e : normStep (rootR x) acc c = acc ++ [c] := by unfold normStep; rw [if_neg h1, if_pos h2]
          rw [e]
          apply sx_if_t
          · apply tst_lend (x := Str.ofString "new_comps")
            · walk_at "var"
            · walk_at "set"
            · rfl
            · exact (tst_bool (or_cons (tst_cmp1 (ex_loc (by walk_at "var")) (ex_loc (by walk_at "var")) cmp_ne_str rfl) (fun hc => (or_cons (tst_bool (and_cons (tst_not (tst_val (ex_loc (by walk_at "var")) rfl (by walk_at "small"))) (fun hc => (and_cons (tst_not (tst_val (ex_loc (by walk_at "var")) rfl (by walk_at "small"))) (fun hc => and_nil))))) (fun hc => (or_cons (tst_bool (and_cons (tst_val (ex_loc (by walk_at "var")) rfl (by walk_at "small")) (fun hc => (and_cons (tst_cmp1 (ex_sub (ex_loc (by walk_at "var")) (ex_neg ex_int) (itm_last (by walk_at "itm") (by walk_at "side"))) (ex_loc (by walk_at "var")) cmp_eq_str rfl) (fun hc => and_nil))))) (fun hc => or_nil)))))))
          · simpa [Bool.or_assoc] using h2
          · apply sx_cons
            · apply s1_append
              · walk_at "var"
              · exact (ex_loc (by walk_at "var"))
              · walk_at "set"
              · rfl
              · exact ham
              · walk_at "set"
              · rfl
              · rfl
              · rfl
            · exact sx_nil
          · rw [List.map_append]; exact sx_nil
        · by_cases h3 : acc.isEmpty = true
          · have e : normStep (rootR x) acc c = acc := by unfold normStep; rw [if_neg h1, if_neg h2, if_pos h3]
            rw [e]
            apply sx_if_f
            · apply tst_lend (x := Str.ofString "new_comps")
              · walk_at "var"
              · walk_at "set"
              · rfl
              · exact (tst_bool (or_cons (tst_cmp1 (ex_loc (by walk_at "var")) (ex_loc (by walk_at "var")) cmp_ne_str rfl) (fun hc => (or_cons (tst_bool (and_cons (tst_not (tst_val (ex_loc (by walk_at "var")) rfl (by walk_at "small"))) (fun hc => (and_cons (tst_not (tst_val (ex_loc (by walk_at "var")) rfl (by walk_at "small"))) (fun hc => and_nil))))) (fun hc => (or_cons (tst_bool (and_cons (tst_val (ex_loc (by walk_at "var")) rfl (by walk_at "small")) (fun hc => (and_cons (tst_cmp1 (ex_sub (ex_loc (by walk_at "var")) (ex_neg ex_int) (itm_last (by walk_at "itm") (by walk_at "side"))) (ex_loc (by walk_at "var")) cmp_eq_str rfl) (fun hc => and_nil))))) (fun hc => or_nil)))))))
            · simpa [Bool.or_assoc] using h2
            · apply sx_if_skip
              · apply tst_lend (x := Str.ofString "new_comps")
                · walk_at "var"
                · walk_at "set"
                · rfl
                · exact (tst_val (ex_loc (by walk_at "var")) rfl (by walk_at "small"))
              · simpa using h3
              · exact sx_nil
            · exact sx_nil
          · have e : normStep (rootR x) acc c = acc.dropLast := by unfold normStep; rw [if_neg h1, if_neg h2, if_neg h3]
            rw [e]
            apply sx_if_f
            · apply tst_lend (x := Str.ofString "new_comps")
              · walk_at "var"
              · walk_at "set"
              · rfl
              · exact (tst_bool (or_cons (tst_cmp1 (ex_loc (by walk_at "var")) (ex_loc (by walk_at "var")) cmp_ne_str rfl) (fun hc => (or_cons (tst_bool (and_cons (tst_not (tst_val (ex_loc (by walk_at "var")) rfl (by walk_at "small"))) (fun hc => (and_cons (tst_not (tst_val (ex_loc (by walk_at "var")) rfl (by walk_at "small"))) (fun hc => and_nil))))) (fun hc => (or_cons (tst_bool (and_cons (tst_val (ex_loc (by walk_at "var")) rfl (by walk_at "small")) (fun hc => (and_cons (tst_cmp1 (ex_sub (ex_loc (by walk_at "var")) (ex_neg ex_int) (itm_last (by walk_at "itm") (by walk_at "side"))) (ex_loc (by walk_at "var")) cmp_eq_str rfl) (fun hc => and_nil))))) (fun hc => or_nil)))))))
            · simpa [Bool.or_assoc] using h2
            · apply sx_if_t
              · apply tst_lend (x := Str.ofString "new_comps")
                · walk_at "var"
                · walk_at "set"
                · rfl
                · exact (tst_val (ex_loc (by walk_at "var")) rfl (by walk_at "small"))
              · simpa using h3
              · apply sx_cons
                · apply s1_pop
                  · walk_at "var"
                  · walk_at "set"
                  · rfl
                  · intro q
                    exact h3 (by rw [List.isEmpty_iff]; exact List.map_eq_nil_iff.mp q)
                  · exact ham
                  · walk_at "set"
                  · rfl
                  · rfl
                · exact sx_nil
              · exact sx_nil
            · rw [List.map_dropLast]; exact sx_nil
    · show wt (normStep (rootR x) acc c) ≤ _
      have := normStep_wt (rootR x) acc c
      rw [wt_take_succ hc]; omega
  · exact ho
  · rfl
  · intro bd' hbd hfin
    have hbn : bd'.isOwn = false := by rcases hbd with rfl | ⟨a, rfl⟩ <;> rfl
    rw [foldl_av] at hfin ⊢
    rw [List.length_map, List.take_length] at hfin
    generalize hL : (splitc 47 (rootT x)).foldl (normStep (rootR x)) [] = L at hfin ⊢
    have hlL := wt_len L
    have hjl := joinc_len L
    apply sx_cons
    · apply s1_lend (x := Str.ofString "new_comps")
      · walk_at "var"
      · walk_at "set"
      · show (!bd'.isOwn && true) = true; rw [hbn]; rfl
      · apply s1_assign
        · exact (ex_loc (by walk_at "var"))
        · walk_at "set"
        · exact .inr ho
        · rfl
    have hj : (L.map (·.length)).sum + L.length * ([47] : List Nat).length ≤ sizeLine := by
      show (L.map (·.length)).sum + L.length * 1 ≤ sizeLine
      have hw : wt L = (L.map (·.length)).sum + L.length := rfl
      omega
    apply sx_set
    · exact (ex_bin (ex_loc (by walk_at "var")) (ex_meth1 (ex_loc (by walk_at "var")) (ex_loc (by walk_at "var")) (m_join (by walk_at "side")) rfl rfl rfl) (bop_add_str (by walk_at "side")))
    · walk_at "set"
    · exact ho
    · rfl
    refine (sx_ret (ex_or_str (ex_loc (by walk_at "var")) (ex_loc (by walk_at "var")) (by walk_at "side"))).to ?_
    unfold normS; rw [if_neg hx0, hL]
local macro_rules | `(tactic| walk_at "fn normpath") => `(tactic| exact c_normpath _ (by walk_at "side"))
theorem c_abspath (x : List Nat) (hx : x.length + 4 ≤ sizeLine) (h : x.head? = some 47) : Fn (bs w mg mb) (.ref 195) 4 [.str x] (.str (normS x)) := by
  refine fn_go (N := [Str.ofString "path"]) (σ := [.val (.str x)]) (ps := [Str.ofString "path"]) (rest := []) ⟨_, _, _, rfl⟩ rfl rfl (binds1 (a := .str x) fun _ => rfl) rfl (by decide +kernel) rfl rfl ?_
  intro X ho hl
  refine sx_cons s1_doc ?_
  apply sx_set
  · exact (ex_call (xg_fspath rfl) (es_cons (ex_loc (by walk_at "var")) es_nil) (Fn.inX (by walk_at "fn fspath") (by omega)) rfl)
  · walk_at "set"
  · exact ho
  · rfl
  apply sx_if_f
  · exact (tst_val (ex_call (xb_isinstance rfl) (es_cons (ex_loc (by walk_at "var")) (es_cons (xb_bytes rfl) es_nil)) fn_isi_bytes rfl) rfl (by walk_at "small"))
  · rfl
  · apply sx_if_skip
    · exact (tst_not (tst_val (ex_meth1 (ex_loc (by walk_at "var")) (ex_str (l := [47]) rfl) m_startswith rfl rfl rfl) rfl (by walk_at "small")))
    · rw [h]; rfl
    · exact sx_nil
  exact sx_ret (ex_call (xg_normpath rfl) (es_cons (ex_loc (by walk_at "var")) es_nil) (Fn.inX (by walk_at "fn normpath") (by omega)) rfl)
end
end Mine
end
section
open PySem PySem.W PyProof.Rows PySem.Calls
set_option Elab.async false
set_option linter.unusedVariables false
set_option maxRecDepth 100000
namespace Mine
/-! spelling, sign by sign -/
noncomputable def tab (D : List (Nat × List Nat)) (s : Nat) : List Nat := (D.lookup s).getD [s]
noncomputable def spell (D : List (Nat × List Nat)) (x : List Nat) : List Nat := x.flatMap (tab D)
noncomputable def freshIn (c : Nat) (D : List (Nat × List Nat)) : Bool := D.all fun p => p.1 != c && !p.2.contains c
theorem spell_nil (x : List Nat) : spell [] x = x := by
  induction x with
  | nil => rfl
  | cons a r ih =>
    unfold spell at ih ⊢
    rw [List.flatMap_cons, ih]; rfl
theorem lookup_app {D : List (Nat × List Nat)} {c : Nat} {z : List Nat} {s : Nat} : (D ++ [(c, z)]).lookup s = match D.lookup s with | some y => some y | none => if s = c then some z else none := by
  induction D with
  | nil =>
    by_cases h : s = c
    · subst h; simp
    · have : (s == c) = false := by simpa using h
      simp [List.lookup_cons, this, h]
  | cons p r ih =>
    obtain ⟨k, v⟩ := p
    rw [List.cons_append, List.lookup_cons, List.lookup_cons]
    cases h : s == k with
    | true => rfl
    | false => exact ih
theorem subst1_tab {c : Nat} {z : List Nat} {D : List (Nat × List Nat)} (hf : freshIn c D = true) (s : Nat) : subst1 c z (tab D s) = tab (D ++ [(c, z)]) s := by
  unfold tab
  rw [lookup_app]
  cases h : D.lookup s with
  | none =>
    show subst1 c z [s] = _
    unfold subst1
    by_cases e : s = c
    · simp [e]
    · simp [e]
  | some y =>
    have hm := mem_look h
    have := List.all_eq_true.mp hf _ hm
    simp only [Bool.and_eq_true, Bool.not_eq_true', bne_iff_ne] at this
    exact subst1_free (by simpa using this.2)
theorem subst1_spell {c : Nat} {z : List Nat} {D : List (Nat × List Nat)} (hf : freshIn c D = true) (x : List Nat) : subst1 c z (spell D x) = spell (D ++ [(c, z)]) x := by
  induction x with
  | nil => rfl
  | cons a r ih =>
    unfold spell at ih ⊢
    rw [List.flatMap_cons, List.flatMap_cons, ← ih, ← subst1_tab hf]
    unfold subst1
    rw [List.flatMap_append]
noncomputable def sixes (D : List (Nat × List Nat)) : Bool := D.all fun p => decide (p.2.length ≤ 6)
theorem tab_len {D : List (Nat × List Nat)} (h : sixes D = true) (s : Nat) : (tab D s).length ≤ 6 := by
  unfold tab
  cases q : D.lookup s with
  | none => exact Nat.le_of_ble_eq_true rfl
  | some y => simpa using List.all_eq_true.mp h _ (mem_look q)
theorem spell_len {D : List (Nat × List Nat)} (h : sixes D = true) (x : List Nat) : (spell D x).length ≤ 6 * x.length := by
  induction x with
  | nil => exact Nat.le_refl _
  | cons a r ih =>
    unfold spell at ih ⊢
    rw [List.flatMap_cons, List.length_append, List.length_cons]
    have := tab_len h a
    omega
section
variable {B : Base} {sc : Scope} {X : FI B sc [Str.ofString "text"]}
theorem sx_esc {x : List Nat} {D : List (Nat × List Nat)} {c : Nat} {zl : List Nat} {y z : Str} {k1 k2 k3 : Nat} {p1 p2 p3 p4 p5 p6 p7 p8 p9 p10 p11 : Pos} {r : List Stmt} {o : Out} (ho : X.own = true) (hx : x.length ≤ 262144) (h6 : sixes D = true) (hf : freshIn c D = true) (hy : y.cps.toList = [c]) (hz : z.cps.toList = zl) (hyz : (y == z) = false) (hz6 : zl.length ≤ 6)
    (hl : (p7.endLine == p8.line) = true) (hm : behindInMarks .In (.Name (Str.ofString "text") p2) = false) (hr : Sx X [.val (.str (spell (D ++ [(c, zl)]) x))] r o) :
    Sx X [.val (.str (spell D x))] (.If (.Compare (.Constant (.str y) k1 p1) [.In] [.Name (Str.ofString "text") p2] p3) [.Assign [.Name (Str.ofString "text") p4] (.Call (.Attribute (.Name (Str.ofString "text") p5) (Str.ofString "replace") p7) [.Constant (.str y) k2 p9, .Constant (.str z) k3 p10] [] p8) p6] [] p11 :: r) o := by
  have hlen := spell_len h6 x
  have ht : Tst X [.val (.str (spell D x))] (.Compare (.Constant (.str y) k1 p1) [.In] [.Name (Str.ofString "text") p2] p3) (decide (c ∈ spell D x)) := tst_cmp1 (ex_str (l := [c]) hy) (ex_loc .here) cmp_in_str hm
  rw [← subst1_spell hf] at hr
  by_cases hc : c ∈ spell D x
  · refine sx_if_t ht (decide_eq_true hc) (sx_cons (s1_assign (ex_replace (ex_loc .here) hy hz hyz ?_ rfl hl) .here (.inr ho)) sx_nil) hr
    have := Nat.mul_le_mul (show (spell D x).length + 1 ≤ 6 * 262144 + 1 by omega) hz6
    omega
  · rw [subst1_free hc] at hr
    exact sx_if_skip ht (decide_eq_false hc) hr
end
--GEN
/-! the five hands -/
noncomputable def T0 : List (Nat × List Nat) := [(38, [38, 97, 109, 112, 59]), (60, [38, 108, 116, 59]), (62, [38, 103, 116, 59])]
noncomputable def T1 : List (Nat × List Nat) := [(38, [38, 97, 109, 112, 59]), (60, [38, 108, 116, 59]), (62, [38, 103, 116, 59]), (34, [38, 113, 117, 111, 116, 59]), (13, [38, 35, 49, 51, 59]), (10, [38, 35, 49, 48, 59]), (9, [38, 35, 48, 57, 59])]
noncomputable def T2 : List (Nat × List Nat) := [(38, [38, 97, 109, 112, 59]), (62, [38, 103, 116, 59]), (34, [38, 113, 117, 111, 116, 59])]
noncomputable def T3 : List (Nat × List Nat) := [(38, [38, 97, 109, 112, 59]), (60, [38, 108, 116, 59]), (62, [38, 103, 116, 59]), (13, [38, 35, 120, 68, 59])]
noncomputable def T4 : List (Nat × List Nat) := [(38, [38, 97, 109, 112, 59]), (60, [38, 108, 116, 59]), (34, [38, 113, 117, 111, 116, 59]), (9, [38, 35, 120, 57, 59]), (10, [38, 35, 120, 65, 59]), (13, [38, 35, 120, 68, 59])]
section
variable {w : World} {mg mb : Str → Option Value}
theorem c_escape_cdata (x : List Nat) (hx : x.length ≤ 262144) : Fn (bs w mg mb) (.ref 222) 2 [.str x] (.str (spell T0 x)) := by
  refine fn_go (N := [Str.ofString "text"]) (σ := [.val (.str x)]) (ps := [Str.ofString "text"]) (rest := []) ⟨_, _, _, rfl⟩ rfl rfl (binds1 (a := .str x) fun _ => rfl) rfl (by decide +kernel) rfl rfl ?_
  intro X ho hl
  rw [← spell_nil x]
  refine sx_one (s1_try ?_) (fun _ e => by cases e)
  refine sx_esc ho hx rfl rfl rfl rfl rfl (by decide) rfl rfl ?_
  refine sx_esc ho hx rfl rfl rfl rfl rfl (by decide) rfl rfl ?_
  refine sx_esc ho hx rfl rfl rfl rfl rfl (by decide) rfl rfl ?_
  refine (sx_ret (ex_loc (by walk_at "var"))).to ?_
  rw [spell_nil]; rfl
local macro_rules | `(tactic| walk_at "fn _escape_cdata") => `(tactic| exact c_escape_cdata _ (by walk_at "side"))
theorem c_escape_attrib (x : List Nat) (hx : x.length ≤ 262144) : Fn (bs w mg mb) (.ref 229) 2 [.str x] (.str (spell T1 x)) := by
  refine fn_go (N := [Str.ofString "text"]) (σ := [.val (.str x)]) (ps := [Str.ofString "text"]) (rest := []) ⟨_, _, _, rfl⟩ rfl rfl (binds1 (a := .str x) fun _ => rfl) rfl (by decide +kernel) rfl rfl ?_
  intro X ho hl
  rw [← spell_nil x]
  refine sx_one (s1_try ?_) (fun _ e => by cases e)
  refine sx_esc ho hx rfl rfl rfl rfl rfl (by decide) rfl rfl ?_
  refine sx_esc ho hx rfl rfl rfl rfl rfl (by decide) rfl rfl ?_
  refine sx_esc ho hx rfl rfl rfl rfl rfl (by decide) rfl rfl ?_
  refine sx_esc ho hx rfl rfl rfl rfl rfl (by decide) rfl rfl ?_
  refine sx_esc ho hx rfl rfl rfl rfl rfl (by decide) rfl rfl ?_
  refine sx_esc ho hx rfl rfl rfl rfl rfl (by decide) rfl rfl ?_
  refine sx_esc ho hx rfl rfl rfl rfl rfl (by decide) rfl rfl ?_
  refine (sx_ret (ex_loc (by walk_at "var"))).to ?_
  rw [spell_nil]; rfl
local macro_rules | `(tactic| walk_at "fn _escape_attrib") => `(tactic| exact c_escape_attrib _ (by walk_at "side"))
theorem c_escape_attrib_html (x : List Nat) (hx : x.length ≤ 262144) : Fn (bs w mg mb) (.ref 236) 2 [.str x] (.str (spell T2 x)) := by
  refine fn_go (N := [Str.ofString "text"]) (σ := [.val (.str x)]) (ps := [Str.ofString "text"]) (rest := []) ⟨_, _, _, rfl⟩ rfl rfl (binds1 (a := .str x) fun _ => rfl) rfl (by decide +kernel) rfl rfl ?_
  intro X ho hl
  rw [← spell_nil x]
  refine sx_one (s1_try ?_) (fun _ e => by cases e)
  refine sx_esc ho hx rfl rfl rfl rfl rfl (by decide) rfl rfl ?_
  refine sx_esc ho hx rfl rfl rfl rfl rfl (by decide) rfl rfl ?_
  refine sx_esc ho hx rfl rfl rfl rfl rfl (by decide) rfl rfl ?_
  refine (sx_ret (ex_loc (by walk_at "var"))).to ?_
  rw [spell_nil]; rfl
local macro_rules | `(tactic| walk_at "fn _escape_attrib_html") => `(tactic| exact c_escape_attrib_html _ (by walk_at "side"))
theorem c_escape_cdata_c14n (x : List Nat) (hx : x.length ≤ 262144) : Fn (bs w mg mb) (.ref 243) 2 [.str x] (.str (spell T3 x)) := by
  refine fn_go (N := [Str.ofString "text"]) (σ := [.val (.str x)]) (ps := [Str.ofString "text"]) (rest := []) ⟨_, _, _, rfl⟩ rfl rfl (binds1 (a := .str x) fun _ => rfl) rfl (by decide +kernel) rfl rfl ?_
  intro X ho hl
  rw [← spell_nil x]
  refine sx_one (s1_try ?_) (fun _ e => by cases e)
  refine sx_esc ho hx rfl rfl rfl rfl rfl (by decide) rfl rfl ?_
  refine sx_esc ho hx rfl rfl rfl rfl rfl (by decide) rfl rfl ?_
  refine sx_esc ho hx rfl rfl rfl rfl rfl (by decide) rfl rfl ?_
  refine sx_esc ho hx rfl rfl rfl rfl rfl (by decide) rfl rfl ?_
  refine (sx_ret (ex_loc (by walk_at "var"))).to ?_
  rw [spell_nil]; rfl
local macro_rules | `(tactic| walk_at "fn _escape_cdata_c14n") => `(tactic| exact c_escape_cdata_c14n _ (by walk_at "side"))
theorem c_escape_attrib_c14n (x : List Nat) (hx : x.length ≤ 262144) : Fn (bs w mg mb) (.ref 250) 2 [.str x] (.str (spell T4 x)) := by
  refine fn_go (N := [Str.ofString "text"]) (σ := [.val (.str x)]) (ps := [Str.ofString "text"]) (rest := []) ⟨_, _, _, rfl⟩ rfl rfl (binds1 (a := .str x) fun _ => rfl) rfl (by decide +kernel) rfl rfl ?_
  intro X ho hl
  rw [← spell_nil x]
  refine sx_one (s1_try ?_) (fun _ e => by cases e)
  refine sx_esc ho hx rfl rfl rfl rfl rfl (by decide) rfl rfl ?_
  refine sx_esc ho hx rfl rfl rfl rfl rfl (by decide) rfl rfl ?_
  refine sx_esc ho hx rfl rfl rfl rfl rfl (by decide) rfl rfl ?_
  refine sx_esc ho hx rfl rfl rfl rfl rfl (by decide) rfl rfl ?_
  refine sx_esc ho hx rfl rfl rfl rfl rfl (by decide) rfl rfl ?_
  refine sx_esc ho hx rfl rfl rfl rfl rfl (by decide) rfl rfl ?_
  refine (sx_ret (ex_loc (by walk_at "var"))).to ?_
  rw [spell_nil]; rfl
local macro_rules | `(tactic| walk_at "fn _escape_attrib_c14n") => `(tactic| exact c_escape_attrib_c14n _ (by walk_at "side"))
end
--END
end Mine
end
section
open PySem PySem.W PyProof.Rows PySem.Calls
set_option Elab.async false
set_option linter.unusedVariables false
set_option maxRecDepth 100000
namespace Mine
noncomputable def tabH (h : Int) : List (Nat × List Nat) := if h = 0 then T0 else if h = 1 then T1 else if h = 2 then T2 else if h = 3 then T3 else T4
noncomputable def writeH (hs : List Int) (x : List Nat) : List Nat := hs.foldl (fun t h => spell (tabH h) t) x
theorem tabH_six (h : Int) : sixes (tabH h) = true := by
  unfold tabH; split
  · rfl
  · split
    · rfl
    · split
      · rfl
      · split <;> rfl
theorem foldl_ints (f : List Nat → Int → List Nat) : ∀ (hs : List Int) (x : List Nat), (hs.map AV.int).foldl (fun t a => match a with | .int h => f t h | _ => t) x = hs.foldl f x
  | [], _ => rfl
  | h :: r, x => foldl_ints f r (f x h)
section
variable {w : World} {mg mb : Str → Option Value}
local macro_rules | `(tactic| walk_at "fn _escape_cdata") => `(tactic| exact c_escape_cdata _ (by walk_at "side"))
local macro_rules | `(tactic| walk_at "fn _escape_attrib") => `(tactic| exact c_escape_attrib _ (by walk_at "side"))
local macro_rules | `(tactic| walk_at "fn _escape_attrib_html") => `(tactic| exact c_escape_attrib_html _ (by walk_at "side"))
local macro_rules | `(tactic| walk_at "fn _escape_cdata_c14n") => `(tactic| exact c_escape_cdata_c14n _ (by walk_at "side"))
local macro_rules | `(tactic| walk_at "fn _escape_attrib_c14n") => `(tactic| exact c_escape_attrib_c14n _ (by walk_at "side"))
theorem c_law_write (hs : List Int) (x : List Nat) (hh : hs.length ≤ 2) (hx : x.length ≤ 43690) : Fn (bs w mg mb) (.ref 264) 3 [.str x, .list (hs.map .int)] (.str (writeH hs x)) := by
  refine fn_go (N := [Str.ofString "text", Str.ofString "hands", Str.ofString "hand"]) (σ := [.val (.str x), .val (.list (hs.map .int)), .no]) (ps := [Str.ofString "text", Str.ofString "hands"]) (rest := [Str.ofString "hand"]) ⟨_, _, _, rfl⟩ rfl rfl (binds2 (a := .str x) (b := .list (hs.map .int)) fun _ _ => rfl) rfl (by decide +kernel) rfl rfl ?_
  intro X ho hl
  apply sx_for_fold (fun (t : List Nat) bd => [.val (.str t), .val (.list (hs.map .int)), bd]) (fun t a => match a with | .int h => spell (tabH h) t | _ => t) (fun k t => t.length ≤ 6 ^ k * 43690) (b := x) (bd := .no)
  · exact (ex_loc (by walk_at "var"))
  · simpa using hx
  · intro b bd a; walk_at "set"
  · intro k t a hk ha
    rw [List.getElem?_map] at ha
    obtain ⟨h, hc, rfl⟩ := Option.map_eq_some_iff.mp ha
    have hk2 : k < 2 := Nat.lt_of_lt_of_le (List.getElem?_eq_some_iff.mp hc).1 hh
    have hsl := spell_len (tabH_six h) t
    have ht : t.length ≤ 262140 := by
      have : k = 0 ∨ k = 1 := by omega
      rcases this with rfl | rfl <;> omega
    refine ⟨.inl ?_, by show (spell (tabH h) t).length ≤ _; rw [Nat.pow_succ]; omega⟩
    have htt : t.length ≤ 262144 := by omega
    dsimp only
    by_cases h0 : h = 0
    · have e : tabH h = T0 := by unfold tabH; rw [if_pos h0]
      rw [e]
      apply sx_if_t
      · exact (tst_cmp1 (ex_loc (by walk_at "var")) ex_int cmp_eq_int rfl)
      · rw [h0]; rfl
      · apply sx_set
        · exact (ex_call (xg__escape_cdata rfl) (es_cons (ex_loc (by walk_at "var")) es_nil) (Fn.inX (by walk_at "fn _escape_cdata") (by omega)) rfl)
        · walk_at "set"
        · exact ho
        · rfl
        exact sx_nil
      · exact sx_nil
    by_cases h1 : h = 1
    · have e : tabH h = T1 := by unfold tabH; rw [if_neg h0, if_pos h1]
      rw [e]
      apply sx_if_f
      · exact (tst_cmp1 (ex_loc (by walk_at "var")) ex_int cmp_eq_int rfl)
      · simpa using h0
      · apply sx_if_t
        · exact (tst_cmp1 (ex_loc (by walk_at "var")) ex_int cmp_eq_int rfl)
        · rw [h1]; rfl
        · apply sx_set
          · exact (ex_call (xg__escape_attrib rfl) (es_cons (ex_loc (by walk_at "var")) es_nil) (Fn.inX (by walk_at "fn _escape_attrib") (by omega)) rfl)
          · walk_at "set"
          · exact ho
          · rfl
          exact sx_nil
        · exact sx_nil
      · exact sx_nil
    by_cases h2 : h = 2
    · have e : tabH h = T2 := by unfold tabH; rw [if_neg h0, if_neg h1, if_pos h2]
      rw [e]
      apply sx_if_f
      · exact (tst_cmp1 (ex_loc (by walk_at "var")) ex_int cmp_eq_int rfl)
      · simpa using h0
      · apply sx_if_f
        · exact (tst_cmp1 (ex_loc (by walk_at "var")) ex_int cmp_eq_int rfl)
        · simpa using h1
        · apply sx_if_t
          · exact (tst_cmp1 (ex_loc (by walk_at "var")) ex_int cmp_eq_int rfl)
          · rw [h2]; rfl
          · apply sx_set
            · exact (ex_call (xg__escape_attrib_html rfl) (es_cons (ex_loc (by walk_at "var")) es_nil) (Fn.inX (by walk_at "fn _escape_attrib_html") (by omega)) rfl)
            · walk_at "set"
            · exact ho
            · rfl
            exact sx_nil
          · exact sx_nil
        · exact sx_nil
      · exact sx_nil
    by_cases h3 : h = 3
    · have e : tabH h = T3 := by unfold tabH; rw [if_neg h0, if_neg h1, if_neg h2, if_pos h3]
      rw [e]
      apply sx_if_f
      · exact (tst_cmp1 (ex_loc (by walk_at "var")) ex_int cmp_eq_int rfl)
      · simpa using h0
      · apply sx_if_f
        · exact (tst_cmp1 (ex_loc (by walk_at "var")) ex_int cmp_eq_int rfl)
        · simpa using h1
        · apply sx_if_f
          · exact (tst_cmp1 (ex_loc (by walk_at "var")) ex_int cmp_eq_int rfl)
          · simpa using h2
          · apply sx_if_t
            · exact (tst_cmp1 (ex_loc (by walk_at "var")) ex_int cmp_eq_int rfl)
            · rw [h3]; rfl
            · apply sx_set
              · exact (ex_call (xg__escape_cdata_c14n rfl) (es_cons (ex_loc (by walk_at "var")) es_nil) (Fn.inX (by walk_at "fn _escape_cdata_c14n") (by omega)) rfl)
              · walk_at "set"
              · exact ho
              · rfl
              exact sx_nil
            · exact sx_nil
          · exact sx_nil
        · exact sx_nil
      · exact sx_nil
    · have e : tabH h = T4 := by unfold tabH; rw [if_neg h0, if_neg h1, if_neg h2, if_neg h3]
      rw [e]
      apply sx_if_f
      · exact (tst_cmp1 (ex_loc (by walk_at "var")) ex_int cmp_eq_int rfl)
      · simpa using h0
      · apply sx_if_f
        · exact (tst_cmp1 (ex_loc (by walk_at "var")) ex_int cmp_eq_int rfl)
        · simpa using h1
        · apply sx_if_f
          · exact (tst_cmp1 (ex_loc (by walk_at "var")) ex_int cmp_eq_int rfl)
          · simpa using h2
          · apply sx_if_f
            · exact (tst_cmp1 (ex_loc (by walk_at "var")) ex_int cmp_eq_int rfl)
            · simpa using h3
            · apply sx_set
              · exact (ex_call (xg__escape_attrib_c14n rfl) (es_cons (ex_loc (by walk_at "var")) es_nil) (Fn.inX (by walk_at "fn _escape_attrib_c14n") (by omega)) rfl)
              · walk_at "set"
              · exact ho
              · rfl
              exact sx_nil
            · exact sx_nil
          · exact sx_nil
        · exact sx_nil
      · exact sx_nil
  · exact ho
  · rfl
  · intro bd' hbd hfin
    rw [foldl_ints (fun t h => spell (tabH h) t)]
    refine (sx_ret (ex_loc (by walk_at "var"))).to ?_
    rfl
end
end Mine
end
section
open PySem PySem.W PyProof.Rows PySem.Calls
set_option Elab.async false
set_option linter.unusedVariables false
set_option maxRecDepth 100000
namespace Mine
noncomputable def dT (T : List (Nat × List Nat)) : List (List Nat × List Nat) := T.map fun p => ([p.1], p.2)
theorem look_dT (c : Nat) : ∀ (T : List (Nat × List Nat)), look [c] (dT T) = T.lookup c
  | [] => rfl
  | (k, v) :: r => by
    have ih := look_dT c r
    show (if [k] = [c] then some v else look [c] (dT r)) = _
    rw [List.lookup_cons]
    by_cases h : c = k
    · subst h; simp
    · have : (c == k) = false := by simpa using h
      rw [this, if_neg (by simpa using Ne.symm h)]; exact ih
theorem joinc_nil : ∀ (L : List (List Nat)), joinc [] L = L.flatten
  | [] => rfl
  | [p] => by simp [joinc]
  | p :: q :: r => by
    have ih := joinc_nil (q :: r)
    show p ++ [] ++ joinc [] (q :: r) = _
    rw [ih]; simp
theorem joinc_spell (T : List (Nat × List Nat)) (x : List Nat) : joinc [] (x.map (tab T)) = spell T x := by
  rw [joinc_nil]; rfl
section
variable {B : Base} {sc : Scope} {N : List Str} {X : FI B sc N} {bs : List Bnd}
theorem cmpr_map {α : Type} {elt : Expr} (f g : α → AV) : ∀ (l : List α), (∀ a ∈ l, Ex X (.val (f a) :: bs) elt (g a)) → Cmpr X bs elt [] (l.map f) (l.map g)
  | [], _ => .nil
  | a :: r, h => .take rfl (h a (.head _)) (cmpr_map f g r fun b hb => h b (.tail _ hb))
end
noncomputable def ps0 : List (Str × Str) := [(Str.ofString "&", Str.ofString "&amp;"), (Str.ofString "<", Str.ofString "&lt;"), (Str.ofString ">", Str.ofString "&gt;")]
theorem ps0_ne : ps0 ≠ [] := by simp [ps0]
theorem ps0_len : ps0.length ≤ 15 := by decide
theorem ps0_nd : (ps0.map (·.1)).Nodup := by decide +kernel
theorem ps0_d : AV.dict (dtx ps0) = .dict (dT T0) := by kernel_rfl
noncomputable def ps1 : List (Str × Str) := [(Str.ofString "&", Str.ofString "&amp;"), (Str.ofString "<", Str.ofString "&lt;"), (Str.ofString ">", Str.ofString "&gt;"), (Str.ofString "\"", Str.ofString "&quot;"), (Str.ofString "\x0d", Str.ofString "&#13;"), (Str.ofString "\n", Str.ofString "&#10;"), (Str.ofString "\t", Str.ofString "&#09;")]
theorem ps1_ne : ps1 ≠ [] := by simp [ps1]
theorem ps1_len : ps1.length ≤ 15 := by decide
theorem ps1_nd : (ps1.map (·.1)).Nodup := by decide +kernel
theorem ps1_d : AV.dict (dtx ps1) = .dict (dT T1) := by kernel_rfl
noncomputable def ps2 : List (Str × Str) := [(Str.ofString "&", Str.ofString "&amp;"), (Str.ofString ">", Str.ofString "&gt;"), (Str.ofString "\"", Str.ofString "&quot;")]
theorem ps2_ne : ps2 ≠ [] := by simp [ps2]
theorem ps2_len : ps2.length ≤ 15 := by decide
theorem ps2_nd : (ps2.map (·.1)).Nodup := by decide +kernel
theorem ps2_d : AV.dict (dtx ps2) = .dict (dT T2) := by kernel_rfl
noncomputable def ps3 : List (Str × Str) := [(Str.ofString "&", Str.ofString "&amp;"), (Str.ofString "<", Str.ofString "&lt;"), (Str.ofString ">", Str.ofString "&gt;"), (Str.ofString "\x0d", Str.ofString "&#xD;")]
theorem ps3_ne : ps3 ≠ [] := by simp [ps3]
theorem ps3_len : ps3.length ≤ 15 := by decide
theorem ps3_nd : (ps3.map (·.1)).Nodup := by decide +kernel
theorem ps3_d : AV.dict (dtx ps3) = .dict (dT T3) := by kernel_rfl
noncomputable def ps4 : List (Str × Str) := [(Str.ofString "&", Str.ofString "&amp;"), (Str.ofString "<", Str.ofString "&lt;"), (Str.ofString "\"", Str.ofString "&quot;"), (Str.ofString "\t", Str.ofString "&#x9;"), (Str.ofString "\n", Str.ofString "&#xA;"), (Str.ofString "\x0d", Str.ofString "&#xD;")]
theorem ps4_ne : ps4 ≠ [] := by simp [ps4]
theorem ps4_len : ps4.length ≤ 15 := by decide
theorem ps4_nd : (ps4.map (·.1)).Nodup := by decide +kernel
theorem ps4_d : AV.dict (dtx ps4) = .dict (dT T4) := by kernel_rfl
section
variable {w : World} {mg mb : Str → Option Value}
theorem c_law_spelled (hs : List Int) (x : List Nat) (hh : hs.length ≤ 2) (h5 : ∀ h ∈ hs, 0 ≤ h ∧ h < 5) (hx : x.length ≤ 43690) : Fn (bs w mg mb) (.ref 269) 3 [.str x, .list (hs.map .int)] (.str (writeH hs x)) := by
  refine fn_go (N := [Str.ofString "text", Str.ofString "hands", Str.ofString "tables", Str.ofString "hand", Str.ofString "table"]) (σ := [.val (.str x), .val (.list (hs.map .int)), .no, .no, .no]) (ps := [Str.ofString "text", Str.ofString "hands"]) (rest := [Str.ofString "tables", Str.ofString "hand", Str.ofString "table"]) ⟨_, _, _, rfl⟩ rfl rfl (binds2 (a := .str x) (b := .list (hs.map .int)) fun _ _ => rfl) rfl (by decide +kernel) rfl rfl ?_
  intro X ho hl
  refine @sx_cons _ _ _ X _ _ _ [.val (.str x), .val (.list (hs.map .int)), .val (.list [.dict (dT T0), .dict (dT T1), .dict (dT T2), .dict (dT T3), .dict (dT T4)]), .no, .no] _ ?_ ?_
  · refine @s1_assign _ _ _ X _ _ _ (.list [.dict (dT T0), .dict (dT T1), .dict (dT T2), .dict (dT T3), .dict (dT T4)]) _ _ _ ?_ (by walk_at "set") (.inr ho) rfl
    refine @ex_list _ _ _ X _ _ _ _ (@es_cons _ _ _ X _ _ _ _ _ ?_ (@es_cons _ _ _ X _ _ _ _ _ ?_ (@es_cons _ _ _ X _ _ _ _ _ ?_ (@es_cons _ _ _ X _ _ _ _ _ ?_ (@es_cons _ _ _ X _ _ _ _ _ ?_ es_nil rfl) rfl) rfl) rfl) rfl) (Nat.le_of_ble_eq_true rfl)
    · refine @Ex.of _ _ _ X _ _ _ (.dict (dT T0)) (@ex_dict _ _ _ X _ _ _ _ ps0 ?_ ps0_ne ps0_len ps0_nd) ps0_d
      show CP _ _ [(Str.ofString "&", Str.ofString "&amp;"), (Str.ofString "<", Str.ofString "&lt;"), (Str.ofString ">", Str.ofString "&gt;")]
      exact (.cons (.cons (.cons .nil)))
    · refine @Ex.of _ _ _ X _ _ _ (.dict (dT T1)) (@ex_dict _ _ _ X _ _ _ _ ps1 ?_ ps1_ne ps1_len ps1_nd) ps1_d
      show CP _ _ [(Str.ofString "&", Str.ofString "&amp;"), (Str.ofString "<", Str.ofString "&lt;"), (Str.ofString ">", Str.ofString "&gt;"), (Str.ofString "\"", Str.ofString "&quot;"), (Str.ofString "\x0d", Str.ofString "&#13;"), (Str.ofString "\n", Str.ofString "&#10;"), (Str.ofString "\t", Str.ofString "&#09;")]
      exact (.cons (.cons (.cons (.cons (.cons (.cons (.cons .nil)))))))
    · refine @Ex.of _ _ _ X _ _ _ (.dict (dT T2)) (@ex_dict _ _ _ X _ _ _ _ ps2 ?_ ps2_ne ps2_len ps2_nd) ps2_d
      show CP _ _ [(Str.ofString "&", Str.ofString "&amp;"), (Str.ofString ">", Str.ofString "&gt;"), (Str.ofString "\"", Str.ofString "&quot;")]
      exact (.cons (.cons (.cons .nil)))
    · refine @Ex.of _ _ _ X _ _ _ (.dict (dT T3)) (@ex_dict _ _ _ X _ _ _ _ ps3 ?_ ps3_ne ps3_len ps3_nd) ps3_d
      show CP _ _ [(Str.ofString "&", Str.ofString "&amp;"), (Str.ofString "<", Str.ofString "&lt;"), (Str.ofString ">", Str.ofString "&gt;"), (Str.ofString "\x0d", Str.ofString "&#xD;")]
      exact (.cons (.cons (.cons (.cons .nil))))
    · refine @Ex.of _ _ _ X _ _ _ (.dict (dT T4)) (@ex_dict _ _ _ X _ _ _ _ ps4 ?_ ps4_ne ps4_len ps4_nd) ps4_d
      show CP _ _ [(Str.ofString "&", Str.ofString "&amp;"), (Str.ofString "<", Str.ofString "&lt;"), (Str.ofString "\"", Str.ofString "&quot;"), (Str.ofString "\t", Str.ofString "&#x9;"), (Str.ofString "\n", Str.ofString "&#xA;"), (Str.ofString "\x0d", Str.ofString "&#xD;")]
      exact (.cons (.cons (.cons (.cons (.cons (.cons .nil))))))
  apply sx_for_fold (fun (p : List Nat × Bnd) bd => [.val (.str p.1), .val (.list (hs.map .int)), .val (.list [.dict (dT T0), .dict (dT T1), .dict (dT T2), .dict (dT T3), .dict (dT T4)]), bd, p.2]) (fun p a => match a with | .int h => (spell (tabH h) p.1, .val (.dict (dT (tabH h)))) | _ => p) (fun k p => p.1.length ≤ 6 ^ k * 43690) (b := (x, .no)) (bd := .no)
  · exact (ex_loc (by walk_at "var"))
  · simpa using hx
  · intro b bd a; walk_at "set"
  · intro k p a hk ha
    obtain ⟨t, tb⟩ := p
    rw [List.getElem?_map] at ha
    obtain ⟨h, hc, rfl⟩ := Option.map_eq_some_iff.mp ha
    have hk2 : k < 2 := Nat.lt_of_lt_of_le (List.getElem?_eq_some_iff.mp hc).1 hh
    obtain ⟨h0, h5'⟩ := h5 h (List.mem_of_getElem? hc)
    have hsl := spell_len (tabH_six h) t
    have ht : t.length ≤ 262140 := by
      have hk' : t.length ≤ 6 ^ k * 43690 := hk
      have : k = 0 ∨ k = 1 := by omega
      rcases this with rfl | rfl <;> omega
    refine ⟨.inl ?_, by show (spell (tabH h) t).length ≤ _; have hk' : t.length ≤ 6 ^ k * 43690 := hk; rw [Nat.pow_succ]; omega⟩
    have hS := sizeL
    have htt : t.length ≤ sizeLine := by omega
    dsimp only
    have hitm : ([.dict (dT T0), .dict (dT T1), .dict (dT T2), .dict (dT T3), .dict (dT T4)] : List AV)[h.toNat]? = some (.dict (dT (tabH h))) := by
      have : h = 0 ∨ h = 1 ∨ h = 2 ∨ h = 3 ∨ h = 4 := by omega
      rcases this with rfl | rfl | rfl | rfl | rfl <;> rfl
    apply sx_set
    · exact ex_sub (ex_loc (by walk_at "var")) (ex_loc (by walk_at "var")) (itm_listZ h0 hitm (Nat.le_of_ble_eq_true rfl))
    · walk_at "set"
    · exact ho
    · rfl
    apply sx_set
    · apply ex_meth1
      · exact ex_str (l := []) rfl
      · apply ex_comp (rs := (t.map (tab (tabH h))).map AV.str) (ys := [Str.ofString "table"]) (bs := [.val (.dict (dT (tabH h)))])
        · exact itr_str (ex_loc (by walk_at "var"))
        · exact .cons (by walk_at "var") .nil
        · decide +kernel
        · rw [List.length_map]; exact htt
        · intro X' h1 h2
          rw [List.map_map]
          refine cmpr_map (fun c => .str [c]) _ t fun c _ => ?_
          refine ex_ifexp (tst_cmp1 (ex_loc .here) (ex_loc (.there .here)) cmp_in_dict rfl) (fun hb => ?_) (fun hb => ?_)
          · obtain ⟨y, hy⟩ := Option.isSome_iff_exists.mp hb
            refine (ex_sub (ex_loc (.there .here)) (ex_loc .here) (itm_dict hy)).of ?_
            rw [look_dT] at hy
            show AV.str y = .str (tab (tabH h) c)
            unfold tab; rw [hy]; rfl
          · refine (ex_loc .here).of ?_
            have hy : look [c] (dT (tabH h)) = none := by simpa using hb
            rw [look_dT] at hy
            show AV.str [c] = .str (tab (tabH h) c)
            unfold tab; rw [hy]; rfl
      · apply m_join
        have e : ((t.map (tab (tabH h))).map (·.length)).sum = (spell (tabH h) t).length := by
          unfold spell; rw [List.length_flatMap, List.map_map]; rfl
        rw [e]; simp only [List.length_nil, Nat.mul_zero]; omega
      · rfl
      · rfl
      · rfl
    · walk_at "set"
    · exact ho
    · rfl
    rw [joinc_spell]
    exact sx_nil
  · exact ho
  · rfl
  · intro bd' hbd hfin
    have key : ∀ (l : List Int) (p : List Nat × Bnd), ((l.map AV.int).foldl (fun (p : List Nat × Bnd) a => match a with | .int h => (spell (tabH h) p.1, Bnd.val (.dict (dT (tabH h)))) | _ => p) p).1 = writeH l p.1 := by
      intro l
      induction l with
      | nil => intro p; rfl
      | cons h r ih => intro p; exact ih _
    refine (sx_ret (ex_loc (by walk_at "var"))).to ?_
    rw [key]
end
end Mine
end
section
open PySem PySem.W PyProof.Rows PySem.Calls
set_option Elab.async false
set_option linter.unusedVariables false
set_option maxRecDepth 100000
namespace Mine
theorem split_last (c : Nat) (x : List Nat) : ((splitc c x).map AV.str).getLast? = some (.str ((splitc c x).getLast?.getD [])) := by
  have h : splitc c x ≠ [] := by
    cases x with
    | nil => intro h; cases h
    | cons a r =>
      rw [splitc_cons]
      split
      · intro h; cases h
      · split <;> intro h <;> cases h
  obtain ⟨a, r, e⟩ := List.exists_cons_of_ne_nil h
  rw [e, List.getLast?_map, List.getLast?_eq_some_getLast (by simp)]; rfl
theorem splitc_le (c : Nat) (x : List Nat) : (splitc c x).length ≤ x.length + 1 := by
  have := wt_splitc c x
  have := wt_len (splitc c x)
  omega
theorem wt_sub {L K : List (List Nat)} (h : L.Sublist K) : wt L ≤ wt K := by
  induction h with
  | slnil => exact Nat.le_refl _
  | cons a _ ih => rw [wt_cons]; omega
  | cons_cons a _ ih => rw [wt_cons, wt_cons]; omega
theorem slc_sub {α : Type} (lo hi : Option Int) (l : List α) : (slc lo hi l).Sublist l := (List.take_sublist _ _).trans (List.drop_sublist _ _)
theorem wt_side {L : List (List Nat)} (h : wt L ≤ sizeLine) : (L.map (fun x => x.length)).sum + L.length * ([47] : List Nat).length ≤ sizeLine := by
  show (L.map (fun x => x.length)).sum + L.length * 1 ≤ sizeLine
  have e : wt L = (L.map (fun x => x.length)).sum + L.length := rfl
  omega
noncomputable def lrootN (x : List Nat) : Int := (x.length : Int) - ((x.dropWhile (· == 47)).length : Int)
noncomputable def lroot (x : List Nat) : List Nat := if (lrootN x == 2) = true then [47, 47] else if (lrootN x != 0) = true then [47] else []
noncomputable def ljoined (x y : List Nat) : List Nat := if (slc none (some 1) y == [47]) = true then y else joinc [47] ((if ((splitc 47 x).getLast?.getD [] == []) = true then slc none (some (-1)) (splitc 47 x) else splitc 47 x) ++ splitc 47 y)
section
variable {w : World} {mg mb : Str → Option Value}
local macro_rules | `(tactic| walk_at "side") => `(tactic| exact wt_side (by assumption))
local macro_rules | `(tactic| walk_at "itm") => `(tactic| exact split_last _ _)
theorem c_law_root (x : List Nat) (hx : x.length ≤ 1000000) : Fn (bs w mg mb) (.ref 295) 3 [.str x] (.str (lroot x)) := by
  refine fn_go (N := [Str.ofString "text", Str.ofString "slashes"]) (σ := [.val (.str x), .no]) (ps := [Str.ofString "text"]) (rest := [Str.ofString "slashes"]) ⟨_, _, _, rfl⟩ rfl rfl (binds1 (a := .str x) fun _ => rfl) rfl (by decide +kernel) rfl rfl ?_
  intro X ho hl
  have hS := sizeL
  have hd : (x.dropWhile (· == 47)).length ≤ x.length := (List.dropWhile_sublist _).length_le
  have hd2 : (x.dropWhile (· == 47)).length ≤ sizeLine := by omega
  have hx2 : x.length ≤ sizeLine := by omega
  apply sx_set
  · exact (ex_bin (ex_call (xb_len rfl) (es_cons (ex_loc (by walk_at "var")) es_nil) (fn_len_str (by walk_at "side")) rfl) (ex_call (xb_len rfl) (es_cons (ex_meth1 (ex_loc (by walk_at "var")) (ex_str (l := [47]) rfl) (m_lstrip (by walk_at "side")) rfl rfl rfl) es_nil) (fn_len_str (by walk_at "side")) rfl) bop_sub_int)
  · walk_at "set"
  · exact ho
  · rfl
  refine (sx_ret (ex_if_str (tst_cmp1 (ex_loc (by walk_at "var")) ex_int cmp_eq_int rfl) (fun hb => (ex_str (l := [47, 47]) rfl)) (fun hb => (ex_if_str (tst_val (ex_loc (by walk_at "var")) rfl (by walk_at "small")) (fun hb => (ex_str (l := [47]) rfl)) (fun hb => (ex_str (l := []) rfl)))))).to ?_
  rfl
theorem c_law_joined (x y : List Nat) (hx : x.length ≤ 1000000) (hy : y.length ≤ 1000000) : Fn (bs w mg mb) (.ref 281) 3 [.str x, .str y] (.str (ljoined x y)) := by
  refine fn_go (N := [Str.ofString "one", Str.ofString "two", Str.ofString "pieces"]) (σ := [.val (.str x), .val (.str y), .no]) (ps := [Str.ofString "one", Str.ofString "two"]) (rest := [Str.ofString "pieces"]) ⟨_, _, _, rfl⟩ rfl rfl (binds2 (a := .str x) (b := .str y) fun _ _ => rfl) rfl (by decide +kernel) rfl rfl ?_
  intro X ho hl
  have hS := sizeL
  have h1 := splitc_le 47 x
  have h2 := splitc_le 47 y
  by_cases h : (slc none (some 1) y == [47]) = true
  · refine (sx_if_tr (tst_cmp1 (ex_slice_str (ex_loc (by walk_at "var")) pt_none (pt_some ex_int) (by walk_at "side")) (ex_str (l := [47]) rfl) cmp_eq_str rfl) h (sx_ret (ex_loc (by walk_at "var")))).to ?_
    unfold ljoined; rw [if_pos h]
  apply sx_if_skip
  · exact (tst_cmp1 (ex_slice_str (ex_loc (by walk_at "var")) pt_none (pt_some ex_int) (by walk_at "side")) (ex_str (l := [47]) rfl) cmp_eq_str rfl)
  · simpa using h
  apply sx_set
  · exact (ex_meth1 (ex_loc (by walk_at "var")) (ex_str (l := [47]) rfl) (m_split (by walk_at "side")) rfl rfl rfl)
  · walk_at "set"
  · exact ho
  · rfl
  have hw1 := wt_splitc 47 x
  have hw2 := wt_splitc 47 y
  have hi : ((if ((splitc 47 x).getLast?.getD [] == []) = true then slc none (some (-1)) (splitc 47 x) else splitc 47 x) : List (List Nat)).Sublist (splitc 47 x) := by
    split
    · exact slc_sub _ _ _
    · exact List.Sublist.refl _
  have hiw := wt_sub hi
  have hil := hi.length_le
  have hw : wt ((if ((splitc 47 x).getLast?.getD [] == []) = true then slc none (some (-1)) (splitc 47 x) else splitc 47 x) ++ splitc 47 y) ≤ sizeLine := by rw [wt_app]; omega
  have hll : ((if ((splitc 47 x).getLast?.getD [] == []) = true then slc none (some (-1)) (splitc 47 x) else splitc 47 x) : List (List Nat)).length + (splitc 47 y).length ≤ sizeLine := by omega
  refine (sx_ret (ex_meth1 (ex_str (l := [47]) rfl) (ex_bin (ex_if_strs (tst_cmp1 (ex_sub (ex_loc (by walk_at "var")) (ex_neg ex_int) (itm_last (by walk_at "itm") (by walk_at "side"))) (ex_str (l := []) rfl) cmp_eq_str rfl) (fun hb => (ex_slice_strs (ex_loc (by walk_at "var")) pt_none (pt_some (ex_neg ex_int)) (by walk_at "side"))) (fun hb => (ex_loc (by walk_at "var")))) (ex_meth1 (ex_loc (by walk_at "var")) (ex_str (l := [47]) rfl) (m_split (by walk_at "side")) rfl rfl rfl) (bop_add_strs (by walk_at "side"))) (m_join (by walk_at "side")) rfl rfl rfl)).to ?_
  unfold ljoined; rw [if_neg h]
/-! parted -/
noncomputable def lfront (x : List Nat) : List (List Nat) := slc none (some (-1)) (splitc 47 x)
noncomputable def llast (x : List Nat) : List Nat := (splitc 47 x).getLast?.getD []
noncomputable def lstrip0 : Nat → List (List Nat) → List (List Nat)
  | 0, L => L
  | n + 1, L => if (L.getLast?.getD [] == []) = true then lstrip0 n (slc none (some (-1)) L) else L
end
end Mine
end
section
open PySem PySem.W PyProof.Rows PySem.Calls
set_option Elab.async false
set_option linter.unusedVariables false
set_option maxRecDepth 100000
namespace Mine
section
variable {B : Base} {sc : Scope} {N : List Str} {X : FI B sc N}
theorem whl_strip {test : Expr} {body : List Stmt} (σf : List (List Nat) → List Bnd) (bound : Nat) (ht : ∀ L, L ≠ [] → L.length ≤ bound → Tst X (σf L) test (L.getLast?.getD [] == [])) (hb : ∀ L, L.length ≤ bound → Sx X (σf L) body (.next (σf (slc none (some (-1)) L)))) :
    ∀ (n : Nat) (L : List (List Nat)), L.flatten ≠ [] → L.length ≤ n → L.length ≤ bound → Whl X test body n (σf L) (.next (σf (lstrip0 n L))) := by
  intro n
  induction n with
  | zero =>
    intro L hL hn _
    have : L = [] := List.length_eq_zero_iff.mp (by omega)
    subst this; exact absurd rfl hL
  | succ n ih =>
    intro L hL hn hbd
    have hne : L ≠ [] := by rintro rfl; exact hL rfl
    unfold lstrip0
    by_cases h : (L.getLast?.getD [] == []) = true
    · rw [if_pos h]
      have ht' := ht L hne hbd
      rw [h] at ht'
      have hs := slc_butLast L
      have hl : (slc none (some (-1)) L).length + 1 = L.length := by
        rw [hs, List.length_dropLast]
        have := List.length_pos_iff.mpr hne
        omega
      refine .next ht' (hb L hbd) (.inl rfl) (ih _ ?_ (by omega) (by omega))
      rw [hs]
      intro q
      apply hL
      have e := List.dropLast_concat_getLast hne
      rw [← e, List.flatten_append, q]
      rw [List.getLast?_eq_some_getLast hne] at h
      have : L.getLast hne = [] := by simpa using h
      rw [this]; rfl
    · rw [if_neg h]
      have ht' := ht L hne hbd
      have h' : (L.getLast?.getD [] == []) = false := by simpa using h
      rw [h'] at ht'
      exact .stop ht'
end
noncomputable def lparted (x : List Nat) : List Nat × List Nat := if (joinc [] (lfront x) == []) = true then (List.replicate (lfront x).length 47, llast x) else (joinc [47] (lstrip0 (lfront x).length (lfront x)), llast x)
noncomputable def lname (x : List Nat) : List Nat := (llast x).dropWhile (· == 46)
noncomputable def lending (x : List Nat) : List Nat := if decide (46 ∈ lname x) = true then [46] ++ (splitc 46 (lname x)).getLast?.getD [] else []
theorem map_last {L : List (List Nat)} (h : L ≠ []) : (L.map AV.str).getLast? = some (.str (L.getLast?.getD [])) := by
  obtain ⟨a, r, e⟩ := List.exists_cons_of_ne_nil h
  rw [e, List.getLast?_map, List.getLast?_eq_some_getLast (by simp)]; rfl
theorem llast_len (x : List Nat) : (llast x).length ≤ x.length := by
  unfold llast
  have hw := wt_splitc 47 x
  cases h : (splitc 47 x).getLast? with
  | none => exact Nat.zero_le _
  | some y =>
    have hm := List.mem_of_getLast? h
    have := wt_sub (List.singleton_sublist.mpr hm)
    rw [wt_one, hw] at this
    show y.length ≤ _; omega
theorem lstrip0_sub : ∀ (n : Nat) (L : List (List Nat)), (lstrip0 n L).Sublist L
  | 0, L => List.Sublist.refl _
  | n + 1, L => by
    unfold lstrip0
    split
    · exact (lstrip0_sub n _).trans (slc_sub _ _ _)
    · exact List.Sublist.refl _
theorem wt_side0 {L : List (List Nat)} (h : wt L ≤ sizeLine) : (L.map (fun x => x.length)).sum + L.length * ([] : List Nat).length ≤ sizeLine := by
  show (L.map (fun x => x.length)).sum + L.length * 0 ≤ sizeLine
  have e : wt L = (L.map (fun x => x.length)).sum + L.length := rfl
  omega
section
variable {w : World} {mg mb : Str → Option Value}
local macro_rules | `(tactic| walk_at "side") => `(tactic| first | with_reducible assumption | omega | with_reducible exact wt_side (by with_reducible assumption) | with_reducible exact wt_side0 (by with_reducible assumption) | (simp only [List.length_append, List.length_cons, List.length_nil, List.length_map, List.length_replicate]; omega))
local macro_rules | `(tactic| walk_at "itm") => `(tactic| first | with_reducible exact split_last _ _ | with_reducible exact map_last (by with_reducible assumption))
theorem c_law_ending (x : List Nat) (hx : x.length ≤ 1000000) : Fn (bs w mg mb) (.ref 309) 3 [.str x] (.str (lending x)) := by
  refine fn_go (N := [Str.ofString "text", Str.ofString "name"]) (σ := [.val (.str x), .no]) (ps := [Str.ofString "text"]) (rest := [Str.ofString "name"]) ⟨_, _, _, rfl⟩ rfl rfl (binds1 (a := .str x) fun _ => rfl) rfl (by decide +kernel) rfl rfl ?_
  intro X ho hl
  have hS := sizeL
  have h1 := splitc_le 47 x
  have h2 := llast_len x
  have hd : (lname x).length ≤ (llast x).length := (List.dropWhile_sublist _).length_le
  have h3 := splitc_le 46 (lname x)
  have h2' : ((splitc 47 x).getLast?.getD []).length ≤ sizeLine := by show (llast x).length ≤ _; omega
  have h4 : ([46] : List Nat).length + ((splitc 46 (lname x)).getLast?.getD []).length ≤ sizeLine := by
    have hw := wt_splitc 46 (lname x)
    cases h : (splitc 46 (lname x)).getLast? with
    | none => show 1 + 0 ≤ _; omega
    | some y =>
      have := wt_sub (List.singleton_sublist.mpr (List.mem_of_getLast? h))
      rw [wt_one, hw] at this
      show 1 + y.length ≤ _; omega
  apply sx_set
  · exact (ex_meth1 (ex_sub (ex_meth1 (ex_loc (by walk_at "var")) (ex_str (l := [47]) rfl) (m_split (by walk_at "side")) rfl rfl rfl) (ex_neg ex_int) (itm_last (by walk_at "itm") (by walk_at "side"))) (ex_str (l := [46]) rfl) (m_lstrip (by walk_at "side")) rfl rfl rfl)
  · walk_at "set"
  · exact ho
  · rfl
  change Sx X [_, .val (.str (lname x))] _ _
  refine (sx_ret (ex_if_str (tst_cmp1 (ex_str (l := [46]) rfl) (ex_loc (by walk_at "var")) cmp_in_str rfl) (fun hb => (ex_bin (ex_str (l := [46]) rfl) (ex_sub (ex_meth1 (ex_loc (by walk_at "var")) (ex_str (l := [46]) rfl) (m_split (by walk_at "side")) rfl rfl rfl) (ex_neg ex_int) (itm_last (by walk_at "itm") (by walk_at "side"))) (bop_add_str (by walk_at "side")))) (fun hb => (ex_str (l := []) rfl)))).to ?_
  rfl
theorem c_law_parted (x : List Nat) (hx : x.length ≤ 1000000) : Fn (bs w mg mb) (.ref 288) 3 [.str x] (.tup [.str (lparted x).1, .str (lparted x).2]) := by
  refine fn_go (N := [Str.ofString "text", Str.ofString "pieces", Str.ofString "front"]) (σ := [.val (.str x), .no, .no]) (ps := [Str.ofString "text"]) (rest := [Str.ofString "pieces", Str.ofString "front"]) ⟨_, _, _, rfl⟩ rfl rfl (binds1 (a := .str x) fun _ => rfl) rfl (by decide +kernel) rfl rfl ?_
  intro X ho hl
  have hS := sizeL
  have h1 := splitc_le 47 x
  have hfs : (lfront x).Sublist (splitc 47 x) := slc_sub _ _ _
  have hfl := hfs.length_le
  have hfw := wt_sub hfs
  have hw := wt_splitc 47 x
  have hfw' : wt (lfront x) ≤ sizeLine := by omega
  apply sx_set
  · exact (ex_meth1 (ex_loc (by walk_at "var")) (ex_str (l := [47]) rfl) (m_split (by walk_at "side")) rfl rfl rfl)
  · walk_at "set"
  · exact ho
  · rfl
  apply sx_set
  · exact (ex_slice_strs (ex_loc (by walk_at "var")) pt_none (pt_some (ex_neg ex_int)) (by walk_at "side"))
  · walk_at "set"
  · exact ho
  · rfl
  change Sx X [_, _, .val (.strs (lfront x))] _ _
  by_cases h : (joinc [] (lfront x) == []) = true
  · refine (sx_if_tr (tst_cmp1 (ex_meth1 (ex_str (l := []) rfl) (ex_loc (by walk_at "var")) (m_join (by walk_at "side")) rfl rfl rfl) (ex_str (l := []) rfl) cmp_eq_str rfl) h (sx_ret (ex_tuple (es_cons (ex_bin (ex_str (l := [47]) rfl) (ex_call (xb_len rfl) (es_cons (ex_loc (by walk_at "var")) es_nil) (fn_len_list (by walk_at "side")) rfl) (bop_mul_sign (by walk_at "side"))) (es_cons (ex_sub (ex_loc (by walk_at "var")) (ex_neg ex_int) (itm_last (by walk_at "itm") (by walk_at "side"))) es_nil)) (by walk_at "few")))).to ?_
    unfold lparted; rw [if_pos h, List.length_map]; rfl
  apply sx_if_skip
  · exact (tst_cmp1 (ex_meth1 (ex_str (l := []) rfl) (ex_loc (by walk_at "var")) (m_join (by walk_at "side")) rfl rfl rfl) (ex_str (l := []) rfl) cmp_eq_str rfl)
  · simpa using h
  have hne : (lfront x).flatten ≠ [] := by rw [← joinc_nil]; simpa using h
  have hss := lstrip0_sub (lfront x).length (lfront x)
  have hsw := wt_sub hss
  have hsw' : wt (lstrip0 (lfront x).length (lfront x)) ≤ sizeLine := by omega
  refine sx_cons (s1_while (n := (lfront x).length) (whl_strip (fun L => [.val (.str x), .val (.strs (splitc 47 x)), .val (.strs L)]) 1000001 (fun L hL hb => ?_) (fun L hb => ?_) (lfront x).length (lfront x) hne (Nat.le_refl _) (by omega))) ?_
  · exact (tst_cmp1 (ex_sub (ex_loc (by walk_at "var")) (ex_neg ex_int) (itm_last (by walk_at "itm") (by walk_at "side"))) (ex_str (l := []) rfl) cmp_eq_str rfl)
  · apply sx_set
    · exact (ex_slice_strs (ex_loc (by walk_at "var")) pt_none (pt_some (ex_neg ex_int)) (by walk_at "side"))
    · walk_at "set"
    · exact ho
    · rfl
    exact sx_nil
  · refine (sx_ret (ex_tuple (es_cons (ex_meth1 (ex_str (l := [47]) rfl) (ex_loc (by walk_at "var")) (m_join (by walk_at "side")) rfl rfl rfl) (es_cons (ex_sub (ex_loc (by walk_at "var")) (ex_neg ex_int) (itm_last (by walk_at "itm") (by walk_at "side"))) es_nil)) (by walk_at "few"))).to ?_
    unfold lparted; rw [if_neg h]; rfl
end
end Mine
end
section
open PySem PySem.W PyProof.Rows PySem.Calls
set_option Elab.async false
set_option linter.unusedVariables false
set_option maxRecDepth 100000
namespace Mine
noncomputable def walkStep (ab : Bool) (p : Nat × List (List Nat)) (c : List Nat) : Nat × List (List Nat) :=
  if (c == [46, 46]) = true then (if p.2.isEmpty = true then (if ab = true then p else (p.1 + 1, p.2)) else (p.1, slc none (some (-1)) p.2))
  else if (![([] : List Nat), [46]].contains c) = true then (p.1, p.2 ++ [c]) else p
noncomputable def isAb (x : List Nat) : Bool := slc none (some 1) x == [47]
noncomputable def lwalkP (x : List Nat) : Nat × List (List Nat) := (splitc 47 x).foldl (walkStep (isAb x)) (0, [])
noncomputable def lwalk (x : List Nat) : List (List Nat) := List.replicate (lwalkP x).1 [46, 46] ++ (lwalkP x).2
theorem foldl_walk (ab : Bool) : ∀ (L : List (List Nat)) (p : Nat × List (List Nat)), (L.map AV.str).foldl (fun p a => match a with | .str c => walkStep ab p c | _ => p) p = L.foldl (walkStep ab) p
  | [], _ => rfl
  | c :: L, p => foldl_walk ab L (walkStep ab p c)
theorem walkStep_len (ab : Bool) (p : Nat × List (List Nat)) (c : List Nat) : (walkStep ab p c).1 + (walkStep ab p c).2.length ≤ p.1 + p.2.length + 1 := by
  unfold walkStep
  split
  · split
    · split
      · omega
      · show p.1 + 1 + p.2.length ≤ _; omega
    · have := (slc_sub none (some (-1)) p.2).length_le
      show p.1 + (slc none (some (-1)) p.2).length ≤ _; omega
  · split
    · show p.1 + (p.2 ++ [c]).length ≤ _
      rw [List.length_append]; simp; omega
    · omega
section
variable {w : World} {mg mb : Str → Option Value}
theorem c_law_walk (x : List Nat) (hx : x.length ≤ 1000000) : Fn (bs w mg mb) (.ref 302) 3 [.str x] (.strs (lwalk x)) := by
  refine fn_go (N := [Str.ofString "text", Str.ofString "ups", Str.ofString "names", Str.ofString "piece"]) (σ := [.val (.str x), .no, .no, .no]) (ps := [Str.ofString "text"]) (rest := [Str.ofString "ups", Str.ofString "names", Str.ofString "piece"]) ⟨_, _, _, rfl⟩ rfl rfl (binds1 (a := .str x) fun _ => rfl) rfl (by decide +kernel) rfl rfl ?_
  intro X ho hl
  have hS := sizeL
  have h1 := splitc_le 47 x
  apply sx_cons
  · apply s1_tupS
    · exact ex_tuple (es_cons ex_int (es_cons (ex_list es_nil (Nat.zero_le _)) es_nil)) (Nat.le_of_ble_eq_true rfl)
    · rfl
    · apply Sets.cons
      · walk_at "set"
      · apply Sets.cons
        · walk_at "set"
        · exact Sets.nil
    · exact ho
    · rfl
  change Sx X [.val (.str x), .val (.int ((0 : Nat) : Int)), .val (.strs []), .no] _ _
  apply sx_for_fold (fun (p : Nat × List (List Nat)) bd => [.val (.str x), .val (.int (p.1 : Int)), .val (.strs p.2), bd]) (fun p a => match a with | .str c => walkStep (isAb x) p c | _ => p) (fun k p => p.1 + p.2.length ≤ k) (b := (0, [])) (bd := .no)
  · exact (ex_meth1 (ex_loc (by walk_at "var")) (ex_str (l := [47]) rfl) (m_split (by walk_at "side")) rfl rfl rfl)
  · exact Nat.zero_le _
  · intro b bd a; walk_at "set"
  · intro k p a hk ha
    obtain ⟨u, L⟩ := p
    rw [List.getElem?_map] at ha
    obtain ⟨c, hc, rfl⟩ := Option.map_eq_some_iff.mp ha
    have hkl := (List.getElem?_eq_some_iff.mp hc).1
    have hlen := walkStep_len (isAb x) (u, L) c
    have hk' : u + L.length ≤ k := hk
    refine ⟨.inl ?_, Nat.le_trans hlen (Nat.succ_le_succ hk')⟩
    have hLs : (L.map AV.str).length ≤ sizeLine := by rw [List.length_map]; omega
    dsimp only
    by_cases h2 : (c == [46, 46]) = true
    · by_cases h3 : L.isEmpty = true
      · by_cases h4 : isAb x = true
        · have e : walkStep (isAb x) (u, L) c = (u, L) := by unfold walkStep; rw [if_pos h2, if_pos h3, if_pos h4]
          rw [e]
          apply sx_if_t
          · exact (tst_cmp1 (ex_loc (by walk_at "var")) (ex_str (l := [46, 46]) rfl) cmp_eq_str rfl)
          · exact h2
          · apply sx_if_f
            · exact (tst_val (ex_loc (by walk_at "var")) rfl (by walk_at "small"))
            · simpa using h3
            · apply sx_if_skip
              · exact (tst_cmp1 (ex_slice_str (ex_loc (by walk_at "var")) pt_none (pt_some ex_int) (by walk_at "side")) (ex_str (l := [47]) rfl) cmp_ne_str rfl)
              · show (!(isAb x)) = false; rw [h4]; rfl
              · exact sx_nil
            · exact sx_nil
          · exact sx_nil
        · have e : walkStep (isAb x) (u, L) c = (u + 1, L) := by unfold walkStep; rw [if_pos h2, if_pos h3, if_neg h4]
          rw [e]
          apply sx_if_t
          · exact (tst_cmp1 (ex_loc (by walk_at "var")) (ex_str (l := [46, 46]) rfl) cmp_eq_str rfl)
          · exact h2
          · apply sx_if_f
            · exact (tst_val (ex_loc (by walk_at "var")) rfl (by walk_at "small"))
            · simpa using h3
            · apply sx_if_t
              · exact (tst_cmp1 (ex_slice_str (ex_loc (by walk_at "var")) pt_none (pt_some ex_int) (by walk_at "side")) (ex_str (l := [47]) rfl) cmp_ne_str rfl)
              · show (!(isAb x)) = true; simpa using h4
              · apply sx_set
                · exact (ex_bin (ex_loc (by walk_at "var")) ex_int bop_add_int)
                · walk_at "set"
                · exact ho
                · rfl
                exact sx_nil
              · exact sx_nil
            · exact sx_nil
          · exact sx_nil
      · have e : walkStep (isAb x) (u, L) c = (u, slc none (some (-1)) L) := by unfold walkStep; rw [if_pos h2, if_neg h3]
        rw [e]
        apply sx_if_t
        · exact (tst_cmp1 (ex_loc (by walk_at "var")) (ex_str (l := [46, 46]) rfl) cmp_eq_str rfl)
        · exact h2
        · apply sx_if_t
          · exact (tst_val (ex_loc (by walk_at "var")) rfl (by walk_at "small"))
          · simpa using h3
          · apply sx_set
            · exact (ex_slice_strs (ex_loc (by walk_at "var")) pt_none (pt_some (ex_neg ex_int)) (by walk_at "side"))
            · walk_at "set"
            · exact ho
            · rfl
            exact sx_nil
          · exact sx_nil
        · exact sx_nil
    · by_cases h3 : (![([] : List Nat), [46]].contains c) = true
      · have e : walkStep (isAb x) (u, L) c = (u, L ++ [c]) := by unfold walkStep; rw [if_neg h2, if_pos h3]
        rw [e]
        apply sx_if_f
        · exact (tst_cmp1 (ex_loc (by walk_at "var")) (ex_str (l := [46, 46]) rfl) cmp_eq_str rfl)
        · simpa using h2
        · apply sx_if_t
          · exact (tst_cmp1 (ex_loc (by walk_at "var")) (ex_strs2 (ex_str (l := []) rfl) (ex_str (l := [46]) rfl)) cmp_notin_strs rfl)
          · exact h3
          · apply sx_set
            · exact (ex_bin (ex_loc (by walk_at "var")) (ex_strs1 (ex_loc (by walk_at "var"))) (bop_add_strs (by walk_at "side")))
            · walk_at "set"
            · exact ho
            · rfl
            exact sx_nil
          · exact sx_nil
        · exact sx_nil
      · have e : walkStep (isAb x) (u, L) c = (u, L) := by unfold walkStep; rw [if_neg h2, if_neg h3]
        rw [e]
        apply sx_if_f
        · exact (tst_cmp1 (ex_loc (by walk_at "var")) (ex_str (l := [46, 46]) rfl) cmp_eq_str rfl)
        · simpa using h2
        · apply sx_if_skip
          · exact (tst_cmp1 (ex_loc (by walk_at "var")) (ex_strs2 (ex_str (l := []) rfl) (ex_str (l := [46]) rfl)) cmp_notin_strs rfl)
          · simpa using h3
          · exact sx_nil
        · exact sx_nil
  · exact ho
  · rfl
  · intro bd' hbd hfin
    rw [foldl_walk] at hfin ⊢
    rw [List.length_map] at hfin
    change Sx X [_, .val (.int ((lwalkP x).1 : Int)), .val (.strs (lwalkP x).2), _] _ _
    have hfin' : (lwalkP x).1 + (lwalkP x).2.length ≤ (splitc 47 x).length := hfin
    refine (sx_ret (ex_bin (ex_bin (ex_strs1 (ex_str (l := [46, 46]) rfl)) (ex_loc (by walk_at "var")) (bop_mul_strs1 (by walk_at "side") (by walk_at "side"))) (ex_loc (by walk_at "var")) (bop_add_strs (by walk_at "side")))).to ?_
    rfl
end
end Mine
end
section
open PySem PySem.W PyProof.Rows PySem.Calls
set_option Elab.async false
set_option linter.unusedVariables false
set_option maxRecDepth 100000
namespace Mine
noncomputable def cnt (P : Nat → Bool) : Nat → Nat → Nat
  | 0, k => k
  | n + 1, k => if P k = true then cnt P n (k + 1) else k
section
variable {B : Base} {sc : Scope} {N : List Str} {X : FI B sc N}
theorem whl_count {test : Expr} {body : List Stmt} (σf : Nat → List Bnd) (P : Nat → Bool) (bound : Nat) (hP : ∀ k, bound ≤ k → P k = false) (ht : ∀ k, k ≤ bound → Tst X (σf k) test (P k)) (hb : ∀ k, k ≤ bound → Sx X (σf k) body (.next (σf (k + 1)))) :
    ∀ (n k : Nat), bound ≤ k + n → k ≤ bound → Whl X test body n (σf k) (.next (σf (cnt P n k))) := by
  intro n
  induction n with
  | zero =>
    intro k h1 h2
    have := ht k h2
    rw [hP k (by omega)] at this
    exact .stop this
  | succ n ih =>
    intro k h1 h2
    unfold cnt
    have := ht k h2
    cases h : P k with
    | true =>
      rw [if_pos rfl]
      rw [h] at this
      have hk : k < bound := by
        rcases Nat.lt_or_ge k bound with q | q
        · exact q
        · rw [hP k q] at h; cases h
      exact .next this (hb k h2) (.inl rfl) (ih (k + 1) (by omega) hk)
    | false =>
      rw [if_neg (by decide)]
      rw [h] at this
      exact .stop this
end
noncomputable abbrev one {α : Type} (k : Nat) (x : List α) : List α := slc (some (k : Int)) (some ((k : Int) + 1)) x
noncomputable def sameAt {α : Type} [BEq α] (rows : List (List α)) (first : List α) (k : Nat) : Bool := decide ((k : Int) < (first.length : Int)) && rows.all fun r => one k r == one k first
noncomputable def frontL {α : Type} [BEq α] (rows : List (List α)) : List α := slc none (some ((cnt (sameAt rows (rows.headD [])) (rows.headD []).length 0 : Nat) : Int)) (rows.headD [])
theorem allT_map (rows : List (List Nat)) (f : List Nat → Bool) : (rows.map fun r => AV.bool (f r)) = (rows.map f).map .bool := by rw [List.map_map]; rfl
section
variable {w : World} {mg mb : Str → Option Value}
theorem c_law_front (a : List Nat) (rs : List (List Nat)) (hn : (a :: rs).length ≤ 3) (hx : ∀ r ∈ a :: rs, r.length ≤ 1000000) : Fn (bs w mg mb) (.ref 274) 2 [.strs (a :: rs)] (.str (frontL (a :: rs))) := by
  refine fn_go (N := [Str.ofString "rows", Str.ofString "size", Str.ofString "first"]) (σ := [.val (.strs (a :: rs)), .no, .no]) (ps := [Str.ofString "rows"]) (rest := [Str.ofString "size", Str.ofString "first"]) ⟨_, _, _, rfl⟩ rfl rfl (binds1 (a := .strs (a :: rs)) fun _ => rfl) rfl (by decide +kernel) rfl rfl ?_
  intro X ho hl
  have hS := sizeL
  have ha : a.length ≤ 1000000 := hx a (.head _)
  apply sx_cons
  · apply s1_tup
    · exact ex_tuple (es_cons ex_int (es_cons (ex_sub (ex_loc (by walk_at "var")) ex_int (itm_list (i := 0) rfl (by simp at hn ⊢; omega))) es_nil)) (Nat.le_of_ble_eq_true rfl)
    · rfl
    · apply Sets.cons
      · walk_at "set"
      · apply Sets.cons
        · walk_at "set"
        · exact Sets.nil
    · exact ho
    · rfl
    · rfl
  refine sx_cons (s1_while (n := a.length) (whl_count (fun k => [.val (.strs (a :: rs)), .val (.int (k : Int)), .val (.str a)]) (sameAt (a :: rs) a) a.length (fun k hk => ?_) (fun k hk => ?_) (fun k hk => ?_) a.length 0 (by omega) (Nat.zero_le _))) ?_
  · unfold sameAt; rw [decide_eq_false (by omega)]; rfl
  · apply Tst.of
    · apply tst_bool
      apply and_cons
      · exact (tst_cmp1 (ex_loc (by walk_at "var")) (ex_call (xb_len rfl) (es_cons (ex_loc (by walk_at "var")) es_nil) (fn_len_str (by walk_at "side")) rfl) cmp_lt_int rfl)
      · intro hc
        apply and_cons
        · apply tst_val
          · apply ex_call
            · exact xb_all rfl
            · apply es_cons
              · apply ex_comp (rs := ((a :: rs).map fun r => one k r == one k a).map AV.bool) (ys := [Str.ofString "size", Str.ofString "first"]) (bs := [.val (.int (k : Int)), .val (.str a)])
                · exact itr_list (ex_loc (by walk_at "var"))
                · exact .cons (by walk_at "var") (.cons (by walk_at "var") .nil)
                · decide +kernel
                · simp at hn ⊢; omega
                · intro X' h1 h2
                  rw [← allT_map]
                  refine cmpr_map AV.str _ (a :: rs) fun r hr => ?_
                  have hrl := hx r hr
                  exact ex_cmp1 (ex_slice_str (ex_loc .here) (pt_some (ex_loc (.there .here))) (pt_some (ex_bin (ex_loc (.there .here)) ex_int bop_add_int)) (by omega)) (ex_slice_str (ex_loc (.there (.there .here))) (pt_some (ex_loc (.there .here))) (pt_some (ex_bin (ex_loc (.there .here)) ex_int bop_add_int)) (by omega)) cmp_eq_str rfl
              · exact es_nil
              · rfl
            · exact fn_all
            · rfl
            · simp
            · rfl
            · rfl
          · rfl
          · exact trivial
          · rfl
        · intro _; exact and_nil
    · unfold sameAt
      rw [Bool.and_true, List.all_map]; rfl
  · apply sx_set
    · exact (ex_bin (ex_loc (by walk_at "var")) ex_int bop_add_int)
    · walk_at "set"
    · exact ho
    · rfl
    exact sx_nil
  · refine (sx_ret (ex_slice_str (ex_loc (by walk_at "var")) pt_none (pt_some (ex_loc (by walk_at "var"))) (by walk_at "side"))).to ?_
    rfl
theorem c_law_frontL (a : List (List Nat)) (rs : List (List (List Nat))) (hn : (a :: rs).length ≤ 3) (hx : ∀ r ∈ a :: rs, r.length ≤ 1000000) : Fn (bs w mg mb) (.ref 274) 2 [.list ((a :: rs).map AV.strs)] (.strs (frontL (a :: rs))) := by
  refine fn_go (N := [Str.ofString "rows", Str.ofString "size", Str.ofString "first"]) (σ := [.val (.list ((a :: rs).map AV.strs)), .no, .no]) (ps := [Str.ofString "rows"]) (rest := [Str.ofString "size", Str.ofString "first"]) ⟨_, _, _, rfl⟩ rfl rfl (binds1 (a := .list ((a :: rs).map AV.strs)) fun _ => rfl) rfl (by decide +kernel) rfl rfl ?_
  intro X ho hl
  have hS := sizeL
  have ha : a.length ≤ 1000000 := hx a (.head _)
  apply sx_cons
  · apply s1_tup
    · exact ex_tuple (es_cons ex_int (es_cons (ex_sub (ex_loc (by walk_at "var")) ex_int (itm_list (i := 0) rfl (by simp at hn ⊢; omega))) es_nil)) (Nat.le_of_ble_eq_true rfl)
    · rfl
    · apply Sets.cons
      · walk_at "set"
      · apply Sets.cons
        · walk_at "set"
        · exact Sets.nil
    · exact ho
    · rfl
    · rfl
  refine sx_cons (s1_while (n := a.length) (whl_count (fun k => [.val (.list ((a :: rs).map AV.strs)), .val (.int (k : Int)), .val (.strs a)]) (sameAt (a :: rs) a) a.length (fun k hk => ?_) (fun k hk => ?_) (fun k hk => ?_) a.length 0 (by omega) (Nat.zero_le _))) ?_
  · unfold sameAt; rw [decide_eq_false (by omega)]; rfl
  · apply Tst.of
    · apply tst_bool
      apply and_cons
      · exact (tst_cmp1 (ex_loc (by walk_at "var")) (ex_call (xb_len rfl) (es_cons (ex_loc (by walk_at "var")) es_nil) (fn_len_list (by walk_at "side")) rfl) cmp_lt_int rfl)
      · intro hc
        apply and_cons
        · apply tst_val
          · apply ex_call
            · exact xb_all rfl
            · apply es_cons
              · apply ex_comp (rs := ((a :: rs).map fun r => one k r == one k a).map AV.bool) (ys := [Str.ofString "size", Str.ofString "first"]) (bs := [.val (.int (k : Int)), .val (.strs a)])
                · exact itr_list (ex_loc (by walk_at "var"))
                · exact .cons (by walk_at "var") (.cons (by walk_at "var") .nil)
                · decide +kernel
                · simp at hn ⊢; omega
                · intro X' h1 h2
                  rw [List.map_map]
                  refine cmpr_map AV.strs _ (a :: rs) fun r hr => ?_
                  have hrl := hx r hr
                  exact ex_cmp1 (ex_slice_strs (ex_loc .here) (pt_some (ex_loc (.there .here))) (pt_some (ex_bin (ex_loc (.there .here)) ex_int bop_add_int)) (by omega)) (ex_slice_strs (ex_loc (.there (.there .here))) (pt_some (ex_loc (.there .here))) (pt_some (ex_bin (ex_loc (.there .here)) ex_int bop_add_int)) (by omega)) (cmp_eq_strs (by have := X'.hu; omega)) rfl
              · exact es_nil
              · rfl
            · exact fn_all
            · rfl
            · simp
            · rfl
            · rfl
          · rfl
          · exact trivial
          · rfl
        · intro _; exact and_nil
    · unfold sameAt
      rw [Bool.and_true, List.all_map, List.length_map]; rfl
  · apply sx_set
    · exact (ex_bin (ex_loc (by walk_at "var")) ex_int bop_add_int)
    · walk_at "set"
    · exact ho
    · rfl
    exact sx_nil
  · refine (sx_ret (ex_slice_strs (ex_loc (by walk_at "var")) pt_none (pt_some (ex_loc (by walk_at "var"))) (by walk_at "side"))).to ?_
    rfl
end
end Mine
end
section
open PySem PySem.W PyProof.Rows PySem.Calls
set_option Elab.async false
set_option linter.unusedVariables false
set_option maxRecDepth 100000
namespace Mine
noncomputable def kindS (k : Int) (x y : List Nat) : Int :=
  if (k == 0 && decide (24 < (x.length : Int) + (y.length : Int))) = true then 1
  else if (k == 7 && (x != [] && (slc none (some 1) x != [47] || slc none (some 1) y != [47]))) = true then 2 else k
theorem cnt_bound {P : Nat → Bool} {b : Nat} (h : ∀ k, P k = true → k < b) : ∀ (n k : Nat), k ≤ b → cnt P n k ≤ b
  | 0, k, hk => hk
  | n + 1, k, hk => by
    unfold cnt
    split
    · rename_i q; exact cnt_bound h n (k + 1) (h k q)
    · exact hk
theorem one_eq {α : Type} (k : Nat) (x : List α) : one k x = (x.drop k).take 1 := by
  have := slc_run x k (k + 1)
  rw [Nat.add_sub_cancel_left] at this
  rw [← this]; rfl
theorem sameAt_lt {α : Type} [BEq α] [LawfulBEq α] {rows : List (List α)} {first r : List α} {k : Nat} (h : sameAt rows first k = true) (hr : r ∈ rows) : k < r.length := by
  unfold sameAt at h
  rw [Bool.and_eq_true] at h
  have h1 : k < first.length := by have := of_decide_eq_true h.1; omega
  have h2 := eq_of_beq (List.all_eq_true.mp h.2 r hr)
  rw [one_eq, one_eq] at h2
  have h3 := congrArg List.length h2
  simp only [List.length_take, List.length_drop] at h3
  omega
theorem frontL_len {α : Type} [BEq α] [LawfulBEq α] {rows : List (List α)} {r : List α} (hr : r ∈ rows) : (frontL rows).length ≤ r.length := by
  unfold frontL
  rw [slc_to, List.length_take]
  have := cnt_bound (P := sameAt rows (rows.headD [])) (b := r.length) (fun k hk => sameAt_lt hk hr) (rows.headD []).length 0 (Nat.zero_le _)
  omega
noncomputable def lway (x y : List Nat) : List Nat :=
  orT (joinc [47] (List.replicate ((lwalk y).length - (frontL [lwalk x, lwalk y]).length) [46, 46] ++ slc (some ((frontL [lwalk x, lwalk y]).length : Int)) none (lwalk x))) [46]
theorem walkStep_wt (ab : Bool) (p : Nat × List (List Nat)) (c : List Nat) : 3 * (walkStep ab p c).1 + wt (walkStep ab p c).2 ≤ 3 * p.1 + wt p.2 + (c.length + 1) := by
  unfold walkStep
  split
  · rename_i h
    have hc : c = [46, 46] := eq_of_beq h
    subst hc
    split
    · split
      · omega
      · show 3 * (p.1 + 1) + wt p.2 ≤ _; simp only [List.length_cons, List.length_nil]; omega
    · have := wt_sub (slc_sub none (some (-1)) p.2)
      show 3 * p.1 + wt (slc none (some (-1)) p.2) ≤ _; omega
  · split
    · show 3 * p.1 + wt (p.2 ++ [c]) ≤ _
      rw [wt_app, wt_one]; omega
    · omega
theorem walk_wt (ab : Bool) : ∀ (L : List (List Nat)) (p : Nat × List (List Nat)), 3 * (L.foldl (walkStep ab) p).1 + wt (L.foldl (walkStep ab) p).2 ≤ 3 * p.1 + wt p.2 + wt L
  | [], p => Nat.le_refl _
  | c :: L, p => by
    have h1 := walkStep_wt ab p c
    have h2 := walk_wt ab L (walkStep ab p c)
    rw [List.foldl_cons, wt_cons]; omega
theorem wt_rep (n : Nat) : wt (List.replicate n [46, 46]) = 3 * n := by
  induction n with
  | zero => rfl
  | succ n ih => rw [List.replicate_succ, wt_cons, ih]; simp; omega
theorem lwalk_wt (x : List Nat) : wt (lwalk x) ≤ x.length + 1 := by
  have h := walk_wt (isAb x) (splitc 47 x) (0, [])
  have e : wt ([] : List (List Nat)) = 0 := rfl
  unfold lwalk
  rw [wt_app, wt_rep]
  rw [wt_splitc] at h
  simp only [e] at h
  show 3 * (lwalkP x).1 + wt (lwalkP x).2 ≤ _
  unfold lwalkP
  omega
section
variable {B : Base} {sc : Scope} {N : List Str} {X : FI B sc N}
theorem fn_len_strs {L : List (List Nat)} (hx : L.length ≤ sizeLine) : FnIn X (.builtin "len") [.strs L] (.int L.length) := by
  have := fn_len_list (X := X) (xs := L.map AV.str) (by rw [List.length_map]; exact hx)
  rwa [List.length_map] at this
end
section
variable {w : World} {mg mb : Str → Option Value}
local macro_rules | `(tactic| walk_at "side") => `(tactic| first | with_reducible assumption | omega | with_reducible exact wt_side (by with_reducible assumption) | with_reducible exact wt_side0 (by with_reducible assumption) | (simp only [List.length_append, List.length_cons, List.length_nil, List.length_map, List.length_replicate]; omega))
local macro_rules | `(tactic| walk_at "fn _law_walk") => `(tactic| exact c_law_walk _ (by walk_at "side"))
theorem c_law_way (x y : List Nat) (hx : x.length ≤ 900000) (hy : y.length ≤ 900000) : Fn (bs w mg mb) (.ref 321) 4 [.str x, .str y] (.str (lway x y)) := by
  refine fn_go (N := [Str.ofString "one", Str.ofString "two", Str.ofString "goal", Str.ofString "start", Str.ofString "shared"]) (σ := [.val (.str x), .val (.str y), .no, .no, .no]) (ps := [Str.ofString "one", Str.ofString "two"]) (rest := [Str.ofString "goal", Str.ofString "start", Str.ofString "shared"]) ⟨_, _, _, rfl⟩ rfl rfl (binds2 (a := .str x) (b := .str y) fun _ _ => rfl) rfl (by decide +kernel) rfl rfl ?_
  intro X ho hl
  have hS := sizeL
  have hgx := lwalk_wt x
  have hgy := lwalk_wt y
  have hlx := wt_len (lwalk x)
  have hly := wt_len (lwalk y)
  have hf1 : (frontL [lwalk x, lwalk y]).length ≤ (lwalk x).length := frontL_len (.head _)
  have hf2 : (frontL [lwalk x, lwalk y]).length ≤ (lwalk y).length := frontL_len (.tail _ (.head _))
  apply sx_cons
  · apply s1_tupS
    · exact (ex_tuple (es_cons (ex_call (xg__law_walk rfl) (es_cons (ex_loc (by walk_at "var")) es_nil) (Fn.inX (by walk_at "fn _law_walk") (by omega)) rfl) (es_cons (ex_call (xg__law_walk rfl) (es_cons (ex_loc (by walk_at "var")) es_nil) (Fn.inX (by walk_at "fn _law_walk") (by omega)) rfl) es_nil)) (by walk_at "few"))
    · rfl
    · apply Sets.cons
      · walk_at "set"
      · apply Sets.cons
        · walk_at "set"
        · exact Sets.nil
    · exact ho
    · rfl
  have hrr : ∀ r ∈ [lwalk x, lwalk y], r.length ≤ 1000000 := fun r hr => by
    rcases two_mem hr with rfl | rfl <;> omega
  apply sx_set
  · exact ex_call (xb_len rfl) (es_cons (ex_call (xg__law_front rfl) (es_cons (ex_list (es_cons (ex_loc (by walk_at "var")) (es_cons (ex_loc (by walk_at "var")) es_nil)) (Nat.le_of_ble_eq_true rfl)) es_nil) (Fn.inX (c_law_frontL (lwalk x) [lwalk y] (Nat.le_of_ble_eq_true rfl) hrr) (by omega)) rfl) es_nil) (fn_len_strs (by omega)) rfl
  · walk_at "set"
  · exact ho
  · rfl
  have hw1 := wt_rep (((lwalk y).length : Int) - ((frontL [lwalk x, lwalk y]).length : Int)).toNat
  have hw2 := wt_sub (slc_sub (some ((frontL [lwalk x, lwalk y]).length : Int)) none (lwalk x))
  have hw3 := (slc_sub (some ((frontL [lwalk x, lwalk y]).length : Int)) none (lwalk x)).length_le
  have hn : (((lwalk y).length : Int) - ((frontL [lwalk x, lwalk y]).length : Int)).toNat = (lwalk y).length - (frontL [lwalk x, lwalk y]).length := by omega
  have hw : wt (List.replicate (((lwalk y).length : Int) - ((frontL [lwalk x, lwalk y]).length : Int)).toNat [46, 46] ++ slc (some ((frontL [lwalk x, lwalk y]).length : Int)) none (lwalk x)) ≤ sizeLine := by
    rw [wt_app, hw1]; omega
  have hj := joinc_len (List.replicate (((lwalk y).length : Int) - ((frontL [lwalk x, lwalk y]).length : Int)).toNat [46, 46] ++ slc (some ((frontL [lwalk x, lwalk y]).length : Int)) none (lwalk x))
  refine (sx_ret (ex_or_str (ex_meth1 (ex_str (l := [47]) rfl) (ex_bin (ex_bin (ex_strs1 (ex_str (l := [46, 46]) rfl)) (ex_bin (ex_call (xb_len rfl) (es_cons (ex_loc (by walk_at "var")) es_nil) (fn_len_strs (by omega)) rfl) (ex_loc (by walk_at "var")) bop_sub_int) (bop_mul_strs1 (by omega) (by omega))) (ex_slice_strs (ex_loc (by walk_at "var")) (pt_some (ex_loc (by walk_at "var"))) pt_none (by omega)) (bop_add_strs (by rw [List.length_replicate]; omega))) (m_join (wt_side hw)) rfl rfl rfl) (ex_str (l := [46]) rfl) (by omega))).to ?_
  unfold lway; rw [hn]
theorem c_law_kind (k : Int) (x y : List Nat) (hx : x.length ≤ 1000000) (hy : y.length ≤ 1000000) : Fn (bs w mg mb) (.ref 342) 3 [.int k, .str x, .str y] (.int (kindS k x y)) := by
  refine fn_go (N := [Str.ofString "kind", Str.ofString "one", Str.ofString "two"]) (σ := [.val (.int k), .val (.str x), .val (.str y)]) (ps := [Str.ofString "kind", Str.ofString "one", Str.ofString "two"]) (rest := []) ⟨_, _, _, rfl⟩ rfl rfl (binds3 (a := .int k) (b := .str x) (c := .str y) fun _ _ _ => rfl) rfl (by decide +kernel) rfl rfl ?_
  intro X ho hl
  have hS := sizeL
  by_cases h1 : (k == 0 && decide (24 < (x.length : Int) + (y.length : Int))) = true
  · refine (sx_if_tr (tst_bool (and_cons (tst_cmp1 (ex_loc (by walk_at "var")) ex_int cmp_eq_int rfl) (fun hc => (and_cons (tst_cmp1 (ex_bin (ex_call (xb_len rfl) (es_cons (ex_loc (by walk_at "var")) es_nil) (fn_len_str (by walk_at "side")) rfl) (ex_call (xb_len rfl) (es_cons (ex_loc (by walk_at "var")) es_nil) (fn_len_str (by walk_at "side")) rfl) bop_add_int) ex_int cmp_gt_int rfl) (fun hc => and_nil))))) (by rw [Bool.and_true]; exact h1) (sx_ret ex_int)).to ?_
    unfold kindS; rw [if_pos h1]
  apply sx_if_skip
  · exact (tst_bool (and_cons (tst_cmp1 (ex_loc (by walk_at "var")) ex_int cmp_eq_int rfl) (fun hc => (and_cons (tst_cmp1 (ex_bin (ex_call (xb_len rfl) (es_cons (ex_loc (by walk_at "var")) es_nil) (fn_len_str (by walk_at "side")) rfl) (ex_call (xb_len rfl) (es_cons (ex_loc (by walk_at "var")) es_nil) (fn_len_str (by walk_at "side")) rfl) bop_add_int) ex_int cmp_gt_int rfl) (fun hc => and_nil)))))
  · rw [Bool.and_true]; simpa using h1
  by_cases h2 : (k == 7 && (x != [] && (slc none (some 1) x != [47] || slc none (some 1) y != [47]))) = true
  · refine (sx_if_tr (tst_bool (and_cons (tst_cmp1 (ex_loc (by walk_at "var")) ex_int cmp_eq_int rfl) (fun hc => (and_cons (tst_cmp1 (ex_loc (by walk_at "var")) (ex_str (l := []) rfl) cmp_ne_str rfl) (fun hc => (and_cons (tst_bool (or_cons (tst_cmp1 (ex_slice_str (ex_loc (by walk_at "var")) pt_none (pt_some ex_int) (by walk_at "side")) (ex_str (l := [47]) rfl) cmp_ne_str rfl) (fun hc => (or_cons (tst_cmp1 (ex_slice_str (ex_loc (by walk_at "var")) pt_none (pt_some ex_int) (by walk_at "side")) (ex_str (l := [47]) rfl) cmp_ne_str rfl) (fun hc => or_nil))))) (fun hc => and_nil))))))) (by simp only [Bool.and_true, Bool.or_false]; exact h2) (sx_ret ex_int)).to ?_
    unfold kindS; rw [if_neg h1, if_pos h2]
  apply sx_if_skip
  · exact (tst_bool (and_cons (tst_cmp1 (ex_loc (by walk_at "var")) ex_int cmp_eq_int rfl) (fun hc => (and_cons (tst_cmp1 (ex_loc (by walk_at "var")) (ex_str (l := []) rfl) cmp_ne_str rfl) (fun hc => (and_cons (tst_bool (or_cons (tst_cmp1 (ex_slice_str (ex_loc (by walk_at "var")) pt_none (pt_some ex_int) (by walk_at "side")) (ex_str (l := [47]) rfl) cmp_ne_str rfl) (fun hc => (or_cons (tst_cmp1 (ex_slice_str (ex_loc (by walk_at "var")) pt_none (pt_some ex_int) (by walk_at "side")) (ex_str (l := [47]) rfl) cmp_ne_str rfl) (fun hc => or_nil))))) (fun hc => and_nil)))))))
  · simp only [Bool.and_true, Bool.or_false]; simpa using h2
  refine (sx_ret (ex_loc (by walk_at "var"))).to ?_
  unfold kindS; rw [if_neg h1, if_neg h2]
end
end Mine
end
section
open PySem PySem.W PyProof.Rows PySem.Calls
set_option Elab.async false
set_option linter.unusedVariables false
set_option maxRecDepth 100000
namespace Mine
noncomputable def lmore (k : Nat) (rows : List (List Nat)) (hs : List Int) : List Nat :=
  if (rows.map (one k)).contains [] = true then [] else frontL ((rows.map (one k)).map (writeH hs))
theorem writeH_len (hs : List Int) : ∀ (x : List Nat), (writeH hs x).length ≤ 6 ^ hs.length * x.length := by
  induction hs with
  | nil => intro x; simp [writeH]
  | cons h r ih =>
    intro x
    have h1 := ih (spell (tabH h) x)
    have h2 := spell_len (tabH_six h) x
    show (writeH r (spell (tabH h) x)).length ≤ _
    refine Nat.le_trans h1 (Nat.le_trans (Nat.mul_le_mul_left _ h2) ?_)
    rw [List.length_cons, Nat.pow_succ, Nat.mul_assoc]
    exact Nat.le_refl _
section
variable {w : World} {mg mb : Str → Option Value}
theorem c_law_more (k : Nat) (a b c : List Nat) (hs : List Int) (hh : hs.length ≤ 2) (h5 : ∀ h ∈ hs, 0 ≤ h ∧ h < 5) (ha : a.length ≤ 1000000) (hb : b.length ≤ 1000000) (hc : c.length ≤ 1000000) :
    Fn (bs w mg mb) (.ref 347) 4 [.int (k : Int), .strs [a, b, c], .list (hs.map .int)] (.str (lmore k [a, b, c] hs)) := by
  refine fn_go (N := [Str.ofString "size", Str.ofString "rows", Str.ofString "hands", Str.ofString "signs"]) (σ := [.val (.int (k : Int)), .val (.strs [a, b, c]), .val (.list (hs.map .int)), .no]) (ps := [Str.ofString "size", Str.ofString "rows", Str.ofString "hands"]) (rest := [Str.ofString "signs"]) ⟨_, _, _, rfl⟩ rfl rfl (binds3 (a := .int (k : Int)) (b := .strs [a, b, c]) (c := .list (hs.map .int)) fun _ _ _ => rfl) rfl (by decide +kernel) rfl rfl ?_
  intro X ho hl
  have hS := sizeL
  have hall : ∀ r ∈ [a, b, c], r.length ≤ 1000000 := fun r hr => by
    simp only [List.mem_cons, List.not_mem_nil, or_false] at hr
    rcases hr with rfl | rfl | rfl <;> assumption
  have h1len : ∀ r : List Nat, (one k r).length ≤ 1 := fun r => by rw [one_eq, List.length_take]; exact Nat.min_le_left _ _
  have h36 : ∀ r : List Nat, (writeH hs (one k r)).length ≤ 1000000 := fun r => by
    have h1 := writeH_len hs (one k r)
    have h2 : 6 ^ hs.length ≤ 6 ^ 2 := Nat.pow_le_pow_right (by decide) hh
    have h3 := Nat.mul_le_mul h2 (h1len r)
    omega
  apply sx_cons
  · apply s1_comp (rs := ([a, b, c].map (one k)).map AV.str) (ys := [Str.ofString "size"]) (bs := [.val (.int (k : Int))])
    · exact itr_list (ex_loc (by walk_at "var"))
    · exact .cons (by walk_at "var") .nil
    · decide +kernel
    · exact Nat.le_of_ble_eq_true rfl
    · intro X' h1 h2
      rw [List.map_map]
      refine cmpr_map AV.str _ [a, b, c] fun r hr => ?_
      have hrl := hall r hr
      exact ex_slice_str (ex_loc .here) (pt_some (ex_loc (.there .here))) (pt_some (ex_bin (ex_loc (.there .here)) ex_int bop_add_int)) (by omega)
    · walk_at "set"
    · decide +kernel
  have hsp : ∀ r ∈ [one k a, one k b, one k c], Fn (bs w mg mb) (.ref 269) 3 [.str r, .list (hs.map .int)] (.str (writeH hs r)) := fun r hr => by
    simp only [List.mem_cons, List.not_mem_nil, or_false] at hr
    have : r.length ≤ 1 := by rcases hr with rfl | rfl | rfl <;> exact h1len _
    exact c_law_spelled hs r hh h5 (by omega)
  refine (sx_ret (ex_if_str (tst_cmp1 (ex_str (l := []) rfl) (ex_loc (by walk_at "var")) cmp_in_strs rfl) (fun _ => (ex_str (l := []) rfl)) (fun _ => ex_call (xg__law_front rfl) (es_cons (ex_comp (rs := ([one k a, one k b, one k c].map (writeH hs)).map AV.str) (ys := [Str.ofString "hands"]) (bs := [.val (.list (hs.map .int))]) (itr_list (ex_loc (by walk_at "var"))) (.cons (by walk_at "var") .nil) (by decide +kernel) (Nat.le_of_ble_eq_true rfl) (fun X' h1 h2 => by
    refine cmpr_map AV.str (fun r => AV.str (writeH hs r)) [one k a, one k b, one k c] fun r hr => ?_
    exact ex_call (xg__law_spelled rfl) (es_cons (ex_loc .here) (es_cons (ex_loc (.there .here)) es_nil)) (Fn.inX (hsp r hr) (by omega)) rfl)) es_nil) (Fn.inX (c_law_front (writeH hs (one k a)) [writeH hs (one k b), writeH hs (one k c)] (Nat.le_of_ble_eq_true rfl) (fun r hr => by
      simp only [List.mem_cons, List.not_mem_nil, or_false] at hr
      rcases hr with rfl | rfl | rfl <;> exact h36 _)) (by omega)) rfl))).to ?_
  rfl
end
end Mine
end
section
open PySem PySem.W PyProof.Rows PySem.Calls
set_option Elab.async false
set_option linter.unusedVariables false
set_option maxRecDepth 100000
namespace Mine
section
variable {B : Base} {sc : Scope} {N : List Str} {X : FI B sc N} {σ bs : List Bnd}
theorem ifs_one {e : Expr} {b : Bool} (h : Tst X σ e b) : Ifs X σ [e] b := ⟨b, h, by cases b <;> rfl⟩
theorem cmpr_filter {α : Type} {elt : Expr} {ifs : List Expr} (f g : α → AV) (p : α → Bool) : ∀ (l : List α), (∀ a ∈ l, Ifs X (.val (f a) :: bs) ifs (p a)) → (∀ a ∈ l, p a = true → Ex X (.val (f a) :: bs) elt (g a)) → Cmpr X bs elt ifs (l.map f) ((l.filter p).map g)
  | [], _, _ => .nil
  | a :: r, h, h' => by
    have ih := cmpr_filter f g p r (fun b hb => h b (.tail _ hb)) (fun b hb => h' b (.tail _ hb))
    have h1 := h a (.head _)
    cases q : p a with
    | true =>
      rw [List.filter_cons_of_pos q]
      rw [q] at h1
      exact .take h1 (h' a (.head _) q) ih
    | false =>
      rw [List.filter_cons_of_neg (by rw [q]; decide)]
      rw [q] at h1
      exact .skip h1 ih
end
noncomputable def plainP (p : List Nat) : Bool := ![([] : List Nat), [46]].contains p
noncomputable def cleanP (r : List Nat) : List (List Nat) := (splitc 47 r).filter plainP
noncomputable def absN (a b c : List Nat) : Nat := ([a, b, c].filter isAb).length
noncomputable def lcommon (a b c : List Nat) : List Nat :=
  if (![(0 : Int), (([a, b, c] : List (List Nat)).length : Int)].contains (absN a b c : Int)) = true then a ++ [33]
  else (if isAb a = true then [47] else []) ++ joinc [47] (frontL [cleanP a, cleanP b, cleanP c])
section
variable {w : World} {mg mb : Str → Option Value}
theorem c_law_common (a b c : List Nat) (ha : a.length ≤ 900000) (hb : b.length ≤ 900000) (hc : c.length ≤ 900000) : Fn (bs w mg mb) (.ref 314) 4 [.strs [a, b, c]] (.str (lcommon a b c)) := by
  refine fn_go (N := [Str.ofString "rows", Str.ofString "shared"]) (σ := [.val (.strs [a, b, c]), .no]) (ps := [Str.ofString "rows"]) (rest := [Str.ofString "shared"]) ⟨_, _, _, rfl⟩ rfl rfl (binds1 (a := .strs [a, b, c]) fun _ => rfl) rfl (by decide +kernel) rfl rfl ?_
  intro X ho hl
  have hS := sizeL
  have hall : ∀ r ∈ [a, b, c], r.length ≤ 900000 := fun r hr => by
    simp only [List.mem_cons, List.not_mem_nil, or_false] at hr
    rcases hr with rfl | rfl | rfl <;> assumption
  have hcl : ∀ r ∈ [a, b, c], wt (cleanP r) ≤ 900001 := fun r hr => by
    have h1 := wt_sub (List.filter_sublist (p := plainP) (l := splitc 47 r))
    have h2 := wt_splitc 47 r
    have h3 := hall r hr
    show wt ((splitc 47 r).filter plainP) ≤ _
    omega
  have hcl2 : ∀ r ∈ [cleanP a, cleanP b, cleanP c], r.length ≤ 1000000 := fun r hr => by
    simp only [List.mem_cons, List.not_mem_nil, or_false] at hr
    have h1 := hcl a (by simp)
    have h2 := hcl b (by simp)
    have h3 := hcl c (by simp)
    have h := wt_len r
    rcases hr with rfl | rfl | rfl <;> omega
  have hN : absN a b c ≤ 3 := List.length_filter_le _ _
  have row0 : Ex X [.val (.strs [a, b, c]), .no] (.Subscript (.Name (Str.ofString "rows") default) (.Constant (.int 0) 0 default) default) (.str a) := ex_sub (ex_loc .here) ex_int (itm_list (i := 0) rfl (Nat.le_of_ble_eq_true rfl))
  by_cases h : (![(0 : Int), (([a, b, c] : List (List Nat)).length : Int)].contains (absN a b c : Int)) = true
  · refine (sx_if_tr (tst_cmp1 (ex_call (xb_len rfl) (es_cons (ex_comp (rs := ([a, b, c].filter isAb).map AV.str) (ys := []) (bs := []) (itr_list (ex_loc (by walk_at "var"))) .nil (by decide +kernel) (Nat.le_of_ble_eq_true rfl) (fun X' h1 h2 => by
      refine cmpr_filter AV.str AV.str isAb [a, b, c] (fun r hr => ?_) (fun r hr _ => ex_loc .here)
      have hrl := hall r hr
      exact ifs_one (tst_cmp1 (ex_slice_str (ex_loc .here) pt_none (pt_some ex_int) (by omega)) (ex_str (l := [47]) rfl) cmp_eq_str rfl))) es_nil) (fn_len_strs (by show absN a b c ≤ _; omega)) rfl) (ex_ints2 ex_int (ex_call (xb_len rfl) (es_cons (ex_loc (by walk_at "var")) es_nil) (fn_len_strs (Nat.le_of_ble_eq_true rfl)) rfl)) cmp_notin_ints rfl) h
      (sx_ret (ex_bin (ex_sub (ex_loc (by walk_at "var")) ex_int (itm_list (i := 0) rfl (Nat.le_of_ble_eq_true rfl))) (ex_str (l := [33]) rfl) (bop_add_str (by simp only [List.length_cons, List.length_nil]; omega))))).to ?_
    unfold lcommon; rw [if_pos h]
  apply sx_if_skip
  · exact tst_cmp1 (ex_call (xb_len rfl) (es_cons (ex_comp (rs := ([a, b, c].filter isAb).map AV.str) (ys := []) (bs := []) (itr_list (ex_loc (by walk_at "var"))) .nil (by decide +kernel) (Nat.le_of_ble_eq_true rfl) (fun X' h1 h2 => by
      refine cmpr_filter AV.str AV.str isAb [a, b, c] (fun r hr => ?_) (fun r hr _ => ex_loc .here)
      have hrl := hall r hr
      exact ifs_one (tst_cmp1 (ex_slice_str (ex_loc .here) pt_none (pt_some ex_int) (by omega)) (ex_str (l := [47]) rfl) cmp_eq_str rfl))) es_nil) (fn_len_strs (by show absN a b c ≤ _; omega)) rfl) (ex_ints2 ex_int (ex_call (xb_len rfl) (es_cons (ex_loc (by walk_at "var")) es_nil) (fn_len_strs (Nat.le_of_ble_eq_true rfl)) rfl)) cmp_notin_ints rfl
  · have h' : (![(0 : Int), (([a, b, c] : List (List Nat)).length : Int)].contains (absN a b c : Int)) = false := by
      cases q : (![(0 : Int), (([a, b, c] : List (List Nat)).length : Int)].contains (absN a b c : Int)) with
      | true => exact absurd q h
      | false => rfl
    exact h'
  apply sx_set
  · exact ex_call (xg__law_front rfl) (es_cons (ex_comp (rs := [cleanP a, cleanP b, cleanP c].map AV.strs) (ys := []) (bs := []) (itr_list (ex_loc (by walk_at "var"))) .nil (by decide +kernel) (Nat.le_of_ble_eq_true rfl) (fun X' h1 h2 => by
      refine cmpr_map AV.str (fun r => AV.strs (cleanP r)) [a, b, c] fun r hr => ?_
      have hrl := hall r hr
      have hsp := splitc_le 47 r
      exact ex_comp (rs := (cleanP r).map AV.str) (ys := []) (bs := []) (itr_list (ex_meth1 (ex_loc .here) (ex_str (l := [47]) rfl) (m_split (by omega)) rfl rfl rfl)) .nil (by decide +kernel) (by rw [List.length_map]; omega) (fun X'' h3 h4 => by
        refine cmpr_filter AV.str AV.str plainP (splitc 47 r) (fun q hq => ?_) (fun q hq _ => ex_loc .here)
        exact ifs_one (tst_cmp1 (ex_loc .here) (ex_strs2 (ex_str (l := []) rfl) (ex_str (l := [46]) rfl)) cmp_notin_strs rfl)))) es_nil) (Fn.inX (c_law_frontL (cleanP a) [cleanP b, cleanP c] (Nat.le_of_ble_eq_true rfl) hcl2) (by omega)) rfl
  · walk_at "set"
  · exact ho
  · rfl
  have hfl : (frontL [cleanP a, cleanP b, cleanP c]).Sublist (cleanP a) := slc_sub _ _ _
  have hfw := wt_sub hfl
  have hwa := hcl a (by simp)
  have hjl := joinc_len (frontL [cleanP a, cleanP b, cleanP c])
  have hww : wt (frontL [cleanP a, cleanP b, cleanP c]) ≤ sizeLine := by omega
  refine (sx_ret (ex_bin (ex_if_str (tst_cmp1 (ex_slice_str (ex_sub (ex_loc (by walk_at "var")) ex_int (itm_list (i := 0) rfl (Nat.le_of_ble_eq_true rfl))) pt_none (pt_some ex_int) (by omega)) (ex_str (l := [47]) rfl) cmp_eq_str rfl) (fun _ => ex_str (l := [47]) rfl) (fun _ => ex_str (l := []) rfl)) (ex_meth1 (ex_str (l := [47]) rfl) (ex_loc (by walk_at "var")) (m_join (wt_side hww)) rfl rfl rfl) (bop_add_str (by split <;> simp only [List.length_cons, List.length_nil] <;> omega)))).to ?_
  unfold lcommon; rw [if_neg h]; rfl
end
end Mine
end
section
open PySem PySem.W PyProof.Rows PySem.Calls
set_option Elab.async false
set_option linter.unusedVariables false
set_option maxRecDepth 100000
namespace Mine
noncomputable def MARKS : List (List Nat) := [[97], [47], [46, 46], [38], [47, 97], [46], [60], [62], [34], [47, 46, 46, 47], [13], [10], [9], [38, 108, 116, 59], [47, 47], [46, 120]]
noncomputable def markAt (z : Int) : List Nat := MARKS.getD z.toNat []
noncomputable def pathOf (q : Int) : List Nat := markAt (q.fmod 16) ++ markAt ((q.fdiv 16).fmod 16) ++ markAt ((q.fdiv 256).fmod 16) ++ markAt ((q.fdiv 4096).fmod 16)
theorem mark_len (z : Int) : (markAt z).length ≤ 4 := by
  have h : ∀ n : Nat, (MARKS.getD n []).length ≤ 4 := by
    intro n
    rcases Nat.lt_or_ge n 16 with q | q
    · have : ∀ n, n < 16 → (MARKS.getD n []).length ≤ 4 := by decide
      exact this n q
    · rw [List.getD_eq_getElem?_getD, List.getElem?_eq_none (by show 16 ≤ n; exact q)]; exact Nat.zero_le _
  exact h _
theorem mark_at (z : Int) (h0 : 0 ≤ z) (h1 : z < 16) : (MARKS.map AV.str)[z.toNat]? = some (.str (markAt z)) := by
  have hz : z.toNat < MARKS.length := by show z.toNat < 16; omega
  unfold markAt
  rw [List.getElem?_map, List.getD_eq_getElem?_getD, List.getElem?_eq_getElem hz]; rfl
section
variable {w : World} {mg mb : Str → Option Value}
theorem c_law_path (q : Int) : Fn (bs w mg mb) (.ref 257) 3 [.int q] (.str (pathOf q)) := by
  refine fn_go (N := [Str.ofString "q", Str.ofString "marks"]) (σ := [.val (.int q), .no]) (ps := [Str.ofString "q"]) (rest := [Str.ofString "marks"]) ⟨_, _, _, rfl⟩ rfl rfl (binds1 (a := .int q) fun _ => rfl) rfl (by decide +kernel) rfl rfl ?_
  intro X ho hl
  have hS := sizeL
  have m1 := mark_len (q.fmod 16)
  have m2 := mark_len ((q.fdiv 16).fmod 16)
  have m3 := mark_len ((q.fdiv 256).fmod 16)
  have m4 := mark_len ((q.fdiv 4096).fmod 16)
  apply sx_set
  · exact (ex_list (es_cons (ex_str (l := [97]) rfl) (es_cons (ex_str (l := [47]) rfl) (es_cons (ex_str (l := [46, 46]) rfl) (es_cons (ex_str (l := [38]) rfl) (es_cons (ex_str (l := [47, 97]) rfl) (es_cons (ex_str (l := [46]) rfl) (es_cons (ex_str (l := [60]) rfl) (es_cons (ex_str (l := [62]) rfl) (es_cons (ex_str (l := [34]) rfl) (es_cons (ex_str (l := [47, 46, 46, 47]) rfl) (es_cons (ex_str (l := [13]) rfl) (es_cons (ex_str (l := [10]) rfl) (es_cons (ex_str (l := [9]) rfl) (es_cons (ex_str (l := [38, 108, 116, 59]) rfl) (es_cons (ex_str (l := [47, 47]) rfl) (es_cons (ex_str (l := [46, 120]) rfl) es_nil)))))))))))))))) (Nat.le_of_ble_eq_true rfl)).of (r' := .list (MARKS.map AV.str)) rfl
  · walk_at "set"
  · exact ho
  · rfl
  refine (sx_ret (ex_bin (ex_bin (ex_bin (ex_sub (ex_loc (by walk_at "var")) (ex_bin (ex_loc (by walk_at "var")) ex_int (bop_mod_int (by decide))) (itm_listZ (Int.fmod_nonneg_of_pos _ (by decide)) (mark_at (q.fmod 16) (Int.fmod_nonneg_of_pos _ (by decide)) (Int.fmod_lt_of_pos _ (by decide))) (Nat.le_of_ble_eq_true rfl))) (ex_sub (ex_loc (by walk_at "var")) (ex_bin (ex_bin (ex_loc (by walk_at "var")) ex_int (bop_div_int (by decide) (by decide))) ex_int (bop_mod_int (by decide))) (itm_listZ (Int.fmod_nonneg_of_pos _ (by decide)) (mark_at ((q.fdiv 16).fmod 16) (Int.fmod_nonneg_of_pos _ (by decide)) (Int.fmod_lt_of_pos _ (by decide))) (Nat.le_of_ble_eq_true rfl))) (bop_add_str (by walk_at "side"))) (ex_sub (ex_loc (by walk_at "var")) (ex_bin (ex_bin (ex_loc (by walk_at "var")) ex_int (bop_div_int (by decide) (by decide))) ex_int (bop_mod_int (by decide))) (itm_listZ (Int.fmod_nonneg_of_pos _ (by decide)) (mark_at ((q.fdiv 256).fmod 16) (Int.fmod_nonneg_of_pos _ (by decide)) (Int.fmod_lt_of_pos _ (by decide))) (Nat.le_of_ble_eq_true rfl))) (bop_add_str (by walk_at "side"))) (ex_sub (ex_loc (by walk_at "var")) (ex_bin (ex_bin (ex_loc (by walk_at "var")) ex_int (bop_div_int (by decide) (by decide))) ex_int (bop_mod_int (by decide))) (itm_listZ (Int.fmod_nonneg_of_pos _ (by decide)) (mark_at ((q.fdiv 4096).fmod 16) (Int.fmod_nonneg_of_pos _ (by decide)) (Int.fmod_lt_of_pos _ (by decide))) (Nat.le_of_ble_eq_true rfl))) (bop_add_str (by walk_at "side")))).to ?_
  rfl
end
end Mine
end
section
open PySem PySem.W PyProof.Rows PySem.Calls
set_option Elab.async false
set_option linter.unusedVariables false
set_option maxRecDepth 100000
namespace Mine
noncomputable def toldS (k : Int) (x y z : List Nat) : List Nat × List Nat :=
  if (k == 0) = true then (ljoined x y, y)
  else if (k == 1) = true then lparted x
  else if (k == 2) = true then (orT (lroot x ++ joinc [47] (lwalk x)) [46], y)
  else if (k == 3) = true then (slc none (some ((x.length : Int) - ((lending x).length : Int))) x, y ++ lending x)
  else if (k == 4) = true then (lcommon x y z, y)
  else if (k == 5) = true then (frontL [x, y, z], y)
  else if (k == 6) = true then (slc (some ((lroot x).length : Int)) none x, lroot x ++ y)
  else if (x == []) = true then ([33], y) else (lway x y, y)
theorem lroot_len (x : List Nat) : (lroot x).length ≤ 2 := by
  unfold lroot; split
  · decide
  · split <;> decide
theorem lending_len (x : List Nat) : (lending x).length ≤ x.length + 1 := by
  unfold lending
  split
  · have h1 : ((splitc 46 (lname x)).getLast?.getD []).length ≤ (lname x).length := by
      have hw := wt_splitc 46 (lname x)
      cases h : (splitc 46 (lname x)).getLast? with
      | none => exact Nat.zero_le _
      | some y =>
        have := wt_sub (List.singleton_sublist.mpr (List.mem_of_getLast? h))
        rw [wt_one, hw] at this
        show y.length ≤ _; omega
    have h2 : (lname x).length ≤ (llast x).length := (List.dropWhile_sublist _).length_le
    have h3 := llast_len x
    rw [List.length_append]; simp only [List.length_cons, List.length_nil]; omega
  · exact Nat.zero_le _
section
variable {w : World} {mg mb : Str → Option Value}
local macro_rules | `(tactic| walk_at "side") => `(tactic| first | with_reducible assumption | omega | with_reducible exact wt_side (by with_reducible assumption) | with_reducible exact wt_side0 (by with_reducible assumption) | (simp only [List.length_append, List.length_cons, List.length_nil, List.length_map, List.length_replicate]; omega))
local macro_rules | `(tactic| walk_at "fn _law_joined") => `(tactic| exact c_law_joined _ _ (by walk_at "side") (by walk_at "side"))
local macro_rules | `(tactic| walk_at "fn _law_parted") => `(tactic| exact c_law_parted _ (by walk_at "side"))
local macro_rules | `(tactic| walk_at "fn _law_root") => `(tactic| exact c_law_root _ (by walk_at "side"))
local macro_rules | `(tactic| walk_at "fn _law_walk") => `(tactic| exact c_law_walk _ (by walk_at "side"))
local macro_rules | `(tactic| walk_at "fn _law_ending") => `(tactic| exact c_law_ending _ (by walk_at "side"))
local macro_rules | `(tactic| walk_at "fn _law_common") => `(tactic| exact c_law_common _ _ _ (by walk_at "side") (by walk_at "side") (by walk_at "side"))
local macro_rules | `(tactic| walk_at "fn _law_way") => `(tactic| exact c_law_way _ _ (by walk_at "side") (by walk_at "side"))
theorem c_law_told (k : Int) (x y z : List Nat) (hx : x.length ≤ 900000) (hy : y.length ≤ 900000) (hz : z.length ≤ 900000) : Fn (bs w mg mb) (.ref 328) 6 [.int k, .str x, .str y, .str z] (.tup [.str (toldS k x y z).1, .str (toldS k x y z).2]) := by
  refine fn_go (N := [Str.ofString "kind", Str.ofString "one", Str.ofString "two", Str.ofString "last"]) (σ := [.val (.int k), .val (.str x), .val (.str y), .val (.str z)]) (ps := [Str.ofString "kind", Str.ofString "one", Str.ofString "two", Str.ofString "last"]) (rest := []) ⟨_, _, _, rfl⟩ rfl rfl (binds4 (a := .int k) (b := .str x) (c := .str y) (d := .str z) fun _ _ _ _ => rfl) rfl (by decide +kernel) rfl rfl ?_
  intro X ho hl
  have hS := sizeL
  have hr := lroot_len x
  have he := lending_len x
  have hw := lwalk_wt x
  have hw' : wt (lwalk x) ≤ sizeLine := by omega
  have hj := joinc_len (lwalk x)
  by_cases h0 : (k == 0) = true
  · refine (sx_if_tr (tst_cmp1 (ex_loc (by walk_at "var")) ex_int cmp_eq_int rfl) h0 (sx_ret (ex_tuple (es_cons (ex_call (xg__law_joined rfl) (es_cons (ex_loc (by walk_at "var")) (es_cons (ex_loc (by walk_at "var")) es_nil)) (Fn.inX (by walk_at "fn _law_joined") (by omega)) rfl) (es_cons (ex_loc (by walk_at "var")) es_nil)) (by walk_at "few")))).to ?_
    unfold toldS; rw [if_pos h0]
  refine sx_if_skip (tst_cmp1 (ex_loc (by walk_at "var")) ex_int cmp_eq_int rfl) (by simpa using h0) ?_
  by_cases h1 : (k == 1) = true
  · refine (sx_if_tr (tst_cmp1 (ex_loc (by walk_at "var")) ex_int cmp_eq_int rfl) h1 (sx_ret (ex_call (xg__law_parted rfl) (es_cons (ex_loc (by walk_at "var")) es_nil) (Fn.inX (by walk_at "fn _law_parted") (by omega)) rfl))).to ?_
    unfold toldS; rw [if_neg h0, if_pos h1]
  refine sx_if_skip (tst_cmp1 (ex_loc (by walk_at "var")) ex_int cmp_eq_int rfl) (by simpa using h1) ?_
  by_cases h2 : (k == 2) = true
  · refine (sx_if_tr (tst_cmp1 (ex_loc (by walk_at "var")) ex_int cmp_eq_int rfl) h2 (sx_ret (ex_tuple (es_cons (ex_or_str (ex_bin (ex_call (xg__law_root rfl) (es_cons (ex_loc (by walk_at "var")) es_nil) (Fn.inX (by walk_at "fn _law_root") (by omega)) rfl) (ex_meth1 (ex_str (l := [47]) rfl) (ex_call (xg__law_walk rfl) (es_cons (ex_loc (by walk_at "var")) es_nil) (Fn.inX (by walk_at "fn _law_walk") (by omega)) rfl) (m_join (by walk_at "side")) rfl rfl rfl) (bop_add_str (by walk_at "side"))) (ex_str (l := [46]) rfl) (by walk_at "side")) (es_cons (ex_loc (by walk_at "var")) es_nil)) (by walk_at "few")))).to ?_
    unfold toldS; rw [if_neg h0, if_neg h1, if_pos h2]
  refine sx_if_skip (tst_cmp1 (ex_loc (by walk_at "var")) ex_int cmp_eq_int rfl) (by simpa using h2) ?_
  by_cases h3 : (k == 3) = true
  · refine (sx_if_tr (tst_cmp1 (ex_loc (by walk_at "var")) ex_int cmp_eq_int rfl) h3 (sx_ret (ex_tuple (es_cons (ex_slice_str (ex_loc (by walk_at "var")) pt_none (pt_some (ex_bin (ex_call (xb_len rfl) (es_cons (ex_loc (by walk_at "var")) es_nil) (fn_len_str (by walk_at "side")) rfl) (ex_call (xb_len rfl) (es_cons (ex_call (xg__law_ending rfl) (es_cons (ex_loc (by walk_at "var")) es_nil) (Fn.inX (by walk_at "fn _law_ending") (by omega)) rfl) es_nil) (fn_len_str (by walk_at "side")) rfl) bop_sub_int)) (by walk_at "side")) (es_cons (ex_bin (ex_loc (by walk_at "var")) (ex_call (xg__law_ending rfl) (es_cons (ex_loc (by walk_at "var")) es_nil) (Fn.inX (by walk_at "fn _law_ending") (by omega)) rfl) (bop_add_str (by walk_at "side"))) es_nil)) (by walk_at "few")))).to ?_
    unfold toldS; rw [if_neg h0, if_neg h1, if_neg h2, if_pos h3]
  refine sx_if_skip (tst_cmp1 (ex_loc (by walk_at "var")) ex_int cmp_eq_int rfl) (by simpa using h3) ?_
  by_cases h4 : (k == 4) = true
  · refine (sx_if_tr (tst_cmp1 (ex_loc (by walk_at "var")) ex_int cmp_eq_int rfl) h4 (sx_ret (ex_tuple (es_cons (ex_call (xg__law_common rfl) (es_cons (ex_strs3 (ex_loc (by walk_at "var")) (ex_loc (by walk_at "var")) (ex_loc (by walk_at "var"))) es_nil) (Fn.inX (by walk_at "fn _law_common") (by omega)) rfl) (es_cons (ex_loc (by walk_at "var")) es_nil)) (by walk_at "few")))).to ?_
    unfold toldS; rw [if_neg h0, if_neg h1, if_neg h2, if_neg h3, if_pos h4]
  refine sx_if_skip (tst_cmp1 (ex_loc (by walk_at "var")) ex_int cmp_eq_int rfl) (by simpa using h4) ?_
  by_cases h5 : (k == 5) = true
  · refine (sx_if_tr (tst_cmp1 (ex_loc (by walk_at "var")) ex_int cmp_eq_int rfl) h5 (sx_ret (ex_tuple (es_cons (ex_call (xg__law_front rfl) (es_cons (ex_strs3 (ex_loc (by walk_at "var")) (ex_loc (by walk_at "var")) (ex_loc (by walk_at "var"))) es_nil) (Fn.inX (c_law_front x [y, z] (Nat.le_of_ble_eq_true rfl) (fun r hr => by
      simp only [List.mem_cons, List.not_mem_nil, or_false] at hr
      rcases hr with rfl | rfl | rfl <;> omega)) (by omega)) rfl) (es_cons (ex_loc (by walk_at "var")) es_nil)) (Nat.le_of_ble_eq_true rfl)))).to ?_
    unfold toldS; rw [if_neg h0, if_neg h1, if_neg h2, if_neg h3, if_neg h4, if_pos h5]
  refine sx_if_skip (tst_cmp1 (ex_loc (by walk_at "var")) ex_int cmp_eq_int rfl) (by simpa using h5) ?_
  by_cases h6 : (k == 6) = true
  · refine (sx_if_tr (tst_cmp1 (ex_loc (by walk_at "var")) ex_int cmp_eq_int rfl) h6 (sx_ret (ex_tuple (es_cons (ex_slice_str (ex_loc (by walk_at "var")) (pt_some (ex_call (xb_len rfl) (es_cons (ex_call (xg__law_root rfl) (es_cons (ex_loc (by walk_at "var")) es_nil) (Fn.inX (by walk_at "fn _law_root") (by omega)) rfl) es_nil) (fn_len_str (by walk_at "side")) rfl)) pt_none (by walk_at "side")) (es_cons (ex_bin (ex_call (xg__law_root rfl) (es_cons (ex_loc (by walk_at "var")) es_nil) (Fn.inX (by walk_at "fn _law_root") (by omega)) rfl) (ex_loc (by walk_at "var")) (bop_add_str (by walk_at "side"))) es_nil)) (by walk_at "few")))).to ?_
    unfold toldS; rw [if_neg h0, if_neg h1, if_neg h2, if_neg h3, if_neg h4, if_neg h5, if_pos h6]
  refine sx_if_skip (tst_cmp1 (ex_loc (by walk_at "var")) ex_int cmp_eq_int rfl) (by simpa using h6) ?_
  by_cases h7 : (x == []) = true
  · refine (sx_if_tr (tst_cmp1 (ex_loc (by walk_at "var")) (ex_str (l := []) rfl) cmp_eq_str rfl) h7 (sx_ret (ex_tuple (es_cons (ex_str (l := [33]) rfl) (es_cons (ex_loc (by walk_at "var")) es_nil)) (by walk_at "few")))).to ?_
    unfold toldS; rw [if_neg h0, if_neg h1, if_neg h2, if_neg h3, if_neg h4, if_neg h5, if_neg h6, if_pos h7]
  refine sx_if_skip (tst_cmp1 (ex_loc (by walk_at "var")) (ex_str (l := []) rfl) cmp_eq_str rfl) (by simpa using h7) ?_
  refine (sx_ret (ex_tuple (es_cons (ex_call (xg__law_way rfl) (es_cons (ex_loc (by walk_at "var")) (es_cons (ex_loc (by walk_at "var")) es_nil)) (Fn.inX (by walk_at "fn _law_way") (by omega)) rfl) (es_cons (ex_loc (by walk_at "var")) es_nil)) (by walk_at "few"))).to ?_
  unfold toldS; rw [if_neg h0, if_neg h1, if_neg h2, if_neg h3, if_neg h4, if_neg h5, if_neg h6, if_neg h7]
end
end Mine
end
section
open PySem PySem.W PyProof.Rows PySem.Calls
set_option Elab.async false
set_option linter.unusedVariables false
set_option maxRecDepth 100000
namespace Mine
noncomputable def seenS (p t : List Nat) (hs : List Int) : Bool :=
  if (((t.head? == some 47) != isAb p) || writeH hs p != t) = true then false
  else [trimS (headS t), tailS t] == [writeH hs (lparted p).1, writeH hs (lparted p).2]
theorem lparted_len (x : List Nat) : (lparted x).1.length ≤ x.length + 1 ∧ (lparted x).2.length ≤ x.length := by
  have h1 := splitc_le 47 x
  have hw := wt_splitc 47 x
  have hf : (lfront x).Sublist (splitc 47 x) := slc_sub _ _ _
  have hfl := hf.length_le
  have hfw := wt_sub hf
  have hs := wt_sub (lstrip0_sub (lfront x).length (lfront x))
  have hj := joinc_len (lstrip0 (lfront x).length (lfront x))
  unfold lparted
  split
  · exact ⟨by show (List.replicate _ _).length ≤ _; rw [List.length_replicate]; omega, llast_len x⟩
  · exact ⟨by show (joinc [47] _).length ≤ _; omega, llast_len x⟩
section
variable {w : World} {mg mb : Str → Option Value}
local macro_rules | `(tactic| walk_at "fn _law_parted") => `(tactic| exact c_law_parted _ (by walk_at "side"))
local macro_rules | `(tactic| walk_at "fn isabs") => `(tactic| exact c_isabs _)
local macro_rules | `(tactic| walk_at "fn dirname") => `(tactic| exact c_dirname _ (by walk_at "side"))
local macro_rules | `(tactic| walk_at "fn basename") => `(tactic| exact c_basename _ (by walk_at "side"))
local macro_rules | `(tactic| walk_at "fn _law_write") => `(tactic| exact c_law_write _ _ (by walk_at "side") (by walk_at "side"))
local macro_rules | `(tactic| walk_at "fn _law_spelled") => `(tactic| exact c_law_spelled _ _ (by walk_at "side") (by assumption) (by walk_at "side"))
theorem c_law_seen (p t : List Nat) (hs : List Int) (hh : hs.length ≤ 2) (h5 : ∀ h ∈ hs, 0 ≤ h ∧ h < 5) (hp : p.length ≤ 43000) (ht : t.length ≤ 1000000) : Fn (bs w mg mb) (.ref 359) 4 [.str p, .str t, .list (hs.map .int)] (.bool (seenS p t hs)) := by
  refine fn_go (N := [Str.ofString "path", Str.ofString "text", Str.ofString "hands", Str.ofString "head", Str.ofString "tail"]) (σ := [.val (.str p), .val (.str t), .val (.list (hs.map .int)), .no, .no]) (ps := [Str.ofString "path", Str.ofString "text", Str.ofString "hands"]) (rest := [Str.ofString "head", Str.ofString "tail"]) ⟨_, _, _, rfl⟩ rfl rfl (binds3 (a := .str p) (b := .str t) (c := .list (hs.map .int)) fun _ _ _ => rfl) rfl (by decide +kernel) rfl rfl ?_
  intro X ho hl
  have hS := sizeL
  obtain ⟨hl1, hl2⟩ := lparted_len p
  apply sx_cons
  · apply s1_tup
    · exact (ex_call (xg__law_parted rfl) (es_cons (ex_loc (by walk_at "var")) es_nil) (Fn.inX (by walk_at "fn _law_parted") (by omega)) rfl)
    · rfl
    · apply Sets.cons
      · walk_at "set"
      · apply Sets.cons
        · walk_at "set"
        · exact Sets.nil
    · exact ho
    · rfl
    · rfl
  by_cases h : (((t.head? == some 47) != isAb p) || writeH hs p != t) = true
  · refine (sx_if_tr (tst_bool (or_cons (tst_cmp1 (ex_call (xg_isabs rfl) (es_cons (ex_loc (by walk_at "var")) es_nil) (Fn.inX (by walk_at "fn isabs") (by omega)) rfl) (ex_cmp1 (ex_slice_str (ex_loc (by walk_at "var")) pt_none (pt_some ex_int) (by walk_at "side")) (ex_str (l := [47]) rfl) cmp_eq_str rfl) cmp_isnot_bool rfl) (fun hc => (or_cons (tst_cmp1 (ex_call (xg__law_write rfl) (es_cons (ex_loc (by walk_at "var")) (es_cons (ex_loc (by walk_at "var")) es_nil)) (Fn.inX (by walk_at "fn _law_write") (by omega)) rfl) (ex_loc (by walk_at "var")) cmp_ne_str rfl) (fun hc => or_nil))))) (by rw [Bool.or_false]; exact h) (sx_ret ex_bool)).to ?_
    unfold seenS; rw [if_pos h]
  apply sx_if_skip
  · exact (tst_bool (or_cons (tst_cmp1 (ex_call (xg_isabs rfl) (es_cons (ex_loc (by walk_at "var")) es_nil) (Fn.inX (by walk_at "fn isabs") (by omega)) rfl) (ex_cmp1 (ex_slice_str (ex_loc (by walk_at "var")) pt_none (pt_some ex_int) (by walk_at "side")) (ex_str (l := [47]) rfl) cmp_eq_str rfl) cmp_isnot_bool rfl) (fun hc => (or_cons (tst_cmp1 (ex_call (xg__law_write rfl) (es_cons (ex_loc (by walk_at "var")) (es_cons (ex_loc (by walk_at "var")) es_nil)) (Fn.inX (by walk_at "fn _law_write") (by omega)) rfl) (ex_loc (by walk_at "var")) cmp_ne_str rfl) (fun hc => or_nil)))))
  · rw [Bool.or_false]; exact (Bool.not_eq_true _).mp h
  refine (sx_ret (ex_cmp1 (ex_tuple (es_cons (ex_call (xg_dirname rfl) (es_cons (ex_loc (by walk_at "var")) es_nil) (Fn.inX (by walk_at "fn dirname") (by omega)) rfl) (es_cons (ex_call (xg_basename rfl) (es_cons (ex_loc (by walk_at "var")) es_nil) (Fn.inX (by walk_at "fn basename") (by omega)) rfl) es_nil)) (by walk_at "few")) (ex_tuple (es_cons (ex_call (xg__law_spelled rfl) (es_cons (ex_loc (by walk_at "var")) (es_cons (ex_loc (by walk_at "var")) es_nil)) (Fn.inX (by walk_at "fn _law_spelled") (by omega)) rfl) (es_cons (ex_call (xg__law_spelled rfl) (es_cons (ex_loc (by walk_at "var")) (es_cons (ex_loc (by walk_at "var")) es_nil)) (Fn.inX (by walk_at "fn _law_spelled") (by omega)) rfl) es_nil)) (by walk_at "few")) (cmp_eq_tup (L := [trimS (headS t), tailS t]) (K := [writeH hs (lparted p).1, writeH hs (lparted p).2]) (by have := X.hu; omega) rfl) rfl)).to ?_
  unfold seenS; rw [if_neg h]
end
end Mine
end
section
open PySem PySem.W PyProof.Rows PySem.Calls
set_option Elab.async false
set_option linter.unusedVariables false
set_option maxRecDepth 100000
namespace Mine
theorem bindsV {B : Base} {fd : FuncData} {p q : Str} {a b : AV} (h : ∀ v u, bindArgs fd ⟨[v, u], []⟩ = (do let t ← newTuple [u]; pure [(p, v), (q, t)])) : BindsBy B fd [p, q] [a, b] [a, .tup [b]] := fun A G s vs Q E T hG rv kk => by
  cases rv with
  | cons r1 r2 =>
    cases r2 with
    | cons r2 r3 =>
      cases r3
      rename_i v1 v2
      rw [h]
      refine wpAny_bind (wpAny_newTuple (wpAny_pure ?_))
      have u := (Up.refl hG).push { cls := .type "tuple", data := .seq #[v2] } rfl
      exact kk [v1, .ref s.heap.objs.size] _ _ u.toUp0 (.cons (VRel.le u.le r1) (.cons (.tup (vs := [v2]) (View.add_self _ _ _) (.cons (VRel.le u.le r2) .nil)) .nil)) rfl
noncomputable def joinS (x y : List Nat) : List Nat := if (y.head? == some 47 || x.isEmpty) = true then y else if (x.getLast? == some 47) = true then x ++ y else x ++ ([47] ++ y)
section
variable {w : World} {mg mb : Str → Option Value}
theorem c_join (x y : List Nat) (hx : x.length ≤ 1000000) (hy : y.length ≤ 1000000) : Fn (bs w mg mb) (.ref 143) 2 [.str x, .str y] (.str (joinS x y)) := by
  refine fn_go (N := [Str.ofString "a", Str.ofString "p", Str.ofString "sep", Str.ofString "path", Str.ofString "b"]) (σ := [.val (.str x), .val (.tup [.str y]), .no, .no, .no]) (ps := [Str.ofString "a", Str.ofString "p"]) (rest := [Str.ofString "sep", Str.ofString "path", Str.ofString "b"]) ⟨_, _, _, rfl⟩ rfl rfl (bindsV (a := .str x) (b := .str y) fun v u => rfl) rfl (by decide +kernel) rfl rfl ?_
  intro X ho hl
  have hS := sizeL
  refine sx_cons s1_doc ?_
  apply sx_set
  · exact (ex_call (xg_fspath rfl) (es_cons (ex_loc (by walk_at "var")) es_nil) (Fn.inX (by walk_at "fn fspath") (by omega)) rfl)
  · walk_at "set"
  · exact ho
  · rfl
  apply sx_set
  · exact (ex_call (xg__get_sep rfl) (es_cons (ex_loc (by walk_at "var")) es_nil) (Fn.inX (by walk_at "fn _get_sep") (by omega)) rfl)
  · walk_at "set"
  · exact ho
  · rfl
  apply sx_set
  · exact (ex_loc (by walk_at "var"))
  · walk_at "set"
  · exact ho
  · rfl
  by_cases h1 : (y.head? == some 47 || x.isEmpty) = true
  ·
    apply sx_cons
    · apply s1_try
      apply sx_cons
      · apply s1_forT
        · exact ex_loc (by walk_at "var")
        · apply Loop.next
          · walk_at "set"
          · apply sx_set
            · exact (ex_call (xg_fspath rfl) (es_cons (ex_loc (by walk_at "var")) es_nil) (Fn.inX (by walk_at "fn fspath") (by omega)) rfl)
            · walk_at "set"
            · exact ho
            · rfl
            apply sx_if_t
            · exact (tst_bool (or_cons (tst_val (ex_meth1 (ex_loc (by walk_at "var")) (ex_loc (by walk_at "var")) m_startswith rfl rfl rfl) rfl (by walk_at "small")) (fun hc => (or_cons (tst_not (tst_val (ex_loc (by walk_at "var")) rfl (by walk_at "small"))) (fun hc => or_nil)))))
            · simpa using h1
            · apply sx_set
              · exact (ex_loc (by walk_at "var"))
              · walk_at "set"
              · exact ho
              · rfl
              exact sx_nil
            · exact sx_nil
          · exact .inl rfl
          · exact .nil
        · exact .inr ho
        · rfl
      · exact sx_nil
    · refine (sx_ret (ex_loc (by walk_at "var"))).to ?_
      unfold joinS; rw [if_pos h1]
  by_cases h2 : (x.getLast? == some 47) = true
  ·
    apply sx_cons
    · apply s1_try
      apply sx_cons
      · apply s1_forT
        · exact ex_loc (by walk_at "var")
        · apply Loop.next
          · walk_at "set"
          · apply sx_set
            · exact (ex_call (xg_fspath rfl) (es_cons (ex_loc (by walk_at "var")) es_nil) (Fn.inX (by walk_at "fn fspath") (by omega)) rfl)
            · walk_at "set"
            · exact ho
            · rfl
            apply sx_if_f
            · exact (tst_bool (or_cons (tst_val (ex_meth1 (ex_loc (by walk_at "var")) (ex_loc (by walk_at "var")) m_startswith rfl rfl rfl) rfl (by walk_at "small")) (fun hc => (or_cons (tst_not (tst_val (ex_loc (by walk_at "var")) rfl (by walk_at "small"))) (fun hc => or_nil)))))
            · simpa using h1
            · apply sx_if_t
              · exact (tst_val (ex_meth1 (ex_loc (by walk_at "var")) (ex_loc (by walk_at "var")) m_endswith rfl rfl rfl) rfl (by walk_at "small"))
              · exact h2
              · apply sx_cons
                · apply s1_aug
                  · walk_at "var"
                  · exact (ex_loc (by walk_at "var"))
                  · exact iop_str (by omega)
                  · walk_at "set"
                  · exact .inr ho
                · exact sx_nil
              · exact sx_nil
            · exact sx_nil
          · exact .inl rfl
          · exact .nil
        · exact .inr ho
        · rfl
      · exact sx_nil
    · refine (sx_ret (ex_loc (by walk_at "var"))).to ?_
      unfold joinS; rw [if_neg h1, if_pos h2]
  ·
    apply sx_cons
    · apply s1_try
      apply sx_cons
      · apply s1_forT
        · exact ex_loc (by walk_at "var")
        · apply Loop.next
          · walk_at "set"
          · apply sx_set
            · exact (ex_call (xg_fspath rfl) (es_cons (ex_loc (by walk_at "var")) es_nil) (Fn.inX (by walk_at "fn fspath") (by omega)) rfl)
            · walk_at "set"
            · exact ho
            · rfl
            apply sx_if_f
            · exact (tst_bool (or_cons (tst_val (ex_meth1 (ex_loc (by walk_at "var")) (ex_loc (by walk_at "var")) m_startswith rfl rfl rfl) rfl (by walk_at "small")) (fun hc => (or_cons (tst_not (tst_val (ex_loc (by walk_at "var")) rfl (by walk_at "small"))) (fun hc => or_nil)))))
            · simpa using h1
            · apply sx_if_f
              · exact (tst_val (ex_meth1 (ex_loc (by walk_at "var")) (ex_loc (by walk_at "var")) m_endswith rfl rfl rfl) rfl (by walk_at "small"))
              · simpa using h2
              · apply sx_cons
                · apply s1_aug
                  · walk_at "var"
                  · exact (ex_bin (ex_loc (by walk_at "var")) (ex_loc (by walk_at "var")) (bop_add_str (by walk_at "side")))
                  · exact iop_str (by simp only [List.length_append, List.length_cons, List.length_nil]; omega)
                  · walk_at "set"
                  · exact .inr ho
                · exact sx_nil
              · exact sx_nil
            · exact sx_nil
          · exact .inl rfl
          · exact .nil
        · exact .inr ho
        · rfl
      · exact sx_nil
    · refine (sx_ret (ex_loc (by walk_at "var"))).to ?_
      unfold joinS; rw [if_neg h1, if_neg h2]
end
end Mine
end
section
open PySem PySem.W PyProof.Rows PySem.Calls
set_option Elab.async false
set_option linter.unusedVariables false
set_option maxRecDepth 100000
namespace Mine
section
variable {B : Base} {sc : Scope} {N : List Str} {X : FI B sc N}
theorem loopE_pre {i c : Str} {body : List Stmt} {xs : List AV} {k0 : Nat} {o1 o : Out} (σf : Bnd → Bnd → List Bnd) (h0 : k0 ≤ xs.length) (hset : ∀ b1 b2 k a, Sets N (σf b1 b2) [i, c] [.int k, a] (σf (.val (.int k)) (.val a)))
    (heq : ∀ (k : Nat) a, k < k0 → xs[k]? = some a → Sx X (σf (.val (.int k)) (.val a)) body (.next (σf (.val (.int k)) (.val a)))) (hne : ∀ a, xs[k0]? = some a → Sx X (σf (.val (.int k0)) (.val a)) body o1)
    (ho : (∃ r, o1 = .ret r ∧ o = .ret r) ∨ (∃ τ, o1 = .brk τ ∧ o = .next τ)) :
    ∀ (n k : Nat) (b1 b2 : Bnd), k0 - k = n → k ≤ k0 → (k0 < xs.length → LoopE X i c body k (xs.drop k) (σf b1 b2) o) ∧ (k0 = xs.length → ∃ b1' b2', LoopE X i c body k (xs.drop k) (σf b1 b2) (.next (σf b1' b2'))) := by
  intro n
  induction n with
  | zero =>
    intro k b1 b2 hn hk
    obtain rfl : k = k0 := by omega
    refine ⟨fun hlt => ?_, fun e => ?_⟩
    · rw [List.drop_eq_getElem_cons hlt]
      have h1 := hne xs[k] (by simp [hlt])
      rcases ho with ⟨r, rfl, rfl⟩ | ⟨τ, rfl, rfl⟩
      · exact .ret (hset _ _ _ _) h1
      · exact .brk (hset _ _ _ _) h1
    · rw [e, List.drop_length]; exact ⟨b1, b2, .nil⟩
  | succ n ih =>
    intro k b1 b2 hn hk
    have hlt : k < xs.length := by omega
    rw [List.drop_eq_getElem_cons hlt]
    have h1 := heq k xs[k] (by omega) (by simp [hlt])
    obtain ⟨ih1, ih2⟩ := ih (k + 1) (.val (.int k)) (.val xs[k]) (by omega) (by omega)
    refine ⟨fun q => .next (hset _ _ _ _) h1 (.inl rfl) (ih1 q), fun q => ?_⟩
    obtain ⟨b1', b2', h⟩ := ih2 q
    exact ⟨b1', b2', .next (hset _ _ _ _) h1 (.inl rfl) h⟩
end
/-! the longest common beginning of two rows -/
noncomputable def lcp {α : Type} [DecidableEq α] : List α → List α → List α
  | a :: x, b :: y => if a = b then a :: lcp x y else []
  | _, _ => []
section
variable {α : Type} [DecidableEq α]
theorem lcp_take : ∀ (x y : List α), x.take (lcp x y).length = lcp x y
  | [], y => by simp [lcp]
  | a :: x, [] => by simp [lcp]
  | a :: x, b :: y => by
    unfold lcp
    split
    · rw [List.length_cons, List.take_succ_cons, lcp_take x y]
    · rfl
theorem lcp_len : ∀ (x y : List α), (lcp x y).length ≤ x.length
  | [], y => by simp [lcp]
  | a :: x, [] => by simp [lcp]
  | a :: x, b :: y => by
    unfold lcp
    split
    · have := lcp_len x y; simp only [List.length_cons]; omega
    · exact Nat.zero_le _
theorem lcp_eq : ∀ (x y : List α) (k : Nat), k < (lcp x y).length → x[k]? = y[k]?
  | [], y, k, h => by simp [lcp] at h
  | a :: x, [], k, h => by simp [lcp] at h
  | a :: x, b :: y, k, h => by
    unfold lcp at h
    split at h
    · rename_i e
      subst e
      cases k with
      | zero => rfl
      | succ k => simpa using lcp_eq x y k (by simpa using h)
    · simp at h
theorem lcp_ne [LT α] : ∀ (x y : List α), ¬ y < x → (lcp x y).length < x.length → ∃ d, y[(lcp x y).length]? = some d ∧ x[(lcp x y).length]? ≠ some d
  | [], y, h, hl => by simp at hl
  | a :: x, [], h, hl => absurd (List.nil_lt_cons a x) h
  | a :: x, b :: y, h, hl => by
    unfold lcp at hl ⊢
    split
    · rename_i e
      subst e
      rw [if_pos rfl] at hl
      have h' : ¬ y < x := fun q => h (List.cons_lt_cons_iff.mpr (.inr ⟨rfl, q⟩))
      obtain ⟨d, h1, h2⟩ := lcp_ne x y h' (by simpa using hl)
      exact ⟨d, by simpa using h1, by simpa using h2⟩
    · rename_i e
      exact ⟨b, by simp, by simpa using e⟩
end
end Mine
end
section
open PySem PySem.W PyProof.Rows PySem.Calls
set_option Elab.async false
set_option linter.unusedVariables false
set_option maxRecDepth 100000
namespace Mine
theorem bestOf_min {α : Type} {lt : α → α → Bool} (htr : ∀ a b c, lt a b = true → lt b c = true → lt a c = true) (hir : ∀ a, lt a a = false) : ∀ (xs : List α) (b : α), (∀ r, r = b ∨ r ∈ xs → lt r (bestOf lt b xs) = false) ∧ (∀ r, lt r b = false → lt r (bestOf lt b xs) = false)
  | [], b => by
    refine ⟨fun r h => ?_, fun r h => h⟩
    rcases h with rfl | h
    · exact hir r
    · cases h
  | x :: xs, b => by
    unfold bestOf
    by_cases c : lt x b = true
    · rw [if_pos c]
      obtain ⟨h1, h2⟩ := bestOf_min htr hir xs x
      have h3 : ∀ r, lt r b = false → lt r (bestOf lt x xs) = false := fun r hr => h2 r (by
        cases q : lt r x with
        | false => rfl
        | true => rw [htr r x b q c] at hr; cases hr)
      refine ⟨fun r h => ?_, h3⟩
      rcases h with rfl | h
      · exact h3 r (hir r)
      · rcases List.mem_cons.mp h with rfl | h
        · exact h1 r (.inl rfl)
        · exact h1 r (.inr h)
    · rw [if_neg c]
      obtain ⟨h1, h2⟩ := bestOf_min htr hir xs b
      refine ⟨fun r h => ?_, h2⟩
      rcases h with rfl | h
      · exact h1 r (.inl rfl)
      · rcases List.mem_cons.mp h with rfl | h
        · exact h2 r (by simpa using c)
        · exact h1 r (.inr h)
theorem lt_tr1 (a b c : List Nat) (h : decide (a < b) = true) (h' : decide (b < c) = true) : decide (a < c) = true := by
  rw [decide_eq_true_eq] at *
  exact List.lt_trans h h'
theorem lt_ir1 (a : List Nat) : decide (a < a) = false := by
  rw [decide_eq_false_iff_not]; exact List.lt_irrefl a
theorem lt_tr2 (a b c : List (List Nat)) (h : decide (a < b) = true) (h' : decide (b < c) = true) : decide (a < c) = true := by
  rw [decide_eq_true_eq] at *
  exact List.lt_trans h h'
theorem lt_ir2 (a : List (List Nat)) : decide (a < a) = false := by
  rw [decide_eq_false_iff_not]; exact List.lt_irrefl a
/-- the least and the greatest row -/
noncomputable def minR (a : List Nat) (rs : List (List Nat)) : List Nat := bestOf (fun a b => decide (a < b)) a rs
noncomputable def maxR (a : List Nat) (rs : List (List Nat)) : List Nat := bestOf (fun a b => decide (b < a)) a rs
noncomputable def minL (a : List (List Nat)) (rs : List (List (List Nat))) : List (List Nat) := bestOf (fun a b => decide (a < b)) a rs
noncomputable def maxL (a : List (List Nat)) (rs : List (List (List Nat))) : List (List Nat) := bestOf (fun a b => decide (b < a)) a rs
theorem minmaxR (a : List Nat) (rs : List (List Nat)) : ¬ maxR a rs < minR a rs := by
  have h := (bestOf_min lt_tr1 lt_ir1 rs a).1 (maxR a rs) (bestOf_mem (lt := fun a b => decide (b < a)))
  exact of_decide_eq_false h
theorem minmaxL (a : List (List Nat)) (rs : List (List (List Nat))) : ¬ maxL a rs < minL a rs := by
  have h := (bestOf_min lt_tr2 lt_ir2 rs a).1 (maxL a rs) (bestOf_mem (lt := fun a b => decide (b < a)))
  exact of_decide_eq_false h
end Mine
end
section
open PySem PySem.W PyProof.Rows PySem.Calls
set_option Elab.async false
set_option linter.unusedVariables false
set_option maxRecDepth 100000
namespace Mine
section
variable {B : Base} {sc : Scope} {N : List Str} {X : FI B sc N} {σ : List Bnd}
theorem sx_forE_str_end {en : Str} {px py p p1 pos fpos : Pos} {x y : Str} {kk : Nat} {e1 : Expr} {body r : List Stmt} {xs : List Nat} {o : Out} (σf : Bnd → Bnd → List Bnd) {b1 b2 : Bnd} (hf : Ex X (σf b1 b2) (.Name en p1) (.raw (.type "enumerate"))) (h1 : Ex X (σf b1 b2) e1 (.str xs)) (ho : X.own = true)
    (hset : ∀ b1 b2 k a, Sets N (σf b1 b2) [x, y] [.int k, a] (σf (.val (.int k)) (.val a))) (heq : ∀ (k : Nat) a, k < xs.length → (xs.map fun c => AV.str [c])[k]? = some a → Sx X (σf (.val (.int k)) (.val a)) body (.next (σf (.val (.int k)) (.val a))))
    (hr : ∀ b1 b2, Sx X (σf b1 b2) r o) (hst : notStar e1 = true := by rfl) : Sx X (σf b1 b2) (.For (.Tuple [.Name x px, .Name y py] kk p) (.Call (.Name en p1) [e1] [] pos) body [] fpos :: r) o := by
  obtain ⟨b1', b2', hL⟩ := (loopE_pre (X := X) (i := x) (c := y) (body := body) (o1 := .ret .none) (o := .ret .none) (k0 := xs.length) (xs := xs.map fun c => AV.str [c]) σf (by rw [List.length_map]; exact Nat.le_refl _) hset heq (fun a ha => by
    rw [List.getElem?_eq_none (by rw [List.length_map]; exact Nat.le_refl _)] at ha; cases ha) (.inl ⟨_, rfl, rfl⟩) xs.length 0 b1 b2 rfl (Nat.zero_le _)).2 (by rw [List.length_map])
  exact sx_cons (s1_forE_str hf h1 hL ho hst) (hr b1' b2')
theorem sx_forE_list_end {en : Str} {px py p p1 pos fpos : Pos} {x y : Str} {kk : Nat} {e1 : Expr} {body r : List Stmt} {xs : List AV} {o : Out} (σf : Bnd → Bnd → List Bnd) {b1 b2 : Bnd} (hf : Ex X (σf b1 b2) (.Name en p1) (.raw (.type "enumerate"))) (h1 : Ex X (σf b1 b2) e1 (.list xs)) (ho : X.own = true)
    (hset : ∀ b1 b2 k a, Sets N (σf b1 b2) [x, y] [.int k, a] (σf (.val (.int k)) (.val a))) (heq : ∀ (k : Nat) a, k < xs.length → xs[k]? = some a → Sx X (σf (.val (.int k)) (.val a)) body (.next (σf (.val (.int k)) (.val a))))
    (hr : ∀ b1 b2, Sx X (σf b1 b2) r o) (hst : notStar e1 = true := by rfl) : Sx X (σf b1 b2) (.For (.Tuple [.Name x px, .Name y py] kk p) (.Call (.Name en p1) [e1] [] pos) body [] fpos :: r) o := by
  obtain ⟨b1', b2', hL⟩ := (loopE_pre (X := X) (i := x) (c := y) (body := body) (o1 := .ret .none) (o := .ret .none) (k0 := xs.length) (xs := xs) σf (Nat.le_refl _) hset heq (fun a ha => by
    rw [List.getElem?_eq_none (Nat.le_refl _)] at ha; cases ha) (.inl ⟨_, rfl, rfl⟩) xs.length 0 b1 b2 rfl (Nat.zero_le _)).2 rfl
  exact sx_cons (s1_forE_list hf h1 hL ho hst) (hr b1' b2')
end
section
variable {w : World} {mg mb : Str → Option Value}
theorem c_commonprefix (a b c : List Nat) (ha : a.length ≤ 1000000) (hb : b.length ≤ 1000000) (hc : c.length ≤ 1000000) : Fn (bs w mg mb) (.ref 108) 5 [.strs [a, b, c]] (.str (lcp (minR a [b, c]) (maxR a [b, c]))) := by
  refine fn_go (N := [Str.ofString "m", Str.ofString "s1", Str.ofString "s2", Str.ofString "i", Str.ofString "c"]) (σ := [.val (.strs [a, b, c]), .no, .no, .no, .no]) (ps := [Str.ofString "m"]) (rest := [Str.ofString "s1", Str.ofString "s2", Str.ofString "i", Str.ofString "c"]) ⟨_, _, _, rfl⟩ rfl rfl (binds1 (a := .strs [a, b, c]) fun _ => rfl) rfl (by decide +kernel) rfl rfl ?_
  intro X ho hl
  have hS := sizeL
  have hall : ∀ r, r = a ∨ r ∈ [b, c] → r.length ≤ 1000000 := fun r hr => by
    simp only [List.mem_cons, List.not_mem_nil, or_false] at hr
    rcases hr with rfl | rfl | rfl <;> assumption
  have h1 : (minR a [b, c]).length ≤ 1000000 := hall _ bestOf_mem
  have h2 : (maxR a [b, c]).length ≤ 1000000 := hall _ bestOf_mem
  have hmm := minmaxR a [b, c]
  refine sx_cons s1_doc ?_
  refine sx_if_skip (tst_not (tst_val (ex_loc .here) rfl (Nat.le_of_ble_eq_true rfl))) rfl ?_
  refine sx_if_t (tst_not (tst_val (ex_call (xb_isinstance rfl) (es_cons (ex_sub (ex_loc .here) ex_int (itm_list (i := 0) rfl (Nat.le_of_ble_eq_true rfl))) (es_cons (ex_tuple (es_cons (xb_list rfl) (es_cons (xb_tuple rfl) es_nil)) (Nat.le_of_ble_eq_true rfl)) es_nil)) fn_isi_str rfl) rfl trivial)) rfl
    (sx_cons (s1_assign (ex_tuplemap (xb_tuple rfl) (xb_map rfl) (xg_fspath rfl) (ex_loc .here) (rs := [.str a, .str b, .str c]) (fun i p q hp hq => by
      have e : p = q := by
        have : some p = some q := hp.symm.trans hq
        exact Option.some.inj this
      subst e
      have hm : p ∈ ([.str a, .str b, .str c] : List AV) := List.mem_of_getElem? hp
      simp only [List.mem_cons, List.not_mem_nil, or_false] at hm
      rcases hm with rfl | rfl | rfl <;> exact c_fspath _) rfl (Nat.le_of_ble_eq_true rfl) (by omega)) .here (.inr ho)) sx_nil) ?_
  apply sx_set
  · exact ex_call (xb_min rfl) (es_cons (ex_loc .here) es_nil) (fn_min_tup (x := a) (xs := [b, c])) rfl
  · walk_at "set"
  · exact ho
  · rfl
  apply sx_set
  · exact ex_call (xb_max rfl) (es_cons (ex_loc .here) es_nil) (fn_max_tup (x := a) (xs := [b, c])) rfl
  · walk_at "set"
  · exact ho
  · rfl
  change Sx X [_, .val (.str (minR a [b, c])), .val (.str (maxR a [b, c])), _, _] _ _
  generalize minR a [b, c] = s1 at h1 hmm ⊢
  generalize maxR a [b, c] = s2 at h2 hmm ⊢
  have hk0 := lcp_len s1 s2
  have hel : ∀ (k : Nat) (p : AV), (s1.map fun c => AV.str [c])[k]? = some p → ∃ d, s1[k]? = some d ∧ p = .str [d] := fun k p hp => by
    rw [List.getElem?_map] at hp
    obtain ⟨d, hd, rfl⟩ := Option.map_eq_some_iff.mp hp
    exact ⟨d, hd, rfl⟩
  by_cases hlt : (lcp s1 s2).length < s1.length
  · refine (sx_one (s1_forE_str (o := .ret (.str (lcp s1 s2))) (xb_enumerate rfl) (ex_loc (by walk_at "var")) ((loopE_pre (o1 := .ret (.str (lcp s1 s2))) (o := .ret (.str (lcp s1 s2))) (k0 := (lcp s1 s2).length) (xs := s1.map fun c => AV.str [c]) (fun b1 b2 => [.val (.tup [.str a, .str b, .str c]), .val (.str s1), .val (.str s2), b1, b2]) (by rw [List.length_map]; exact hk0) (fun b1 b2 k p => ?_) (fun k p hk hp => ?_) (fun p hp => ?_) (.inl ⟨_, rfl, rfl⟩) (lcp s1 s2).length 0 .no .no rfl (Nat.zero_le _)).1 (by rw [List.length_map]; exact hlt)) ho) (fun _ e => by cases e))
    · exact .cons (.there (.there (.there .here))) (.cons (.there (.there (.there (.there .here)))) .nil)
    · obtain ⟨d, hd, rfl⟩ := hel k p hp
      have hd2 : s2[k]? = some d := (lcp_eq s1 s2 k hk).symm.trans hd
      exact sx_if_skip (tst_cmp1 (ex_loc (by walk_at "var")) (ex_sub (ex_loc (by walk_at "var")) (ex_loc (by walk_at "var")) (itm_str hd2 (by omega))) cmp_ne_str rfl) (by simp) sx_nil
    · obtain ⟨d, hd, rfl⟩ := hel _ p hp
      obtain ⟨d2, hd2, hne⟩ := lcp_ne s1 s2 hmm hlt
      have hdd : d ≠ d2 := fun e => hne (by rw [hd, e])
      refine (sx_if_tr (tst_cmp1 (ex_loc (by walk_at "var")) (ex_sub (ex_loc (by walk_at "var")) (ex_loc (by walk_at "var")) (itm_str hd2 (by omega))) cmp_ne_str rfl) (by simpa using hdd) (sx_ret (ex_slice_str (ex_loc (by walk_at "var")) pt_none (pt_some (ex_loc (by walk_at "var"))) (by omega)))).to ?_
      rw [slc_to, lcp_take]
  · have hke : (lcp s1 s2).length = s1.length := by omega
    have hle : lcp s1 s2 = s1 := by
      have := lcp_take s1 s2
      rw [hke, List.take_length] at this
      exact this.symm
    refine sx_forE_str_end (xs := s1) (fun b1 b2 => [.val (.tup [.str a, .str b, .str c]), .val (.str s1), .val (.str s2), b1, b2]) (b1 := .no) (b2 := .no) (xb_enumerate rfl) (ex_loc (by walk_at "var")) ho (fun b1 b2 k p => ?_) (fun k p hk hp => ?_) (fun b1 b2 => ?_)
    · exact .cons (.there (.there (.there .here))) (.cons (.there (.there (.there (.there .here)))) .nil)
    · obtain ⟨d, hd, rfl⟩ := hel k p hp
      have hd2 : s2[k]? = some d := (lcp_eq s1 s2 k (by omega)).symm.trans hd
      exact sx_if_skip (tst_cmp1 (ex_loc (by walk_at "var")) (ex_sub (ex_loc (by walk_at "var")) (ex_loc (by walk_at "var")) (itm_str hd2 (by omega))) cmp_ne_str rfl) (by simp) sx_nil
    · refine (sx_ret (ex_loc (a := .str s1) (by walk_at "var"))).to ?_
      rw [hle]
end
end Mine
end
section
open PySem PySem.W PyProof.Rows PySem.Calls
set_option Elab.async false
set_option linter.unusedVariables false
set_option maxRecDepth 100000
namespace Mine
section
variable {w : World} {mg mb : Str → Option Value}
theorem c_commonprefixL (a b : List (List Nat)) (ha : a.length ≤ 1000000) (hb : b.length ≤ 1000000) : Fn (bs w mg mb) (.ref 108) 5 [.list ([a, b].map AV.strs)] (.strs (lcp (minL a [b]) (maxL a [b]))) := by
  refine fn_go (N := [Str.ofString "m", Str.ofString "s1", Str.ofString "s2", Str.ofString "i", Str.ofString "c"]) (σ := [.val (.list ([a, b].map AV.strs)), .no, .no, .no, .no]) (ps := [Str.ofString "m"]) (rest := [Str.ofString "s1", Str.ofString "s2", Str.ofString "i", Str.ofString "c"]) ⟨_, _, _, rfl⟩ rfl rfl (binds1 (a := .list ([a, b].map AV.strs)) fun _ => rfl) rfl (by decide +kernel) rfl rfl ?_
  intro X ho hl
  have hS := sizeL
  have hall : ∀ r, r = a ∨ r ∈ [b] → r.length ≤ 1000000 := fun r hr => by
    simp only [List.mem_cons, List.not_mem_nil, or_false] at hr
    rcases hr with rfl | rfl <;> assumption
  have h1 : (minL a [b]).length ≤ 1000000 := hall _ bestOf_mem
  have h2 : (maxL a [b]).length ≤ 1000000 := hall _ bestOf_mem
  have hmm := minmaxL a [b]
  refine sx_cons s1_doc ?_
  refine sx_if_skip (tst_not (tst_val (ex_loc .here) rfl (Nat.le_of_ble_eq_true rfl))) rfl ?_
  refine sx_if_skip (tst_not (tst_val (ex_call (xb_isinstance rfl) (es_cons (ex_sub (ex_loc .here) ex_int (itm_list (i := 0) (r := .list (a.map AV.str)) rfl (Nat.le_of_ble_eq_true rfl))) (es_cons (ex_tuple (es_cons (xb_list rfl) (es_cons (xb_tuple rfl) es_nil)) (Nat.le_of_ble_eq_true rfl)) es_nil)) fn_isi_list rfl) rfl trivial)) rfl ?_
  apply sx_set
  · exact ex_call (xb_min rfl) (es_cons (ex_loc .here) es_nil) (fn_min_lists (x := a) (xs := [b])) rfl
  · walk_at "set"
  · exact ho
  · rfl
  apply sx_set
  · exact ex_call (xb_max rfl) (es_cons (ex_loc .here) es_nil) (fn_max_lists (x := a) (xs := [b])) rfl
  · walk_at "set"
  · exact ho
  · rfl
  change Sx X [_, .val (.strs (minL a [b])), .val (.strs (maxL a [b])), _, _] _ _
  generalize minL a [b] = s1 at h1 hmm ⊢
  generalize maxL a [b] = s2 at h2 hmm ⊢
  have hk0 := lcp_len s1 s2
  have hel : ∀ (k : Nat) (p : AV), (s1.map AV.str)[k]? = some p → ∃ d, s1[k]? = some d ∧ p = .str d := fun k p hp => by
    rw [List.getElem?_map] at hp
    obtain ⟨d, hd, rfl⟩ := Option.map_eq_some_iff.mp hp
    exact ⟨d, hd, rfl⟩
  by_cases hlt : (lcp s1 s2).length < s1.length
  · refine (sx_one (s1_forE_list (o := .ret (.strs (lcp s1 s2))) (xb_enumerate rfl) (ex_loc (a := .strs s1) (by walk_at "var")) ((loopE_pre (o1 := .ret (.strs (lcp s1 s2))) (o := .ret (.strs (lcp s1 s2))) (k0 := (lcp s1 s2).length) (xs := s1.map AV.str) (fun b1 b2 => [.val (.list ([a, b].map AV.strs)), .val (.strs s1), .val (.strs s2), b1, b2]) (by rw [List.length_map]; exact hk0) (fun b1 b2 k p => ?_) (fun k p hk hp => ?_) (fun p hp => ?_) (.inl ⟨_, rfl, rfl⟩) (lcp s1 s2).length 0 .no .no rfl (Nat.zero_le _)).1 (by rw [List.length_map]; exact hlt)) ho) (fun _ e => by cases e))
    · exact .cons (.there (.there (.there .here))) (.cons (.there (.there (.there (.there .here)))) .nil)
    · obtain ⟨d, hd, rfl⟩ := hel k p hp
      have hd2 : s2[k]? = some d := (lcp_eq s1 s2 k hk).symm.trans hd
      exact sx_if_skip (tst_cmp1 (ex_loc (by walk_at "var")) (ex_sub (ex_loc (by walk_at "var")) (ex_loc (by walk_at "var")) (itm_list (show (s2.map AV.str)[_]? = some _ by rw [List.getElem?_map, hd2]; rfl) (by rw [List.length_map]; omega))) cmp_ne_str rfl) (by simp) sx_nil
    · obtain ⟨d, hd, rfl⟩ := hel _ p hp
      obtain ⟨d2, hd2, hne⟩ := lcp_ne s1 s2 hmm hlt
      have hdd : d ≠ d2 := fun e => hne (by rw [hd, e])
      refine (sx_if_tr (tst_cmp1 (ex_loc (by walk_at "var")) (ex_sub (ex_loc (by walk_at "var")) (ex_loc (by walk_at "var")) (itm_list (show (s2.map AV.str)[_]? = some _ by rw [List.getElem?_map, hd2]; rfl) (by rw [List.length_map]; omega))) cmp_ne_str rfl) (by simpa using hdd) (sx_ret (ex_slice_strs (ex_loc (by walk_at "var")) pt_none (pt_some (ex_loc (by walk_at "var"))) (by omega)))).to ?_
      rw [slc_to, lcp_take]
  · have hke : (lcp s1 s2).length = s1.length := by omega
    have hle : lcp s1 s2 = s1 := by
      have := lcp_take s1 s2
      rw [hke, List.take_length] at this
      exact this.symm
    refine sx_forE_list_end (xs := s1.map AV.str) (fun b1 b2 => [.val (.list ([a, b].map AV.strs)), .val (.strs s1), .val (.strs s2), b1, b2]) (b1 := .no) (b2 := .no) (xb_enumerate rfl) (ex_loc (a := .strs s1) (by walk_at "var")) ho (fun b1 b2 k p => ?_) (fun k p hk hp => ?_) (fun b1 b2 => ?_)
    · exact .cons (.there (.there (.there .here))) (.cons (.there (.there (.there (.there .here)))) .nil)
    · obtain ⟨d, hd, rfl⟩ := hel k p hp
      have hd2 : s2[k]? = some d := (lcp_eq s1 s2 k (by rw [List.length_map] at hk; omega)).symm.trans hd
      exact sx_if_skip (tst_cmp1 (ex_loc (by walk_at "var")) (ex_sub (ex_loc (by walk_at "var")) (ex_loc (by walk_at "var")) (itm_list (show (s2.map AV.str)[_]? = some _ by rw [List.getElem?_map, hd2]; rfl) (by rw [List.length_map]; omega))) cmp_ne_str rfl) (by simp) sx_nil
    · refine (sx_ret (ex_loc (a := .strs s1) (by walk_at "var"))).to ?_
      rw [hle]
end
end Mine
end
section
open PySem PySem.W PyProof.Rows PySem.Calls
set_option Elab.async false
set_option linter.unusedVariables false
set_option maxRecDepth 100000
namespace Mine
noncomputable def tailN (x : List Nat) : List Nat := (normS x).dropWhile (· == 47)
noncomputable def tailL (x : List Nat) : List (List Nat) := if (!(tailN x).isEmpty) = true then splitc 47 (tailN x) else []
noncomputable def comN (x y : List Nat) : Nat := (lcp (minL (tailL y) [tailL x]) (maxL (tailL y) [tailL x])).length
noncomputable def relL (x y : List Nat) : List (List Nat) := List.replicate ((tailL y).length - comN x y) [46, 46] ++ slc (some (comN x y : Int)) none (tailL x)
noncomputable def relS (x y : List Nat) : List Nat := if (relL x y).isEmpty = true then [46] else joinc [47] (relL x y)
theorem fold_norm_wt (r : List Nat) : ∀ (L acc : List (List Nat)), wt (L.foldl (normStep r) acc) ≤ wt acc + wt L
  | [], _ => Nat.le_refl _
  | c :: L, acc => by
    have h1 := normStep_wt r acc c
    have h2 := fold_norm_wt r L (normStep r acc c)
    rw [List.foldl_cons, wt_cons]; omega
theorem normS_len (x : List Nat) : (normS x).length ≤ x.length + 3 := by
  unfold normS
  split
  · simp
  · have h1 := fold_norm_wt (rootR x) (splitc 47 (rootT x)) []
    have h2 := joinc_len ((splitc 47 (rootT x)).foldl (normStep (rootR x)) [])
    have h3 := wt_splitc 47 (rootT x)
    have h4 := rootT_len x
    have h5 := rootR_len x
    have e : wt ([] : List (List Nat)) = 0 := rfl
    unfold orT
    split
    · simp
    · rw [List.length_append]; omega
theorem tailL_wt (x : List Nat) : wt (tailL x) ≤ x.length + 4 := by
  have h1 := normS_len x
  have h2 : (tailN x).length ≤ (normS x).length := (List.dropWhile_sublist _).length_le
  unfold tailL
  split
  · rw [wt_splitc]; omega
  · exact Nat.zero_le _
theorem lcp_lenR {α : Type} [DecidableEq α] : ∀ (x y : List α), (lcp x y).length ≤ y.length
  | [], y => by simp [lcp]
  | a :: x, [] => by simp [lcp]
  | a :: x, b :: y => by
    unfold lcp
    split
    · have := lcp_lenR x y; simp only [List.length_cons]; omega
    · exact Nat.zero_le _
theorem minmax_two (a b : List (List Nat)) : (minL a [b] = b ∧ maxL a [b] = a) ∨ (minL a [b] = a ∧ maxL a [b] = b) ∨ (minL a [b] = a ∧ maxL a [b] = a ∧ a = b) := by
  have e1 : minL a [b] = if decide (b < a) = true then b else a := rfl
  have e2 : maxL a [b] = if decide (a < b) = true then b else a := rfl
  by_cases q1 : b < a
  · by_cases q2 : a < b
    · exact absurd (List.lt_trans q1 q2) (List.lt_irrefl _)
    · rw [if_pos (decide_eq_true q1)] at e1
      rw [if_neg (fun h => q2 (of_decide_eq_true h))] at e2
      exact .inl ⟨e1, e2⟩
  · by_cases q2 : a < b
    · rw [if_neg (fun h => q1 (of_decide_eq_true h))] at e1
      rw [if_pos (decide_eq_true q2)] at e2
      exact .inr (.inl ⟨e1, e2⟩)
    · rw [if_neg (fun h => q1 (of_decide_eq_true h))] at e1
      rw [if_neg (fun h => q2 (of_decide_eq_true h))] at e2
      exact .inr (.inr ⟨e1, e2, List.le_antisymm (List.not_lt.mp q1) (List.not_lt.mp q2)⟩)
theorem comN_le (x y : List Nat) : comN x y ≤ (tailL y).length ∧ comN x y ≤ (tailL x).length := by
  have h1 := lcp_len (minL (tailL y) [tailL x]) (maxL (tailL y) [tailL x])
  have h2 := lcp_lenR (minL (tailL y) [tailL x]) (maxL (tailL y) [tailL x])
  unfold comN
  rcases minmax_two (tailL y) (tailL x) with ⟨e1, e2⟩ | ⟨e1, e2⟩ | ⟨e1, e2, e3⟩
  · rw [e1, e2] at h1 h2 ⊢; exact ⟨h2, h1⟩
  · rw [e1, e2] at h1 h2 ⊢; exact ⟨h1, h2⟩
  · rw [e1, e2] at h1 h2 ⊢; exact ⟨h1, by rw [← e3]; exact h1⟩
end Mine
end
section
open PySem PySem.W PyProof.Rows PySem.Calls
set_option Elab.async false
set_option linter.unusedVariables false
set_option maxRecDepth 100000
namespace Mine
section
variable {w : World} {mg mb : Str → Option Value}
theorem binds2d {B : Base} {fd : FuncData} {p q : Str} {a b : AV} {d : Addr} {xs : Array Value} {n : Nat} {k : Value → Value → Option (Array Value) → Sem (List (Str × Value))} (ex : ∃ oc od osl, B.K.lookup d = some ⟨oc, od, .seq xs n, osl⟩) (h : ∀ v w, bindArgs fd ⟨[v, w], []⟩ = seqItems? (.ref d) >>= k v w) (h2 : ∀ v w, k v w (some xs) = pure [(p, v), (q, w)]) : BindsBy B fd [p, q] [a, b] [a, b] := fun A G s vs Q E T hG rv kk => by
  obtain ⟨oc, od, osl, ex⟩ := ex
  cases rv with
  | cons r1 r2 =>
    cases r2 with
    | cons r2 r3 =>
      cases r3
      rw [h]
      refine wpAny_bind (wpAny_seqItems (T.K _ _ ex) rfl ?_)
      rw [h2]
      exact wpAny_pure (kk _ s G (Up.refl hG).toUp0 (.cons r1 (.cons r2 .nil)) rfl)
local macro_rules | `(tactic| walk_at "side") => `(tactic| first | with_reducible assumption | omega | with_reducible exact wt_side (by with_reducible assumption) | (simp only [List.length_append, List.length_cons, List.length_nil, List.length_map, List.length_replicate]; omega))
local macro_rules | `(tactic| walk_at "fn abspath") => `(tactic| exact c_abspath _ (by walk_at "side") (by assumption))
theorem c_relpath (x y : List Nat) (hx : x.length ≤ 900000) (hy : y.length ≤ 900000) (h1 : x.head? = some 47) (h2 : y.head? = some 47) : Fn (bs w mg mb) (.ref 203) 6 [.str x, .str y] (.str (relS x y)) := by
  refine fn_go (N := [Str.ofString "path", Str.ofString "start", Str.ofString "curdir", Str.ofString "sep", Str.ofString "pardir", Str.ofString "start_tail", Str.ofString "path_tail", Str.ofString "start_list", Str.ofString "path_list", Str.ofString "i", Str.ofString "rel_list"]) (σ := [.val (.str x), .val (.str y), .no, .no, .no, .no, .no, .no, .no, .no, .no]) (ps := [Str.ofString "path", Str.ofString "start"]) (rest := [Str.ofString "curdir", Str.ofString "sep", Str.ofString "pardir", Str.ofString "start_tail", Str.ofString "path_tail", Str.ofString "start_list", Str.ofString "path_list", Str.ofString "i", Str.ofString "rel_list"]) ⟨_, _, _, rfl⟩ rfl rfl (binds2d (a := .str x) (b := .str y) (d := 196) ⟨_, _, _, rfl⟩ (fun _ _ => rfl) (fun _ _ => rfl)) rfl (by decide +kernel) rfl rfl ?_
  intro X ho hl
  have hS := sizeL
  have hnx := normS_len x
  have hny := normS_len y
  have htx : (tailN x).length ≤ (normS x).length := (List.dropWhile_sublist _).length_le
  have hty : (tailN y).length ≤ (normS y).length := (List.dropWhile_sublist _).length_le
  have hwx := tailL_wt x
  have hwy := tailL_wt y
  have hlx := wt_len (tailL x)
  have hly := wt_len (tailL y)
  obtain ⟨hc1, hc2⟩ := comN_le x y
  have hx0 : x.isEmpty = false := by cases x with
    | nil => cases h1
    | cons a r => rfl
  refine sx_cons s1_doc ?_
  apply sx_set
  · exact (ex_call (xg_fspath rfl) (es_cons (ex_loc (by walk_at "var")) es_nil) (Fn.inX (by walk_at "fn fspath") (by omega)) rfl)
  · walk_at "set"
  · exact ho
  · rfl
  refine sx_if_skip (tst_not (tst_val (ex_loc (by walk_at "var")) rfl (by walk_at "small"))) (by rw [hx0]; rfl) ?_
  apply sx_if_f
  · exact (tst_val (ex_call (xb_isinstance rfl) (es_cons (ex_loc (by walk_at "var")) (es_cons (xb_bytes rfl) es_nil)) fn_isi_bytes rfl) rfl (by walk_at "small"))
  · rfl
  · apply sx_set
    · exact (ex_str (l := [46]) rfl)
    · walk_at "set"
    · exact ho
    · rfl
    apply sx_set
    · exact (ex_str (l := [47]) rfl)
    · walk_at "set"
    · exact ho
    · rfl
    apply sx_set
    · exact (ex_str (l := [46, 46]) rfl)
    · walk_at "set"
    · exact ho
    · rfl
    exact sx_nil
  apply sx_if_f
  · exact tst_cmp1 (ex_loc (by walk_at "var")) ex_none (cmp_is_none (b := false) (fun G v hv => by
      obtain ⟨z, t, rfl, _⟩ := hv.text
      rfl)) rfl
  · rfl
  · apply sx_set
    · exact (ex_call (xg_fspath rfl) (es_cons (ex_loc (by walk_at "var")) es_nil) (Fn.inX (by walk_at "fn fspath") (by omega)) rfl)
    · walk_at "set"
    · exact ho
    · rfl
    exact sx_nil
  refine sx_one (s1_try (o := .ret (.str (relS x y))) ?_) (fun _ e => by cases e)
  apply sx_set
  · exact (ex_meth1 (ex_call (xg_abspath rfl) (es_cons (ex_loc (by walk_at "var")) es_nil) (Fn.inX (by walk_at "fn abspath") (by omega)) rfl) (ex_loc (by walk_at "var")) (m_lstrip (by walk_at "side")) rfl rfl rfl)
  · walk_at "set"
  · exact ho
  · rfl
  apply sx_set
  · exact (ex_meth1 (ex_call (xg_abspath rfl) (es_cons (ex_loc (by walk_at "var")) es_nil) (Fn.inX (by walk_at "fn abspath") (by omega)) rfl) (ex_loc (by walk_at "var")) (m_lstrip (by walk_at "side")) rfl rfl rfl)
  · walk_at "set"
  · exact ho
  · rfl
  change Sx X [_, _, _, _, _, .val (.str (tailN y)), .val (.str (tailN x)), _, _, _, _] _ _
  apply sx_set
  · exact ex_if_strs (tst_val (ex_loc (by walk_at "var")) rfl (by walk_at "small")) (fun _ => (ex_meth1 (ex_loc (by walk_at "var")) (ex_loc (by walk_at "var")) (m_split (by walk_at "side")) rfl rfl rfl)) (fun _ => (ex_list es_nil (Nat.zero_le _)).of (r' := .strs []) rfl)
  · walk_at "set"
  · exact ho
  · rfl
  apply sx_set
  · exact ex_if_strs (tst_val (ex_loc (by walk_at "var")) rfl (by walk_at "small")) (fun _ => (ex_meth1 (ex_loc (by walk_at "var")) (ex_loc (by walk_at "var")) (m_split (by walk_at "side")) rfl rfl rfl)) (fun _ => (ex_list es_nil (Nat.zero_le _)).of (r' := .strs []) rfl)
  · walk_at "set"
  · exact ho
  · rfl
  change Sx X [_, _, _, _, _, _, _, .val (.strs (tailL y)), .val (.strs (tailL x)), _, _] _ _
  apply sx_set
  · exact ex_call (xb_len rfl) (es_cons (ex_call (xg_commonprefix rfl) (es_cons (ex_list (es_cons (ex_loc (by walk_at "var")) (es_cons (ex_loc (by walk_at "var")) es_nil)) (Nat.le_of_ble_eq_true rfl)) es_nil) (Fn.inX (c_commonprefixL (tailL y) (tailL x) (by omega) (by omega)) (by omega)) rfl) es_nil) (fn_len_strs (show comN x y ≤ sizeLine by omega)) rfl
  · walk_at "set"
  · exact ho
  · rfl
  change Sx X [_, _, _, _, _, _, _, _, _, .val (.int (comN x y : Int)), _] _ _
  have hn : (((tailL y).length : Int) - (comN x y : Int)).toNat = (tailL y).length - comN x y := by omega
  have hw2 := wt_sub (slc_sub (some (comN x y : Int)) none (tailL x))
  have hw3 := (slc_sub (some (comN x y : Int)) none (tailL x)).length_le
  have hw : wt (relL x y) ≤ sizeLine := by
    unfold relL; rw [wt_app, wt_rep]; omega
  have hwl := wt_len (relL x y)
  apply sx_set
  · exact ex_bin (ex_bin (ex_strs1 (ex_loc (by walk_at "var"))) (ex_bin (ex_call (xb_len rfl) (es_cons (ex_loc (by walk_at "var")) es_nil) (fn_len_strs (by omega)) rfl) (ex_loc (by walk_at "var")) bop_sub_int) (bop_mul_strs1 (by omega) (by omega))) (ex_slice_strs (ex_loc (by walk_at "var")) (pt_some (ex_loc (by walk_at "var"))) pt_none (by omega)) (bop_add_strs (by rw [List.length_replicate]; omega))
  · walk_at "set"
  · exact ho
  · rfl
  rw [hn]
  change Sx X [_, _, _, _, _, _, _, _, _, _, .val (.strs (relL x y))] _ _
  by_cases hr : (relL x y).isEmpty = true
  · refine (sx_if_tr (tst_not (tst_val (ex_loc (by walk_at "var")) rfl (by walk_at "small"))) (by simpa using hr) (sx_ret (ex_loc (by walk_at "var")))).to ?_
    unfold relS; rw [if_pos hr]
  refine sx_if_skip (tst_not (tst_val (ex_loc (by walk_at "var")) rfl (by walk_at "small"))) (by simpa using hr) ?_
  refine (sx_ret (ex_meth1 (ex_loc (by walk_at "var")) (ex_loc (by walk_at "var")) (m_join (by walk_at "side")) rfl rfl rfl)).to ?_
  unfold relS; rw [if_neg hr]
end
end Mine
end
section
open PySem PySem.W PyProof.Rows PySem.Calls PySem.SeqAt
set_option Elab.async false
set_option linter.unusedVariables false
set_option maxRecDepth 100000
namespace Mine
section
variable {prog : Program} {w : World} {A : Around} {E : Value → Shared → Prop} {s : Shared}

theorem wpAny_pyHash_bool {b : Bool} {Q : Int → Shared → Prop} (h : Q (if b then 1 else 0) { s with toks := s.toks + 1 }) :
    wpAny (model prog w) A (pyHash (.bool b)) Q E s := by
  unfold pyHash
  have hv : [Value.bool b].any Value.onHeap = false := rfl
  refine wpAny_bind ?_
  rw [cRoomFor, if_neg (by rw [hv]; exact Bool.false_ne_true)]; refine wpAny_pure ?_
  refine wpAny_bind (wpAny_specialOf (PyProof.Rows.typeIs_bool s b) F.slot_bool_hash.lookup ?_)
  show wpAny _ _ (if (some (Value.builtin "int.__hash__") == some Value.none) = true then _ else _) Q E s
  rw [if_neg (by rw [beq_builtin_none]; exact Bool.false_ne_true)]
  refine wpAny_bind (wpAny_specialOf (PyProof.Rows.typeIs_bool s b) F.slot_bool_hash.lookup ?_)
  show wpAny _ _ (callSpecialIfBoundUnlessNone? (.bool b) "__hash__" _ >>= _) Q E s
  cases b with
  | true =>
    refine wpAny_bind (wpAny_callSpecialIfBoundUnlessNone?_slot (PyProof.Rows.typeIs_bool s true) F.slot_bool_hash
      (wpAny_call_entry F.slot_bool_hash (PyProof.Rows.typeIs_bool s true) entry_int_hash
        (show wpAny _ _ (do ret (← mkInt 1)) _ _ s from wpAny_ret_mkInt ?_) (args_int_hash _)))
    exact wpAny_pure h
  | false =>
    refine wpAny_bind (wpAny_callSpecialIfBoundUnlessNone?_slot (PyProof.Rows.typeIs_bool s false) F.slot_bool_hash
      (wpAny_call_entry F.slot_bool_hash (PyProof.Rows.typeIs_bool s false) entry_int_hash
        (show wpAny _ _ (do ret (← mkInt 0)) _ _ s from wpAny_ret_mkInt ?_) (args_int_hash _)))
    exact wpAny_pure h
theorem wpAny_eqBool_bool {a b : Bool} {Q : Bool → Shared → Prop} (h : Q (a == b) s) :
    wpAny (model prog w) A (eqBool (.bool a) (.bool b)) Q E s := by
  unfold eqBool
  show wpAny _ _ (if (Value.bool a == Value.bool b) = true then _ else _) Q E s
  by_cases hab : (Value.bool a == Value.bool b) = true
  · rw [if_pos hab]
    have e : a = b := by have := eq_of_beq hab; injection this
    subst e
    exact wpAny_bind (wpAny_rule (wpAny_pure (by simpa using h)))
  · rw [if_neg hab]
    exact wpAny_bind (PyProof.Rows.eq_bool (wpAny_truthy_bool h))
noncomputable def isBool (b : Bool) : Value → Bool
  | .bool c => b == c
  | _ => false
theorem isBool_shape {b : Bool} {v : Value} (h : isBool b v = true) : v = .bool b := by
  cases v <;> simp_all [isBool]
theorem isBool_inj (v : Value) (a b : Bool) (h1 : isBool a v = true) (h2 : isBool b v = true) : a = b := by
  rw [isBool_shape h1] at h2
  cases a <;> cases b <;> first | rfl | cases h2
noncomputable def boolKind (prog : Program) (w : World) : KeyKind prog w Bool := by
  refine ⟨isBool, fun b => if b then 1 else 0, isBool_inj, fun k v h => ?_, fun {A E s k v Q} hv h => ?_, fun {A E s a b u v Q} hu hv h => ?_, fun k x t v h => ?_⟩
  · rw [isBool_shape h]; rfl
  · rw [isBool_shape hv]; exact wpAny_pyHash_bool h
  · rw [isBool_shape hu, isBool_shape hv]
    exact wpAny_eqBool_bool (by rw [show (a == b) = decide (a = b) by cases a <;> cases b <;> rfl]; exact h)
  · cases h

noncomputable def bHash (b : Bool) : Int := if b then 1 else 0
noncomputable def bAdd (st : Array (Int × Value) × SetTable) (b : Bool) : Array (Int × Value) × SetTable :=
  match st.1.toList.findIdx? (fun e => isBool b e.2) with
  | some _ => st
  | none => ((layNew st.2 st.1 (bHash b) (.bool b)).1, (layNew st.2 st.1 (bHash b) (.bool b)).2.1)
noncomputable def bset (led : Bool) (bs : List Bool) : Array (Int × Value) × SetTable := bs.foldl bAdd (#[], .fresh 0 0 led)
noncomputable def okB (st : Array (Int × Value) × SetTable) : Bool :=
  st.2.fits st.1.size && decide (st.1.size < 100) && st.1.toList.all (fun e => (isBool true e.2 && e.1 == 1) || (isBool false e.2 && e.1 == 0)) &&
  [true, false].all fun b => (layNew st.2 st.1 (bHash b) (.bool b)).2.1.plain && !(layNew st.2 st.1 (bHash b) (.bool b)).2.1.tooFull
theorem okB_el {st : Array (Int × Value) × SetTable} (h : okB st = true) : st.2.fits st.1.size = true ∧ st.1.size < 100 ∧ ElemsOf (boolKind prog w) st.1.toList ∧ ∀ b, (layNew st.2 st.1 (bHash b) (.bool b)).2.1.plain = true ∧ (layNew st.2 st.1 (bHash b) (.bool b)).2.1.tooFull = false := by
  simp only [okB, Bool.and_eq_true, decide_eq_true_eq, List.all_eq_true, Bool.or_eq_true, beq_iff_eq, Bool.not_eq_true', List.mem_cons, List.not_mem_nil, or_false] at h
  obtain ⟨⟨⟨h1, h2⟩, h3⟩, h4⟩ := h
  refine ⟨h1, h2, fun e he => ?_, fun b => h4 b (by cases b <;> simp)⟩
  rcases h3 e he with ⟨h, h'⟩ | ⟨h, h'⟩
  · exact ⟨⟨true, h, h'⟩, by rw [isBool_shape h]; rfl⟩
  · exact ⟨⟨false, h, h'⟩, by rw [isBool_shape h]; rfl⟩

noncomputable def SetEx (h : Heap) (a : Addr) (st : Array (Int × Value) × SetTable) : Prop := ∃ ep, h.get? a = some { cls := .type "set", data := .set st.1 ep st.2 }
theorem SetEx.put {h : Heap} {a : Addr} {st : Array (Int × Value) × SetTable} (x : SetEx h a st) (es' : Array (Int × Value)) (t' : SetTable) : SetEx (h.update a (Obj.putSet es' t')) a (es', t') := by
  obtain ⟨ep, ho⟩ := x
  have := Heap.get?_update_self (Obj.putSet es' t') ho (by rw [putSet_of es' t' rfl]; rfl)
  rw [putSet_of es' t' rfl] at this
  exact ⟨_, this⟩
theorem call_set_addB {a : Addr} {st : Array (Int × Value) × SetTable} {b : Bool} {Q : Value → Shared → Prop} (hS : SetEx s.heap a st) (hk : okB st = true)
    (h : ∀ h', Heap.SameBut a s.heap h' → SetEx h' a (bAdd st b) → Q .none { s with heap := h', toks := s.toks + 1 }) :
    wpAny (model prog w) A (call (.builtin "set.add") [.ref a, .bool b]) Q E s := by
  obtain ⟨es, t⟩ := st
  obtain ⟨hf, hb, hel, hL⟩ := okB_el (prog := prog) (w := w) hk
  dsimp only at hf hb hel hL
  have hS0 := hS
  obtain ⟨ep, ho⟩ := hS
  have hkey : (boolKind prog w).is b (.bool b) = true := by simp [boolKind, isBool]
  have hsc : (Value.bool b).scannable = true := rfl
  have hb' : es.size < scanBound := Nat.lt_trans hb (by decide)
  refine wpAny_call_entry F.slot_set_add ⟨_, ho, rfl⟩ F.entry_set_add ?_ (F.args_set_add_2 _ _)
  unfold Builtin.«set.add» Builtin.Frozenset.oneOther
  simp only [List.isEmpty_nil, bind_assoc]
  unfold Builtin.Frozenset.addrOf setAdd
  refine wpAny_bind (wpAny_pure ?_)
  try dsimp only
  refine wpAny_bind (wpAny_pure ?_)
  try dsimp only
  refine wpAny_bind ?_
  refine wpAny_holding ?_
  refine wpAny_bind (wpAny_pyHash_bool ?_)
  show wpAny _ A.in1 (setAddHashed a (.bool b) (bHash b)) _ E { s with toks := s.toks + 1 }
  unfold setAddHashed setAddHashedIn
  refine wpAny_holding (wpAny_bind (wpAny_setState_of ho rfl hf ?_))
  dsimp only
  rw [byScan_of (knd := boolKind prog w) hsc hb' hel]
  simp only [↓reduceIte]
  unfold setAddByScan
  refine wpAny_bind ?_
  refine wpAny_bind (wpAny_rule ?_)
  refine wpAny_bind (wpAny_setScan_of (knd := boolKind prog w) (k := b) hkey ho rfl hf hel ?_)
  have hba : bAdd (es, t) b = match es.toList.findIdx? (fun e => isBool b e.2) with
    | some _ => (es, t)
    | none => ((layNew t es (bHash b) (.bool b)).1, (layNew t es (bHash b) (.bool b)).2.1) := rfl
  cases hr : List.findIdx? (fun e => (boolKind prog w).is b e.2) es.toList with
  | some j =>
    have hr' : List.findIdx? (fun e => isBool b e.2) es.toList = some j := hr
    rw [hr'] at hba
    dsimp only
    refine wpAny_pure (wpAny_pure ?_)
    show wpAny _ _ (ret Value.none) _ _ _
    exact wpAny_pure ⟨_, rfl, h s.heap (Heap.SameBut.refl a s.heap) (by rw [hba]; exact hS0)⟩
  | none =>
    have hr' : List.findIdx? (fun e => isBool b e.2) es.toList = none := hr
    rw [hr'] at hba
    dsimp only at hba ⊢
    obtain ⟨hpl, htf⟩ := hL b
    have hgw : ∀ (b : Bool) {s₁ : Shared} {Q' : Unit → Shared → Prop}, Q' () s₁ → wpAny (model prog w) A.in1 (match b with | true => rule "set.scan.the-table-gave-way" | false => pure ()) Q' E s₁ :=
      fun b s₁ Q' hq => by cases b <;> first | exact wpAny_pure hq | exact wpAny_rule hq
    have hperm := layNew_perm t es (bHash b) (.bool b)
    generalize layNew t es (bHash b) (.bool b) = L at hperm hba hpl htf ⊢
    obtain ⟨es1, t1, wasDummy, gave⟩ := L
    dsimp only at hperm hba hpl htf ⊢
    rw [Array.toList_push] at hperm
    have hb1' : es1.size ≤ sizeLine := by
      rw [← Array.length_toList, hperm.length_eq, List.length_append, Array.length_toList]
      refine Nat.le_trans (Nat.add_le_add_right (Nat.le_of_lt hb) _) ?_
      rw [sizeLine_eq]; simp
    refine wpAny_bind (hgw _ ?_)
    rw [if_pos hpl]
    refine wpAny_bind ?_
    rw [hashByValue_scannable 8 hsc]
    refine wpAny_pure ?_
    rw [if_pos (by rfl)]
    refine wpAny_bind (wpAny_storeSet_of ho rfl ?_ hb1')
    rw [htf, Bool.and_false, if_neg (by decide)]
    refine wpAny_pure ?_
    dsimp only
    refine wpAny_pure ?_
    show wpAny _ _ (ret Value.none) _ _ _
    exact wpAny_pure ⟨_, rfl, h _ (Heap.SameBut.update _ a _) (by rw [hba]; exact hS0.put es1 t1)⟩
end
end Mine
end
section
open PySem PySem.W PyProof.Rows PySem.Calls PySem.SeqAt
set_option Elab.async false
set_option linter.unusedVariables false
set_option maxRecDepth 100000
namespace Mine
theorem slot_set_iterator_next : Slot "set_iterator" "__next__" "set_iterator.__next__" :=
  .of (owner := "set_iterator") (n := "__next__") (by rw [typeLookup_type, builtinLookup_eq_fast]; kernel_rfl) (by decide +kernel) (by decide +kernel) (by decide +kernel)
    (by first | exact .inl (by decide +kernel) | exact .inr (by decide +kernel)) (by rw [isSubtype_type]; kernel_rfl)
theorem entry_set_iterator_next : entryFor table "set_iterator.__next__" = some Builtin.«set_iterator.__next__» := entryFor_of_tree (by kernel_rfl)
theorem args_set_iterator_next_1 (a : Value) : argsOk "set_iterator.__next__" ⟨[a], []⟩ := by
  unfold argsOk; kernel_rfl
theorem entry_set_iter : entryFor table "set.__iter__" = some Builtin.«frozenset.__iter__» :=
  entryFor_alias (id' := "frozenset.__iter__") (by kernel_rfl) rfl (by decide +kernel) (by kernel_rfl)

theorem pickOrder_one (f : Nat → Nat) (e : Int × Value) : pickOrder f #[e] = #[e] := by
  show pickOrder.go f 1 0 [e] #[] = _
  unfold pickOrder.go
  simp [Nat.mod_one, pickOrder.go]
theorem pickOrder_size (f : Nat → Nat) : ∀ (n k : Nat) (l : List (Int × Value)) (out : Array (Int × Value)), l.length = n → (pickOrder.go f n k l out).size = out.size + n
  | 0, k, l, out, _ => by simp [pickOrder.go]
  | n + 1, k, l, out, h => by
    unfold pickOrder.go
    have hlt : f k % l.length < l.length := Nat.mod_lt _ (by omega)
    rw [List.getElem?_eq_getElem hlt]
    dsimp only
    rw [pickOrder_size f n _ _ _ (by rw [List.length_eraseIdx_of_lt hlt]; omega), Array.size_push]
    omega

section
variable {prog : Program} {w : World} {A : Around} {E : Value → Shared → Prop} {s : Shared}
noncomputable def byT (w : World) : Bool := w.params.followText "set-order"
noncomputable def SetE (h : Heap) (a : Addr) (es : Array (Int × Value)) (ep : Nat) (t : SetTable) : Prop := h.get? a = some { cls := .type "set", data := .set es ep t }
noncomputable def SetIt (h : Heap) (it a : Addr) (slot k n ep : Nat) : Prop := h.get? it = some { cls := .type "set_iterator", data := .fields #[.int slot 0, .int k 0, .ref a, .int n 0, .int ep 0] }

theorem pyIter_setB {a : Addr} {es : Array (Int × Value)} {ep : Nat} {t : SetTable} {Q : Value → Shared → Prop} (hS : SetE s.heap a es ep t) (hf : t.fits es.size = true) (hp : t.plain = true)
    (hQ : SetIt (s.heap.push { cls := .type "set_iterator", data := .fields #[.int 0 0, .int 0 0, .ref a, .int es.size 0, .int ep 0] }) s.heap.objs.size a 0 0 es.size ep → Q (.ref s.heap.objs.size) { s with heap := s.heap.push { cls := .type "set_iterator", data := .fields #[.int 0 0, .int 0 0, .ref a, .int es.size 0, .int ep 0] } }) :
    wpAny (model prog w) A (pyIter (.ref a)) Q E s := by
  have hT : s.TypeIs (.ref a) "set" := ⟨_, hS, rfl⟩
  refine wpAny_pyIter_slot hT F.slot_set_iter (wpAny_call_entry F.slot_set_iter hT entry_set_iter ?_ (F.args_set_iter_1 _))
  unfold Builtin.«frozenset.__iter__» Builtin.Frozenset.slot0 slotArgs
  simp only [List.isEmpty_nil, Bool.not_true, Bool.false_eq_true, ↓reduceIte, bind_assoc, List.length_nil, bne_self_eq_false]
  unfold Builtin.Frozenset.addrOf Builtin.Frozenset.sizeOf
  refine wpAny_bind (wpAny_pure ?_)
  try dsimp only
  refine wpAny_bind (wpAny_pure ?_)
  refine wpAny_bind (wpAny_bind (wpAny_setEntries_of hS rfl hf (wpAny_pure ?_)))
  refine wpAny_bind ?_
  unfold setDrawn
  refine wpAny_bind (wpAny_setState_of hS rfl hf ?_)
  dsimp only
  refine wpAny_bind (wpAny_bind (wpAny_askSetting (wpAny_pure ?_)))
  refine wpAny_pure ?_
  rw [if_neg (by
    show ¬ ((!(byT w) && (!t.plain && decide (es.size > 1))) = true)
    rw [hp]; simp)]
  refine wpAny_bind (wpAny_pure ?_)
  refine wpAny_bind (wpAny_setEpoch_of hS rfl hf ?_)
  unfold newFields
  refine wpAny_bind (wpAny_newObj_type ?_ (by size_fits))
  exact wpAny_pure ⟨_, rfl, "set_iterator", _, ⟨_, Heap.get?_push_size _ rfl, rfl⟩, slot_set_iterator_next.lookup, hQ (Heap.get?_push_size _ rfl)⟩

/-- what the set's iterator finds -/
noncomputable def setNx (w : World) (a : Addr) (es : Array (Int × Value)) (ep : Nat) (t : SetTable) (slot given : Nat) : Option (Value × Nat) :=
  if byT w then ((pickOrder (w.params.setOrder a ep) es)[given]?).map fun e => (e.2, slot)
  else match es[SetTable.below t.place slot]?, t.place[SetTable.below t.place slot]? with
    | some (_, x), some j => some (x, j + 1)
    | _, _ => none
theorem wpAny_setNextB {a : Addr} {es : Array (Int × Value)} {ep slot given : Nat} {t : SetTable} {Q : Option (Value × Nat) → Shared → Prop} (hS : SetE s.heap a es ep t) (hf : t.fits es.size = true) (hp : t.plain = true) (hl : t.led = !byT w)
    (hQ : Q (setNx w a es ep t slot given) s) : wpAny (model prog w) A (setNext a slot given ep) Q E s := by
  unfold setNext
  refine wpAny_bind (wpAny_setState_of hS rfl hf ?_)
  dsimp only
  refine wpAny_bind (wpAny_bind (wpAny_askSetting (wpAny_pure ?_)))
  unfold setNx at hQ
  by_cases hb : byT w = true
  · rw [if_pos hb] at hQ
    refine wpAny_ite ?_
    change (if byT w = true then _ else _)
    rw [if_pos hb, if_neg (by simp)]
    refine wpAny_bind ?_
    unfold setWalk
    refine wpAny_bind (wpAny_setState_of hS rfl hf ?_)
    dsimp only
    refine wpAny_bind (wpAny_bind (wpAny_askSetting (wpAny_pure ?_)))
    refine wpAny_ite ?_
    change (if byT w = true then _ else _)
    rw [if_pos hb]
    exact wpAny_bind (wpAny_askSetting (wpAny_pure (wpAny_pure hQ)))
  · rw [if_neg hb] at hQ
    refine wpAny_ite ?_
    change (if byT w = true then _ else _)
    rw [if_neg hb]
    rw [if_neg (by
      show ¬ ((!t.plain && decide (es.size > 1)) = true)
      rw [hp]; simp)]
    refine wpAny_bind ?_
    show wpAny _ _ (if (!t.led && !es.isEmpty) = true then _ else _) _ _ _
    rw [if_neg (by rw [hl]; simp only [Bool.not_eq_true] at hb; rw [hb]; simp)]
    exact wpAny_pure (wpAny_pure hQ)

theorem update_field2 {h : Heap} {it a : Addr} {slot k n ep : Nat} (x y : Value) (hI : SetIt h it a slot k n ep) :
    ((h.update it (Obj.mapFields (·.setIfInBounds 0 x))).update it (Obj.mapFields (·.setIfInBounds 1 y))).get? it = some { cls := .type "set_iterator", data := .fields #[x, y, .ref a, .int n 0, .int ep 0] } := by
  have h1 := Heap.get?_update_self (Obj.mapFields (·.setIfInBounds 0 x)) hI rfl
  exact Heap.get?_update_self (Obj.mapFields (·.setIfInBounds 1 y)) h1 rfl
/-- the walk's end is raised -/
theorem stop_raised {α : Type} {Q : α → Shared → Prop} (hh : A.handled = none) (h : ∀ h' e o, (∀ b o, s.heap.get? b = some o → h'.get? b = some o) → h'.get? e = some o → o.cls = .type "StopIteration" → E (.ref e) { s with heap := h' }) :
    wpAny (model prog w) A (newExc (.type "StopIteration") [] >>= fun e => (raiseNew e : Sem α)) Q E s := by
  have keeps (o o' : Obj) (b : Addr) (x : Obj) (q : s.heap.get? b = some x) : ((s.heap.push o).push o').get? b = some x := Heap.get?_push_of_some _ (Heap.get?_push_of_some _ q)
  unfold newExc newTuple
  refine wpAny_bind (wpAny_bind (wpAny_newObj_type (wpAny_bind (m := firstArgMember _ _) (wpAny_of_eq (a := Value.none) (by unfold firstArgMember; rfl) (wpAny_newObj_type (wpAny_raiseNew_none hh ?_) (by size_fits)))) (by size_fits)))
  exact h _ _ _ (keeps _ _) (Heap.get?_push_size _ rfl) rfl
/-- a step of the walk, its end too -/
theorem pyNext_setB {it a : Addr} {es : Array (Int × Value)} {ep slot k : Nat} {t : SetTable} {Q : Option Value → Shared → Prop} (hh : A.handled = none) (hI : SetIt s.heap it a slot k es.size ep) (hS : SetE s.heap a es ep t) (hf : t.fits es.size = true) (hp : t.plain = true) (hl : t.led = !byT w)
    (hQ : match setNx w a es ep t slot k with
      | some (x, j) => ∀ h', SetIt h' it a j (k + 1) es.size ep → Heap.SameBut it s.heap h' → Q (some x) { s with heap := h' }
      | none => ∀ h', Heap.ExtBut it s.heap h' → Q none { s with heap := h' }) : wpAny (model prog w) A (pyNext (.ref it)) Q E s := by
  have isIt : s.TypeIs (.ref it) "set_iterator" := ⟨_, hI, rfl⟩
  unfold pyNext
  refine wpAny_bind (wpAny_attempt (wpAny_callSpecial?_slot isIt slot_set_iterator_next (wpAny_call_entry slot_set_iterator_next isIt entry_set_iterator_next ?_ (args_set_iterator_next_1 _))))
  unfold Builtin.«set_iterator.__next__»
  refine wpAny_bind (wpAny_of_eq (a := (Value.ref it, ([] : List Value))) rfl (wpAny_bind (wpAny_fieldsOf hI rfl ?_)))
  dsimp only
  refine wpAny_bind (wpAny_setEntries_of hS rfl hf ?_)
  rw [if_neg (by simp)]
  refine wpAny_bind (wpAny_setNextB (slot := slot) (given := k) hS hf hp hl ?_)
  rw [Int.toNat_natCast]
  cases e : setNx w a es ep t slot k with
  | none =>
    rw [e] at hQ
    dsimp only
    refine wpAny_bind (wpAny_setField hI rfl (by simp) ?_)
    refine stop_raised hh fun h' x o keep hx hc => ?_
    refine wpAny_bind (wpAny_isInstance (T := "StopIteration") (b := true) ⟨o, hx, hc⟩ isSubtype_stop (wpAny_pure (hQ h' fun b y n q => keep b y ?_)))
    exact (Heap.get?_update_other _ _ n.symm).trans q
  | some p =>
    rw [e] at hQ
    dsimp only
    refine wpAny_bind (wpAny_setField hI rfl (by simp) ?_)
    refine wpAny_bind (wpAny_setField (Heap.get?_update_self _ hI rfl) rfl (by simp) ?_)
    exact wpAny_pure ⟨p.1, rfl, wpAny_pure (hQ _ (update_field2 _ _ hI) ((Heap.SameBut.update ..).trans (Heap.SameBut.update ..)))⟩

theorem notIt_set {a : Addr} {es : Array (Int × Value)} {ep : Nat} {t : SetTable} {Q : Bool → Shared → Prop} (hS : SetE s.heap a es ep t) (h : Q false s) : wpAny (model prog w) A (notIterableAtAll (.ref a)) Q E s := by
  unfold notIterableAtAll
  refine wpAny_bind (wpAny_specialOf ⟨_, hS, rfl⟩ F.slot_set_iter.lookup ?_)
  exact wpAny_pure h
/-- a set of one is unpacked -/
theorem unpack_set1 {a : Addr} {x : Int × Value} {ep j : Nat} {t : SetTable} {Q : List Value → Shared → Prop} (hh : A.handled = none) (hS : SetE s.heap a #[x] ep t) (hf : t.fits 1 = true) (hp : t.plain = true) (hl : t.led = !byT w) (hj : t.place = #[j])
    (hQ : ∀ h', Heap.ExtBut s.heap.objs.size s.heap h' → Q [x.2] { s with heap := h' }) : wpAny (model prog w) A (unpackItems (.ref a) 1 none) Q E s := by
  have hlt : a ≠ s.heap.objs.size := Nat.ne_of_lt (Heap.lt_size hS)
  have b0 : SetTable.below t.place 0 = 0 := by rw [hj]; rfl
  have b1 : SetTable.below t.place (j + 1) = 1 := by
    rw [hj]
    unfold SetTable.below
    simp [SetTable.below.go]
  unfold unpackItems
  refine wpAny_bind (notIt_set hS ?_)
  simp only [Bool.false_eq_true, if_false]
  refine wpAny_bind (wpAny_holding (pyIter_setB hS hf hp fun hI => ?_))
  refine wpAny_bind (wpAny_holding ?_)
  have hS1 : SetE (s.heap.push { cls := .type "set_iterator", data := .fields #[.int 0 0, .int 0 0, .ref a, .int (#[x].size : Nat) 0, .int ep 0] }) a #[x] ep t := Heap.get?_push_of_some _ hS
  obtain ⟨j0, e0, e1⟩ : ∃ j0, setNx w a #[x] ep t 0 0 = some (x.2, j0) ∧ setNx w a #[x] ep t j0 1 = none := by
    unfold setNx
    by_cases hb : byT w = true
    · simp only [if_pos hb, pickOrder_one]
      exact ⟨0, rfl, rfl⟩
    · simp only [if_neg hb]
      refine ⟨j + 1, ?_, ?_⟩
      · rw [b0, hj]; rfl
      · rw [b1]; rfl
  show wpAny _ _ (pyNext (.ref s.heap.objs.size) >>= _) _ E _
  refine wpAny_bind (pyNext_setB hh hI hS1 hf hp hl (e0 ▸ fun h1 hI1 hs1 => ?_))
  refine wpAny_bind (wpAny_holding (wpAny_pure (wpAny_pure ?_)))
  rw [if_neg (by simp)]
  have hS2 : SetE h1 a #[x] ep t := (hs1.2 a hlt).trans hS1
  refine wpAny_bind (wpAny_holding (pyNext_setB hh hI1 hS2 hf hp hl (e1 ▸ fun h2 he2 => ?_)))
  simp only [Option.isSome_none, Bool.false_eq_true, if_false]
  exact wpAny_pure (hQ h2 fun b o hb e => he2 b o hb (hs1.extBut b o hb (Heap.get?_push_of_some _ e)))
/-- a set of two is not unpacked into one -/
theorem unpack_set2 {a : Addr} {x y : Int × Value} {ep j i : Nat} {t : SetTable} {Q : List Value → Shared → Prop} (hh : A.handled = none) (hS : SetE s.heap a #[x, y] ep t) (hf : t.fits 2 = true) (hp : t.plain = true) (hl : t.led = !byT w) (hj : t.place = #[j, i]) (hij : j < i)
    (hE : ∀ h' h'' tk e, Heap.ExtBut s.heap.objs.size s.heap h' → Heap.NewExc h' h'' e "ValueError" → E (.ref e) { s with heap := h'', toks := tk }) : wpAny (model prog w) A (unpackItems (.ref a) 1 none) Q E s := by
  have hlt : a ≠ s.heap.objs.size := Nat.ne_of_lt (Heap.lt_size hS)
  have b0 : SetTable.below t.place 0 = 0 := by
    rw [hj]
    unfold SetTable.below
    simp [SetTable.below.go]
  have b1 : SetTable.below t.place (j + 1) = 1 := by
    rw [hj]
    unfold SetTable.below
    simp [SetTable.below.go]
    omega
  unfold unpackItems
  refine wpAny_bind (notIt_set hS ?_)
  simp only [Bool.false_eq_true, if_false]
  refine wpAny_bind (wpAny_holding (pyIter_setB hS hf hp fun hI => ?_))
  refine wpAny_bind (wpAny_holding ?_)
  have hS1 : SetE (s.heap.push { cls := .type "set_iterator", data := .fields #[.int 0 0, .int 0 0, .ref a, .int (#[x, y].size : Nat) 0, .int ep 0] }) a #[x, y] ep t := Heap.get?_push_of_some _ hS
  obtain ⟨j0, j1, x0, x1, e0, e1⟩ : ∃ j0 j1 x0 x1, setNx w a #[x, y] ep t 0 0 = some (x0, j0) ∧ setNx w a #[x, y] ep t j0 1 = some (x1, j1) := by
    unfold setNx
    by_cases hb : byT w = true
    · have hsz : (pickOrder (w.params.setOrder a ep) #[x, y]).size = 2 := by
        show (pickOrder.go _ 2 0 [x, y] #[]).size = 2
        rw [pickOrder_size _ 2 0 [x, y] #[] rfl]; rfl
      simp only [if_pos hb]
      rw [Array.getElem?_eq_getElem (by omega : 0 < _), Array.getElem?_eq_getElem (by omega : 1 < _)]
      exact ⟨0, 0, _, _, rfl, rfl⟩
    · simp only [if_neg hb]
      refine ⟨j + 1, i + 1, x.2, y.2, ?_, ?_⟩
      · rw [b0, hj]; rfl
      · rw [b1, hj]; rfl
  show wpAny _ _ (pyNext (.ref s.heap.objs.size) >>= _) _ E _
  refine wpAny_bind (pyNext_setB hh hI hS1 hf hp hl (e0 ▸ fun h1 hI1 hs1 => ?_))
  refine wpAny_bind (wpAny_holding (wpAny_pure (wpAny_pure ?_)))
  rw [if_neg (by simp)]
  have hS2 : SetE h1 a #[x, y] ep t := (hs1.2 a hlt).trans hS1
  refine wpAny_bind (wpAny_holding (pyNext_setB hh hI1 hS2 hf hp hl (e1 ▸ fun h2 hI2 hs2 => ?_)))
  rw [if_pos (by rfl)]
  refine wpAny_bind (wpAny_rule ?_)
  have hex : Heap.ExtBut s.heap.objs.size s.heap h2 := fun b o hb e => hs2.extBut b o hb (hs1.extBut b o hb (Heap.get?_push_of_some _ e))
  first
    | exact wpAny_raiseErrorMade plainExc_ValueError hh (fun h' tk e he => hE h2 h' tk e hex he)
    | exact wpAny_raiseErrorWords plainExc_ValueError hh (fun h' tk e he => hE h2 h' tk e hex he)
    | exact wpAny_bind (wpAny_raiseErrorMade plainExc_ValueError hh (fun h' tk e he => hE h2 h' tk e hex he))
    | exact wpAny_bind (wpAny_raiseErrorWords plainExc_ValueError hh (fun h' tk e he => hE h2 h' tk e hex he))
end
end Mine
end
section
open PySem PySem.W PyProof.Rows PySem.Calls PySem.SeqAt
set_option Elab.async false
set_option linter.unusedVariables false
set_option maxRecDepth 100000
namespace Mine
section
variable {prog : Program} {w : World} {A : Around} {E : Value → Shared → Prop} {R : Result → Shared → Prop} {s : Shared}
noncomputable abbrev SetC (elt target iter : Expr) (scope : Scope) (pos : Pos) : Expr := .SetComp elt [⟨target, iter, [], 0⟩] scope pos
noncomputable abbrev RzC (prog : Program) (w : World) (A : Around) (env : Env) (R : Result → Shared → Prop) : Value → Shared → Prop := notedBy (model prog w) A env fun e s' => R (.error e) s'
theorem compTurn_set (elt target iter scope pos it acc env) :
    compTurn (SetC elt target iter scope pos) 0 it acc env = (do
      standAt iter.pos
      match ← pyNext it with
      | none => pure (.done .next)
      | some v =>
        letOwnedTupleGo target it v
        assign target env v
        (do let v ← eval elt env; standAt elt.pos; let _ ← call (.builtin "set.add") [acc, v])
        again (.compLoop (SetC elt target iter scope pos) 0 it acc env)) := by rfl
theorem setC_turn {elt target iter scope pos it acc env} (C : Shared → Prop)
    (h : wpAny (model prog w) A (pyNext it) (fun
      | none => R (.ok .next)
      | some v => wpAny (model prog w) A (assign target env v) (fun _ => wpAny (model prog w) A (eval elt env) (fun x => wpAny (model prog w) A (call (.builtin "set.add") [acc, x]) (fun _ => C) (RzC prog w A env R)) (RzC prog w A env R)) (RzC prog w A env R)) (RzC prog w A env R) s)
    (ht : ∀ v, letOwnedTupleGo target it v = pure ()) :
    wpAny (model prog w) A (compTurn (SetC elt target iter scope pos) 0 it acc env) (fun
      | .done f => R (.ok f)
      | .again c' => fun s' => c' = .compLoop (SetC elt target iter scope pos) 0 it acc env ∧ C s') (RzC prog w A env R) s := by
  rw [compTurn_set]
  have keep {α : Type} {t : Sem α} {Q Q' : α → Shared → Prop} {s : Shared} (x : wpAny (model prog w) A t Q (RzC prog w A env R) s) (f : ∀ a s, Q a s → Q' a s) : wpAny (model prog w) A t Q' (RzC prog w A env R) s := wpAny_mono x f fun _ _ q => q
  refine wpAny_bind (wpAny_standAt (wpAny_bind (keep h ?_)))
  rintro (_ | v) s₁ q
  · exact wpAny_pure q
  exact wpAny_bind (wpAny_of_eq (ht v) (wpAny_bind (keep q fun _ _ q => wpAny_bind (wpAny_bind (keep q fun _ _ q => wpAny_bind (wpAny_standAt (wpAny_bind (keep q fun _ _ q => wpAny_pure (wpAny_pure ⟨rfl, q⟩)))))))))
theorem codeAny_compLoop_S {elt target iter : Expr} {scope : Scope} {pos : Pos} {it acc : Value} {env : Env} (I : Nat → Shared → Prop)
    (turn : ∀ n s, I n s → wpAny (model prog w) A (pyNext it) (fun
      | none => R (.ok .next)
      | some v => wpAny (model prog w) A (assign target env v) (fun _ => wpAny (model prog w) A (eval elt env) (fun x => wpAny (model prog w) A (call (.builtin "set.add") [acc, x]) (fun _ s₅ => ∃ m, m < n ∧ I m s₅) (RzC prog w A env R)) (RzC prog w A env R)) (RzC prog w A env R)) (RzC prog w A env R) s)
    (n : Nat) (h : I n s) (ht : ∀ v, letOwnedTupleGo target it v = pure () := by intro _; rfl) :
    codeAny (model prog w) A (.compLoop (SetC elt target iter scope pos) 0 it acc env) R s :=
  codeAny_loop rfl I (fun n s hI => wpAny_noted (wpAny_mono (setC_turn _ (turn n s hI) ht) (by rintro (_ | _) _ q <;> exact q) fun _ _ q => q)) n h
theorem codeAny_compStart_S {elt target iter ifs rest scope pos it acc env}
    (h0 : codeAny (model prog w) A (.compLoop (.SetComp elt (⟨target, iter, ifs, 0⟩ :: rest) scope pos) 0 it acc env) R s)
    (h : wpAny (model prog w) A (pyIter it) (fun it' s' => codeAny (model prog w) A (.compLoop (.SetComp elt (⟨target, iter, ifs, 0⟩ :: rest) scope pos) 0 it' acc env) R s')
      (RzC prog w A env R) s) :
    codeAny (model prog w) A (.compStart (.SetComp elt (⟨target, iter, ifs, 0⟩ :: rest) scope pos) 0 it acc env) R s := by
  apply codeAny_of_tree
  apply wpAny_notedAt
  unfold compStart
  refine wpAny_bind (m := ask) (wpAny_askSetting (wpAny_ite ?_))
  split
  · exact wpAny_pure ⟨rfl, h0⟩
  · exact wpAny_bind (wpAny_rule (wpAny_bind (wpAny_standAt (wpAny_bind (wpAny_mono h (fun _ _ q => wpAny_pure ⟨rfl, q⟩) fun _ _ q => q)))))
end
section
variable {B : Base} {sc : Scope} {N : List Str} {X : FI B sc N} {σ : List Bnd} {A : Around}
inductive CmprB (X : FI B sc N) (bs : List Bnd) (elt : Expr) : List AV → List Bool → Prop
  | nil : CmprB X bs elt [] []
  | take {a : AV} {r : Bool} {as : List AV} {rs : List Bool} : Ex X (.val a :: bs) elt (.bool r) → CmprB X bs elt as rs → CmprB X bs elt (a :: as) (r :: rs)
/-- from the list's iterator on: the new list, the new frame, the turns -/
theorem comp_coreS {x : Str} {px : Pos} {elt iter : Expr} {scope : Scope} {pos : Pos} {ys : List Str} {bs : List Bnd} {xs : List AV} {rs : List Bool} {I : Addr} {fp : List Addr} {P : Nat → Value → Prop} {St : Nat → Heap → Prop} {G1 : View} {s1 s2 : Shared}
    {E : Value → Shared → Prop} {RR : Value → Env → Result → Shared → Prop}
    (W : Walks B.prog B.w X.A I fp [I] xs.length P St) (hP : ∀ k v b G', G1.le G' → P k v → xs[k]? = some b → VRel G' v b) (hn : xs.length ≤ sizeLine) (hcap : Caps N σ ys bs) (hok : okComp scope sc x ys = true)
    (h : ∀ X' : FI B (relab scope sc) (x :: ys), X'.lvl = X.lvl → X'.A = X.A → CmprB X' bs elt xs rs) (hokB : ∀ led k, okB (bset led (rs.take k)) = true)
    (Sa : Sat X G1 σ s1) (u2 : Up s1 s2 G1 G1) (hst : St 0 s2.heap) (hI : s1.heap.objs.size ≤ I) (hI2 : I < s2.heap.objs.size) (hfp : ∀ b ∈ fp, b = I ∨ (G1 b).isSome = true) (hm : ∀ k h, St k h → ∃ oI, h.get? I = some oI ∧ Obj.mute oI)
    (hRR : ∀ D C cl s' m' ep G', s1.heap.objs.size ≤ D → s1.heap.objs.size ≤ C → D ≠ C → s'.heap.Ns C m' → SetE s'.heap D (bset (!byT B.w) rs).1 ep (bset (!byT B.w) rs).2 → Up s1 s' G1 G' → G' C = none → G' D = none →
      RR (.ref D) { scope := relabel scope X.env, locals := C, globals := X.env.globals, cells := cl, qual := X.env.qual, func := none, code := X.env.code, frame := X.env.frame, builtins := X.env.builtins } (.ok .next) s') :
    wpAny (model B.prog B.w) X.A (newSet (.type "set")) (fun acc s₃ => wpAny (model B.prog B.w) X.A (newFunctionEnv scope X.env.globals (clOf X.env scope.names []) [] X.env.qual none .none (some X.env)) (fun cenv s₄ =>
      codeAny (model B.prog B.w) X.A (.compStart (.SetComp elt [⟨.Name x px, iter, [], 0⟩] scope pos) 0 (.ref I) acc { cenv with scope := relabel scope X.env }) (RR acc { cenv with scope := relabel scope X.env }) s₄) E s₃) E s2 := by
  have O := okC hok
  have hfreeC := O.freeC hcap X
  unfold newSet setsByText
  refine wpAny_bind (wpAny_bind (wpAny_askSetting (wpAny_pure ?_)))
  dsimp only
  simp only [newObj]
  refine wpAny_bind (wpAny_alloc (wpAny_pure ?_))
  refine (wpAny_newFunctionEnv (fun p hp => O.hcell p hp) (by intro y hy; cases hy) (fun h₁ hns₁ hsb₁ => ?_) O.hkind)
  dsimp only at hns₁ hsb₁ ⊢
  have hfold : (s2.heap.push { cls := .type "set", dict := none, data := .set #[] 0 (.fresh (finger := 0) (moves := 0) (led := !((model B.prog B.w).w.params.followText "set-order"))) }) = s2.heap.push { cls := .type "set", dict := none, data := .set #[] 0 (.fresh 0 0 (!byT B.w)) } := rfl
  rw [hfold] at hns₁ hsb₁
  rw [hfold]
  generalize hH2 : s2.heap.push { cls := .type "set", dict := none, data := .set #[] 0 (.fresh 0 0 (!byT B.w)) } = H2 at hns₁ hsb₁ ⊢
  have hC : H2.objs.size = s2.heap.objs.size + 1 := by rw [← hH2, Heap.size_push]
  have hD2 : H2.get? s2.heap.objs.size = some { cls := .type "set", dict := none, data := .set #[] 0 (.fresh 0 0 (!byT B.w)) } := by rw [← hH2]; exact Heap.get?_push_size _ rfl
  have old : ∀ b o, s2.heap.get? b = some o → h₁.get? b = some o := fun b o e => by
    have hb := Heap.lt_size e
    refine hsb₁.extBut b o (Nat.ne_of_lt (by rw [hC]; exact Nat.lt_succ_of_lt hb)) (Heap.get?_push_of_some _ ?_)
    rw [← hH2]; exact Heap.get?_push_of_some _ e
  have hDh : h₁.get? s2.heap.objs.size = some { cls := .type "set", dict := none, data := .set #[] 0 (.fresh 0 0 (!byT B.w)) } := hsb₁.extBut _ _ (Nat.ne_of_lt (by rw [hC]; exact Nat.lt_succ_self _)) (Heap.get?_push_of_some _ hD2)
  have hsz1 : s2.heap.objs.size + 2 ≤ h₁.objs.size := by
    rw [hsb₁.1, Heap.size_push, hC]; exact Nat.le_refl _
  have hlow : ∀ a, s1.heap.objs.size ≤ a → G1 a = none := fun a ha => by
    cases q : G1 a with
    | none => rfl
    | some o => exact absurd (Heap.lt_size (Sa.on _ _ q)) (Nat.not_lt.mpr ha)
  have hclL := clL hfreeC
  let cenv : Env := compEnvC scope (clOf X.env scope.names []) H2.objs.size X.env
  have hLge : s1.heap.objs.size ≤ H2.objs.size := by rw [hC]; exact Nat.le_succ_of_le u2.size
  let X' : FI B (relab scope sc) (x :: ys) := compFI X Sa O hfreeC H2.objs.size hLge
  have hCm := h X' rfl rfl
  have hxl : (relab scope sc).names.lookup x = some .local := O.hrx
  have hnoOwn : ∀ b : Bnd, b.isOwn = false → ∀ c ∈ b :: bs, c.isOwn = false := fun b hb c hc => by
    rcases List.mem_cons.mp hc with rfl | hc
    · exact hb
    · exact caps_noOwn hcap c hc
  have up1 : Up s1 { s2 with heap := h₁, toks := s2.toks + ([] : List (Str × Value)).length } G1 G1 :=
    ⟨⟨u2.keep.trans (.of old), Nat.le_trans u2.size (Nat.le_trans (Nat.le_add_right _ 2) hsz1), u2.gens, u2.os, G1.le_refl, fun b o e => old b o (u2.on b o e), fun a o e => .inl (by rw [e]; rfl)⟩, Nat.le_trans u2.tk (Nat.le_add_right _ _)⟩
  have S0 : Sat X' G1 (.no :: bs) { s2 with heap := h₁, toks := s2.toks + ([] : List (Str × Value)).length } := compFI_sat hcap up1 (hlow _ hLge) hns₁
  have hst₁ : St 0 h₁ := W.frame _ _ _ hst fun b _ o e => old b o e
  have hcl1 : ∀ y c, X'.env.cells.lookup y = some c → c < s1.heap.objs.size := fun y c hc => by
    obtain ⟨v, hv⟩ := Sa.cells y c (hclL y c hc)
    exact hv.lt
  have hID : I ≠ s2.heap.objs.size := Nat.ne_of_lt hI2
  have hIL : I ≠ X'.env.locals := by show I ≠ H2.objs.size; rw [hC]; exact Nat.ne_of_lt (Nat.lt_succ_of_lt hI2)
  have hDL : s2.heap.objs.size ≠ X'.env.locals := by show _ ≠ H2.objs.size; rw [hC]; exact Nat.ne_of_lt (Nat.lt_succ_self _)
  have hIC : ∀ y c, X'.env.cells.lookup y = some c → c ≠ I := fun y c hc => Nat.ne_of_lt (Nat.lt_of_lt_of_le (hcl1 y c hc) hI)
  have hDC : ∀ y c, X'.env.cells.lookup y = some c → c ≠ s2.heap.objs.size := fun y c hc => Nat.ne_of_lt (Nat.lt_of_lt_of_le (hcl1 y c hc) u2.size)
  have hfL : ∀ b ∈ fp, b ≠ X'.env.locals ∧ (∀ y c, X'.env.cells.lookup y = some c → b ≠ c) ∧ b ≠ s2.heap.objs.size := fun b hb => by
    rcases hfp b hb with rfl | h'
    · exact ⟨hIL, fun y c hc => Ne.symm (hIC y c hc), hID⟩
    · obtain ⟨o, ho⟩ := Option.isSome_iff_exists.mp h'
      have h1 : b < s1.heap.objs.size := Heap.lt_size (Sa.on _ _ ho)
      have h2 : ∀ y c, X.env.cells.lookup y = some c → b ≠ c := fun y c hc e => by rw [e, Sa.nC y c hc] at ho; cases ho
      refine ⟨?_, fun y c hc => h2 y c (hclL y c hc), Nat.ne_of_lt (Nat.lt_of_lt_of_le h1 u2.size)⟩
      show b ≠ H2.objs.size
      exact Nat.ne_of_lt (Nat.lt_of_lt_of_le h1 hLge)
  have fpk : ∀ {k : Nat} {s3 s5 : Shared} {G3 G5 : View}, G1.le G3 → G3.on s3.heap → Up s3 s5 G3 G5 → St k s3.heap → St k s5.heap := fun {k s3 s5 G3 G5} l3 o3 u hS => by
    refine W.frame _ _ _ hS fun b hb o e => ?_
    rcases hfp b hb with rfl | h'
    · obtain ⟨oI, h1, fs, h2⟩ := hm k _ hS
      rw [h1] at e; cases e
      exact u.keep.at_ h1 fun es n q => by rw [h2] at q; cases q
    · obtain ⟨o', ho'⟩ := Option.isSome_iff_exists.mp h'
      have e3 := o3 _ _ (l3 _ _ ho')
      rw [e3] at e; cases e
      exact u.on _ _ (u.le _ _ (l3 _ _ ho'))
  let Inv : Nat → Shared → Prop := fun n s' => Pk6 fun k b0 Gk rk n' r' => C11 (n = xs.length - k) (k ≤ xs.length) (b0.isOwn = false) (Sat X' Gk (b0 :: bs) s') (St k s'.heap) (SetE s'.heap s2.heap.objs.size (bset (!byT B.w) rk).1 n' (bset (!byT B.w) rk).2)
    (Gk s2.heap.objs.size = none) (Gk I = none) (s2.heap.objs.size < s'.heap.objs.size) (rs = rk ++ r') (CmprB X' bs elt (xs.drop k) r')
  have loop : codeAny (model B.prog B.w) X.A (.compLoop (.SetComp elt [⟨.Name x px, iter, [], 0⟩] scope pos) 0 (.ref I) (.ref s2.heap.objs.size) cenv) (RR (.ref s2.heap.objs.size) cenv) { s2 with heap := h₁, toks := s2.toks + ([] : List (Str × Value)).length } := by
    refine codeAny_compLoop_S (fun n s' => Inv n s') ?_ xs.length
      ⟨0, .no, G1, [], 0, rs, rfl, Nat.zero_le _, rfl, S0, hst₁, hDh, hlow _ u2.size, hlow _ hI, by show _ < h₁.objs.size; omega, rfl, hCm⟩
    rintro n s' ⟨k, b0, Gk, rk, n', r', rfl, hk, hb0, Sk, hSk, hD, hGD, hGI, hDs, hrs, hCk⟩
    by_cases hlt : k < xs.length
    · obtain ⟨b, hb⟩ : ∃ b, xs[k]? = some b := ⟨xs[k], by simp [hlt]⟩
      have hdrop : xs.drop k = b :: xs.drop (k + 1) := by
        rw [List.drop_eq_getElem_cons hlt]
        congr 1
        simpa [hlt] using hb
      rw [hdrop] at hCk
      refine wp_tk (W.item k s' _ _ hlt hSk fun v hh1 tk1 hPv hS1 hk1 htk => ?_)
      have S1 := Sk.touchN (tk := tk1) hIL hIC (hnoOwn b0 hb0) hGI hI (fun b o hb e => hk1 b o (by simpa using hb) e) htk
      have hD1 : SetE hh1 s2.heap.objs.size (bset (!byT B.w) rk).1 n' (bset (!byT B.w) rk).2 := hk1 _ _ (by simpa using hID.symm) hD
      have rv : VRel Gk v b := hP k v b Gk Sk.up.le hPv hb
      refine wpAny_assign_Name (store' S1 At.here (.inl hxl) rv fun s3 S3 hk3 => ?_)
      have S3' : Sat X' Gk (.val b :: bs) s3 := S3
      have hD3 : SetE s3.heap s2.heap.objs.size (bset (!byT B.w) rk).1 n' (bset (!byT B.w) rk).2 := hk3 _ _ hDL (fun y c hc => Ne.symm (hDC y c hc)) hD1
      have hS3 : St (k + 1) s3.heap := W.frame _ _ _ hS1 fun b hb o e => hk3 b o (hfL b hb).1 (hfL b hb).2.1 e
      have hlt3 : s2.heap.objs.size < s3.heap.objs.size := Heap.lt_size hD3
      have again : ∀ {rk' rr G4 n'' s4}, Sat X' G4 (.val b :: bs) s4 → St (k + 1) s4.heap → SetE s4.heap s2.heap.objs.size (bset (!byT B.w) rk').1 n'' (bset (!byT B.w) rk').2 → G4 s2.heap.objs.size = none → G4 I = none →
          rs = rk' ++ rr → CmprB X' bs elt (xs.drop (k + 1)) rr →
          ∃ m, m < xs.length - k ∧ Inv m s4 := fun {rk' rr G4 n'' s4} h1 h2 h3 h4 h5 h7 h8 =>
        ⟨xs.length - (k + 1), Nat.sub_lt_sub_left hlt (Nat.lt_succ_self k), k + 1, .val b, G4, rk', n'', rr, rfl, hlt, rfl, h1, h2, h3, h4, h5, Heap.lt_size h3, h7, h8⟩
      have hIs3 : I < s3.heap.objs.size := Nat.lt_trans hI2 hlt3
      cases hCk with
      | take helt hrest =>
        rename_i r rr
        refine helt.run Gk s3 _ _ S3' fun v5 s5 G5 u5 r5 => ?_
        cases r5
        have hD5 : SetE s5.heap s2.heap.objs.size (bset (!byT B.w) rk).1 n' (bset (!byT B.w) rk).2 := u5.keep.at_ hD3 (fun es n q => by cases q)
        have hG5D := u5.toUp0.still hGD hlt3
        have hG5I := u5.toUp0.still hGI hIs3
        have hS5 : St (k + 1) s5.heap := fpk Sk.up.le S3'.on u5 hS3
        have hkB : okB (bset (!byT B.w) rk) = true := by
          have := hokB (!byT B.w) rk.length
          rwa [hrs, List.take_left'  rfl] at this
        refine call_set_addB (st := bset (!byT B.w) rk) ⟨n', hD5⟩ hkB fun h6 hsb hS6 => ?_
        obtain ⟨n6, hD6⟩ := hS6
        have hD6' : SetE h6 s2.heap.objs.size (bset (!byT B.w) (rk ++ [r])).1 n6 (bset (!byT B.w) (rk ++ [r])).2 := by
          have e : bset (!byT B.w) (rk ++ [r]) = bAdd (bset (!byT B.w) rk) r := by unfold bset; rw [List.foldl_append]; rfl
          rw [e]; exact hD6
        refine again ((S3'.upd u5).touchN (tk := s5.toks + 1) hDL hDC (hnoOwn _ rfl) hG5D u2.size (fun b o hb e => (hsb.2 b hb).trans e) (Nat.le_succ _)) ?_ hD6' hG5D hG5I (by rw [hrs]; simp) hrest
        exact W.frame _ _ _ hS5 fun b hb o e => (hsb.2 b (hfL b hb).2.2).trans e
    · have hke : k = xs.length := Nat.le_antisymm hk (Nat.le_of_not_lt hlt)
      subst hke
      rw [List.drop_length] at hCk
      cases hCk
      refine wp_tk (W.done s' _ _ hSk fun hh1 tk1 hk1 htk => ?_)
      have S1 := Sk.touchN (tk := tk1) hIL hIC (hnoOwn b0 hb0) hGI hI (fun b o hb e => hk1 b o (by simpa using hb) e) htk
      obtain ⟨m1, hm1, _⟩ := S1.ns
      exact hRR s2.heap.objs.size H2.objs.size (clOf X.env scope.names []) _ m1 n' Gk u2.size hLge hDL hm1 (hk1 _ _ (by simpa using hID.symm) (by rw [hrs, List.append_nil]; exact hD)) S1.up S1.nL hGD
  exact codeAny_compStart_S loop (W.self 0 _ _ _ hst₁ loop)
end
end Mine
end
section
open PySem PySem.W PyProof.Rows PySem.Calls PySem.SeqAt
set_option Elab.async false
set_option linter.unusedVariables false
set_option maxRecDepth 100000
namespace Mine
noncomputable def Fl (base : Heap) (e : Addr) (h : Heap) (vs : Array Value) : Option Value → Prop
  | none => vs[1]? = some .none
  | some f => Pk3 fun T oT ts => C6 (vs[1]? = some (.ref T)) (base.get? T = none) (T ≠ e) (h.get? T = some oT) (oT.data = .fields ts) (ts[3]? = some f)
/-- a ValueError, on its way or in a handler's hand -/
structure XAt (base : Heap) (l : List Env) (e : Addr) (c : Value) (fl : Option Value) (h : Heap) : Prop where
  stay : base.StaysIn h
  new : base.get? e = none
  fr : h.FunFrames base l
  ob : Pk3 fun oe vs a0 => C6 (h.get? e = some oe) (oe.cls = .type "ValueError") (oe.data = .fields vs) (vs[0]? = some a0) (vs[2]? = some c) (Fl base e h vs fl)
section
variable {M : Model} {A : Around} {E : Value → Shared → Prop} {s : Shared} {base : Heap} {env : Env} {outer l : List Env} {L e : Addr} {c : Value}

/-- what is no record stands elsewhere -/
theorem rec_ne {h : Heap} {a b : Addr} {o o' : Obj} {vs : Array Value} (ha : h.get? a = some o) (hd : o.data = .fields vs) (hb : h.get? b = some o') (hn : ∀ vs, o'.data ≠ .fields vs) : b ≠ a := by
  rintro rfl
  cases ha.symm.trans hb
  exact hn _ hd
/-- a record's place is written -/
theorem rec_put {h : Heap} {a : Addr} {o : Obj} {vs : Array Value} (i : Nat) (v : Value) (ha : h.get? a = some o) (hd : o.data = .fields vs) {h' : Heap} (e : h' = h.update a (Obj.mapFields (·.setIfInBounds i v))) :
    (∀ b, b ≠ a → h'.get? b = h.get? b) ∧ h.UpToSlots h' ∧ ∃ o', h'.get? a = some o' ∧ o'.cls = o.cls ∧ o'.data = .fields (vs.setIfInBounds i v) := by
  subst e
  have same : ∀ b, b ≠ a → (h.update a (Obj.mapFields (·.setIfInBounds i v))).get? b = h.get? b := fun b n => Heap.get?_update_other _ _ n.symm
  have dat := Obj.data_mapFields hd (·.setIfInBounds i v)
  exact ⟨same, fun b o hb n => ⟨o.slots, (same b (rec_ne ha hd hb n)).trans hb⟩, _, Heap.get?_update_self _ ha (Obj.isFreed_of_fields dat), Obj.cls_mapFields _ _, dat⟩
theorem XAt.slots {fl : Option Value} {h h' : Heap} (x : XAt base l e c fl h) (y : Heap.SlotsOnly (l.filterMap (·.frame)) h h') : XAt base l e c fl h' := by
  obtain ⟨kb, ne, fr, oe, vs, a0, he, hcl, hd, h0, h2, t⟩ := x
  have stays : ∀ {a o vs}, h.get? a = some o → o.data = .fields vs → h'.get? a = some o := fun ha hd => (y.2.1 _ fun m => by
    obtain ⟨_, _, p, q⟩ := fr.mem m
    exact rec_ne ha hd p q rfl).trans ha
  refine ⟨fun b o hb => (y.2.1 b fun m => ?_).trans (kb b o hb), ne, fr.of_keeps fun b o hb _ => let ⟨_, q⟩ := y.2.2 b o hb; ⟨_, q, rfl⟩, oe, vs, a0, stays he hd, hcl, hd, h0, h2, ?_⟩
  · exact nomatch hb.symm.trans (fr.mem m).1
  · cases fl with
    | none => exact t
    | some f =>
      obtain ⟨T, oT, ts, p1, p2, p3, p4, p5, p6⟩ := t
      exact ⟨T, oT, ts, p1, p2, p3, stays p4 p5, p5, p6⟩
theorem XAt.push {fl : Option Value} {h : Heap} (x : XAt base l e c fl h) (o : Obj) : XAt base l e c fl (h.push o) := by
  obtain ⟨hkb, hen, hl, oe, vs, a0, he, hcl, hd, h0, h2, hF⟩ := x
  refine ⟨fun b o' e => Heap.get?_push_of_some _ (hkb b o' e), hen, hl.of_keeps fun b o' hb _ => ⟨o', Heap.get?_push_of_some _ hb, rfl⟩, oe, vs, a0, Heap.get?_push_of_some _ he, hcl, hd, h0, h2, ?_⟩
  cases fl with
  | none => exact hF
  | some f =>
    obtain ⟨T, oT, ts, h1, hnT, hTe, hT, r, r2⟩ := hF
    exact ⟨T, oT, ts, h1, hnT, hTe, Heap.get?_push_of_some _ hT, r, r2⟩
theorem XAt.set1 {fl : Option Value} {f : Value} {h h' : Heap} {T : Addr} {oT oe : Obj} {ts vs : Array Value} (x : XAt base l e c fl h) (nT : base.get? T = none) (ne : T ≠ e) (hT : h.get? T = some oT) (dT : oT.data = .fields ts) (t3 : ts[3]? = some f)
    (he : h.get? e = some oe) (hd : oe.data = .fields vs) (n : 1 < vs.size) (q : h' = h.update e (Obj.mapFields (·.setIfInBounds 1 (.ref T)))) : XAt base l e c (some f) h' ∧ h.UpToSlots h' := by
  obtain ⟨kb, nb, fr, oe', vs', a0, he', hcl, hd', h0, h2, -⟩ := x
  cases he.symm.trans he'
  cases hd.symm.trans hd'
  obtain ⟨same, up, o, g1, g2, g3⟩ := rec_put 1 (.ref T) he hd q
  refine ⟨⟨fun b o hb => (same b ?_).trans (kb b o hb), nb, fr.of_keeps (fun b o hb n => let ⟨_, r⟩ := up b o hb n; ⟨_, r, rfl⟩), o, _, a0, g1, g2.trans hcl, g3, ?_, ?_, T, oT, ts, ?_, nT, ne, (same T ne).trans hT, dT, t3⟩, up⟩
  · rintro rfl
    exact nomatch hb.symm.trans nb
  · rwa [Array.getElem?_setIfInBounds_ne (by decide)]
  · rwa [Array.getElem?_setIfInBounds_ne (by decide)]
  · simp [n]
theorem XAt.set3 {f₀ f : Value} {h h' : Heap} {T : Addr} {oT oe : Obj} {ts vs : Array Value} (x : XAt base l e c (some f₀) h) (he : h.get? e = some oe) (hd : oe.data = .fields vs) (h1 : vs[1]? = some (.ref T)) (hT : h.get? T = some oT) (dT : oT.data = .fields ts)
    (q : h' = h.update T (Obj.mapFields (·.setIfInBounds 3 f))) : XAt base l e c (some f) h' ∧ h.UpToSlots h' := by
  obtain ⟨kb, nb, fr, oe', vs', a0, he', hcl, hd', h0, h2, T', oT', ts', p1, p2, p3, p4, p5, p6⟩ := x
  cases he.symm.trans he'
  cases hd.symm.trans hd'
  cases h1.symm.trans p1
  cases hT.symm.trans p4
  cases dT.symm.trans p5
  obtain ⟨same, up, o, g1, g2, g3⟩ := rec_put 3 f hT dT q
  have n : 3 < ts.size := (Array.getElem?_eq_some_iff.mp p6).1
  refine ⟨⟨fun b o hb => (same b ?_).trans (kb b o hb), nb, fr.of_keeps (fun b o hb n => let ⟨_, r⟩ := up b o hb n; ⟨_, r, rfl⟩), oe, vs, a0, (same e p3.symm).trans he, hcl, hd, h0, h2, T, o, _, h1, p2, p3, g1, g3, ?_⟩, up⟩
  · rintro rfl
    exact nomatch hb.symm.trans p2
  · simp [n]
/-- an entry for the frame is laid at the front -/
theorem x_entry {fl : Option Value} {oe : Obj} {vs : Array Value} {head : Value} {hadNext : Bool} {Q : Unit → Shared → Prop} (hfr : A.frames = some (env :: outer)) (hf : env.frame = some L) (x : XAt base (env :: outer) e c fl s.heap)
    (he : s.heap.get? e = some oe) (hd : oe.data = .fields vs) (n : 1 < vs.size) (h : ∀ h', XAt base (env :: outer) e c (some (rawInt L)) h' → s.heap.UpToSlots h' → Q () { s with heap := h' }) :
    wpAny M A (do let a ← frameOf env; let pl ← entryPlaceOf L hadNext; let b ← EntryCells.newEntry head a .none (rawInt L) .none pl; setField (.ref e) 1 b) Q E s := by
  refine wpAny_bind (wpAny_frameOf_fun hfr x.fr hf fun h₁ y => wpAny_bind (wpAny_entryPlaceOf fun pl place => wpAny_bind (m := EntryCells.newEntry _ _ _ _ _ _) (wpAny_newObj_type ?_ (place.sizeOk5 _ _ _ _ _))))
  have x₁ := x.slots y
  have he₁ : h₁.get? e = some oe := (y.2.1 e fun m => by
    obtain ⟨_, _, p, q⟩ := x.fr.mem m
    exact rec_ne he hd p q rfl).trans he
  refine wpAny_setField (Heap.get?_push_of_some _ he₁) hd n ?_
  have t3 (a : Value) : ([head, a, .none, rawInt L, .none] ++ (if pl.isEmpty then List.replicate 6 Value.none else pl)).toArray[3]? = some (rawInt L) := by simp
  have z (o : Obj) {ts : Array Value} (q : o.data = .fields ts) (t : ts[3]? = some (rawInt L)) := (x₁.push o).set1 x₁.stay.fresh (Nat.ne_of_gt (Heap.lt_size he₁)) (Heap.get?_push_size h₁ (Obj.isFreed_of_fields q)) q t (Heap.get?_push_of_some o he₁) hd n rfl
  exact h _ (z _ rfl (t3 _)).1 ((Heap.UpToSlots.trans (fun b o hb _ => y.2.2 b o hb) (Heap.UpToSlots.of_keeps fun b o hb => Heap.get?_push_of_some _ hb)).trans (z _ rfl (t3 _)).2)
/-- the frame is noted -/
theorem x_note {fl : Option Value} {Q : Unit → Shared → Prop} (hfr : A.frames = some (env :: outer)) (hf : env.frame = some L) (x : XAt base (env :: outer) e c fl s.heap) (hfl : fl = none ∨ fl = some .none ∨ fl = some (rawInt L))
    (h : ∀ h', XAt base (env :: outer) e c (some (rawInt L)) h' → s.heap.UpToSlots h' → Q () { s with heap := h' }) : wpAny M A (noteFrame (.ref e) env) Q E s := by
  obtain ⟨oe, vs, a0, he, hcl, hd, h0, h2, hF⟩ := x.ob
  have big {v : Value} (h1 : vs[1]? = some v) : 1 < vs.size := (Array.getElem?_eq_some_iff.mp h1).1
  unfold noteFrame
  simp only [hf]
  have tb (T : Addr) : (Value.ref T != Value.none) = true := by simp
  rcases hfl with rfl | rfl | rfl
  · refine wpAny_bind (wpAny_field he hd hF ?_)
    exact x_entry hfr hf x he hd (big hF) h
  all_goals
    obtain ⟨T, oT, ts, h1, nT, ne, hT, hdT, h3⟩ := hF
    refine wpAny_bind (wpAny_field he hd h1 ?_)
    rw [if_pos (tb T)]
    refine wpAny_bind (wpAny_field hT hdT h3 ?_)
  · rw [if_neg (by simp [rawInt])]
    obtain ⟨x₁, up⟩ := x.set3 (f := .none) he hd h1 hT hdT rfl
    refine wpAny_bind (wpAny_setField hT hdT (Array.getElem?_eq_some_iff.mp h3).1 ?_)
    exact x_entry hfr hf x₁ ((Heap.get?_update_other _ _ ne).trans he) hd (big h1) fun h' x' u' => h h' x' (up.trans u')
  · rw [if_pos (by simp)]
    exact wpAny_pure (h _ x (Heap.UpToSlots.refl _))
/-- and it stands, or flies again -/
theorem x_flight {f : Value} {fr : Option Addr} {Q : Unit → Shared → Prop} (x : XAt base l e c (some f) s.heap)
    (h : ∀ h', XAt base l e c (some (fr.elim .none fun f => rawInt f)) h' → s.heap.UpToSlots h' → Q () { s with heap := h' }) : wpAny M A (setFlight (.ref e) fr) Q E s := by
  obtain ⟨oe, vs, a0, he, -, hd, -, -, T, oT, ts, h1, -, -, hT, hdT, h3⟩ := x.ob
  unfold setFlight
  refine wpAny_bind (wpAny_field he hd h1 ?_)
  obtain ⟨x₁, up⟩ := x.set3 (f := fr.elim .none fun f => rawInt f) he hd h1 hT hdT rfl
  rw [if_pos (by simp)]
  exact wpAny_setField hT hdT (Array.getElem?_eq_some_iff.mp h3).1 (h _ x₁ up)
theorem x_leave {fl : Option Value} {Q : Unit → Shared → Prop} (hfr : A.frames = some (env :: outer)) (hf : env.frame = some L) (x : XAt base (env :: outer) e c fl s.heap) (hfl : fl = none ∨ fl = some .none ∨ fl = some (rawInt L))
    (h : ∀ h', XAt base outer e c (some .none) h' → s.heap.UpToSlots h' → Q () { s with heap := h' }) : wpAny M A (leaving env (.ref e)) Q E s := by
  unfold leaving
  refine wpAny_bind (x_note hfr hf x hfl fun h1 x1 u1 => ?_)
  refine x_flight x1 fun h2 x2 u2 => ?_
  exact h h2 ⟨x2.stay, x2.new, x2.fr.2.2, x2.ob⟩ (u1.trans u2)
theorem XAt.typeIs {fl : Option Value} (x : XAt base l e c fl s.heap) : s.TypeIs (.ref e) "ValueError" := by
  obtain ⟨oe, vs, a0, he, hcl, _⟩ := x.ob
  exact ⟨oe, he, hcl⟩
theorem XAt.tbIs {f : Value} (x : XAt base l e c (some f) s.heap) : ∃ oe vs T, s.heap.get? e = some oe ∧ oe.data = .fields vs ∧ vs[1]? = some (.ref T) := by
  obtain ⟨oe, vs, a0, he, hcl, hd, _, _, T, _, _, h1, _⟩ := x.ob
  exact ⟨oe, vs, T, he, hd, h1⟩
/-- no clause fits -/
theorem x_passOn {f : Value} {what : String} {Q : Flow → Shared → Prop} (hf : env.frame = some L) (x : XAt base l e c (some f) s.heap)
    (h : ∀ h', XAt base l e c (some (rawInt L)) h' → s.heap.UpToSlots h' → E (.ref e) { s with heap := h' }) : wpAny M A (PySem.passOn what (.ref e) env) Q E s := by
  obtain ⟨oe, vs, T, he, hd, h1⟩ := x.tbIs
  unfold PySem.passOn
  refine wpAny_bind (wpAny_field he hd h1 ?_)
  rw [if_neg (by simp)]
  refine wpAny_bind (x_flight x fun h' x1 u1 => wpAny_throw ?_)
  rw [hf] at x1
  exact h h' x1 u1
end
end Mine
end
section
open PySem PySem.W PyProof.Rows PySem.Calls PySem.SeqAt
set_option Elab.async false
set_option linter.unusedVariables false
set_option maxRecDepth 100000
namespace Mine
theorem Up.shrink {s s' : Shared} {G G' : View} (u : Up s s' G G') : Up s s' G G :=
  ⟨⟨u.keep, u.size, u.gens, u.os, G.le_refl, fun a o e => u.on a o (u.le a o e), fun a o e => .inl (by rw [e]; rfl)⟩, u.tk⟩
/-- what a base of the frames holds -/
noncomputable def Based (base h : Heap) (G : View) : Prop := ∀ b o, h.get? b = some o → base.get? b = some o ∨ (cut ≤ b ∧ G b = none ∧ ∃ es n, o.data = .dict es n)
theorem Based.back {base : Heap} {s s1 : Shared} {G G1 : View} (x : Based base s1.heap G1) (u : Up s s1 G G1) (hG : G.on s.heap) : Based base s.heap G := fun b o e => by
  obtain ⟨sl, e1, k1⟩ := u.keep b o e
  by_cases hd : cut ≤ b ∧ ∃ es n, o.data = .dict es n
  · obtain ⟨hc, es, n, hd⟩ := hd
    cases q : G b with
    | none => exact .inr ⟨hc, rfl, es, n, hd⟩
    | some o' =>
      have e3 := hG b o' q
      rw [e] at e3; cases e3
      have e2 := u.on b o (u.le b o q)
      rcases x b o e2 with h | ⟨_, h, _⟩
      · exact .inl h
      · rw [u.le b o q] at h; cases h
  · have hs : sl = o.slots := k1 (by
      rcases Nat.lt_or_ge b cut with h | h
      · exact .inl h
      · exact .inr fun es n q => hd ⟨h, es, n, q⟩)
    rw [hs] at e1
    rcases x b o e1 with h | ⟨h1, _, h2⟩
    · exact .inl h
    · exact absurd ⟨h1, h2⟩ hd
/-- the heap's next state, when the base stays -/
theorem Up.stepX {base : Heap} {s₀ s : Shared} {h' : Heap} {G₀ : View} {tk : Nat} (u : Up s₀ s G₀ G₀) (hb : Based base s₀.heap G₀) (hon : G₀.on s₀.heap) (k : base.StaysIn h') (sm : s.heap.UpToSlots h') (hs : s.heap.objs.size ≤ h'.objs.size) (htk : s.toks ≤ tk) : Up s₀ { s with heap := h', toks := tk } G₀ G₀ := by
  refine ⟨⟨fun b o e => ?_, Nat.le_trans u.size hs, u.gens, u.os, G₀.le_refl, fun a o e => ?_, fun a o e => .inl (by rw [e]; rfl)⟩, Nat.le_trans u.tk htk⟩
  · rcases hb b o e with h | ⟨hc, _, es, n, hd⟩
    · exact ⟨o.slots, k b o h, fun _ => rfl⟩
    · obtain ⟨sl, e1, _⟩ := u.keep b o e
      obtain ⟨sl', e2⟩ := sm b _ e1 fun vs q => by rw [show ({ o with slots := sl } : Obj).data = o.data from rfl, hd] at q; cases q
      exact ⟨sl', e2, fun q => by
        rcases q with q | q
        · exact absurd q (Nat.not_lt.mpr hc)
        · exact absurd hd (q es n)⟩
  · rcases hb a o (hon a o e) with h | ⟨_, h, _⟩
    · exact k a o h
    · rw [h] at e; cases e

noncomputable def topL (fs : List Env) : Option Addr := fs.head?.bind (·.frame)
noncomputable def FlOk (fs : List Env) (fl : Option Value) : Prop := fl = none ∨ fl = some .none ∨ ∃ L, topL fs = some L ∧ fl = some (rawInt L)
/-- raised -/
structure Rz (A : Around) (s₀ : Shared) (G₀ : View) (v : Value) (s' : Shared) : Prop where
  up : Up s₀ s' G₀ G₀
  on₀ : G₀.on s₀.heap
  ex : ∃ e base fs c fl, v = .ref e ∧ A.frames = some fs ∧ XAt base fs e c fl s'.heap ∧ FlOk fs fl ∧ Based base s₀.heap G₀
theorem Rz.back {A : Around} {s s1 s' : Shared} {G G1 : View} {v : Value} (x : Rz A s1 G1 v s') (u : Up s s1 G G1) (hG : G.on s.heap) : Rz A s G v s' := by
  obtain ⟨e, base, fs, c, fl, h1, h2, h3, h4, h5⟩ := x.ex
  exact ⟨u.shrink.trans ⟨⟨x.up.keep, x.up.size, x.up.gens, x.up.os, G.le_refl, fun a o e => x.up.on a o (u.le a o e), fun a o e => .inl (by rw [e]; rfl)⟩, x.up.tk⟩, hG, e, base, fs, c, fl, h1, h2, h3, h4, h5.back u hG⟩

noncomputable def addrsOf (fs : List Env) : List Addr := fs.filterMap (·.frame)
theorem FramesOk.fun_ {A : Around} {G : View} {h h' : Heap} (x : FramesOk A G h) (k : h.StaysIn h') : ∃ fs, A.frames = some fs ∧ (hideAll h (addrsOf fs)).StaysIn h' ∧ h'.FunFrames (hideAll h (addrsOf fs)) fs ∧ Based (hideAll h (addrsOf fs)) h G := by
  obtain ⟨fs, h1, h2⟩ := x
  have hin : ∀ e ∈ fs, ∀ a, e.frame = some a → a ∈ addrsOf fs := fun e he a ha => List.mem_filterMap.mpr ⟨e, he, ha⟩
  refine ⟨fs, h1, fun b o e => k b o (of_hideAll _ e), ?_, fun b o e => ?_⟩
  · have key : ∀ l : List Env, (∀ e ∈ l, e ∈ fs) → h'.FunFrames (hideAll h (addrsOf fs)) l := by
      intro l
      induction l with
      | nil => intro _; trivial
      | cons env r ih =>
        intro hm
        obtain ⟨h3, L, o, es, n, h4, h5, hG, h6, h7⟩ := h2 env (hm env (.head _))
        exact ⟨h3, ⟨L, o, h4, hideAll_none _ (hin env (hm env (.head _)) L h4), k L o h6, fun vs q => by rw [h7] at q; cases q⟩, ih fun e he => hm e (.tail _ he)⟩
    exact key fs fun e he => he
  · by_cases hb : b ∈ addrsOf fs
    · obtain ⟨env, he, hf⟩ := List.mem_filterMap.mp hb
      obtain ⟨h3, L, o', es, n, h4, h5, hG, h6, h7⟩ := h2 env he
      rw [hf] at h4; cases h4
      rw [e] at h6; cases h6
      exact .inr ⟨h5, hG, es, n, h7⟩
    · exact .inl (hideAll_get _ e hb)
/-- a new ValueError -/
theorem x_made {A : Around} {G : View} {s : Shared} {h' : Heap} {e : Addr} (x : FramesOk A G s.heap) (hx : Heap.NewExc s.heap h' e "ValueError") : ∃ base fs, A.frames = some fs ∧ XAt base fs e .none none h' ∧ Based base s.heap G := by
  obtain ⟨fs, h1, h2, h3, h4⟩ := x.fun_ (h' := h') hx.keeps
  obtain ⟨ob, t, he, hc, hd⟩ := hx.there
  refine ⟨_, fs, h1, ⟨h2, ?_, h3, ob, _, t, he, hc, hd, rfl, rfl, rfl⟩, h4⟩
  cases q : (hideAll s.heap (addrsOf fs)).get? e with
  | none => rfl
  | some o => have := of_hideAll _ q; rw [hx.new] at this; cases this
section
variable {B : Base} {sc : Scope} {N : List Str} {X : FI B sc N} {σ : List Bnd} {A : Around}
structure ExR (X : FI B sc N) (σ : List Bnd) (e : Expr) : Prop where
  run :
  ∀ (G : View) (s : Shared) (Q : Value → Shared → Prop) (E : Value → Shared → Prop), Sat X G σ s →
    (∀ v s', Rz X.A s G v s' → E v s') → wpAny (model B.prog B.w) X.A (eval e X.env) Q E s
structure SxR (X : FI B sc N) (σ : List Bnd) (ss : List Stmt) : Prop where
  run :
  ∀ (G : View) (s : Shared) (Q : Flow → Shared → Prop) (E : Value → Shared → Prop), Sat X G σ s →
    (∀ v s', Rz X.A X.s₀ X.G₀ v s' → E v s') → wpAny (model B.prog B.w) X.A (execs ss X.env) Q E s
structure S1R (X : FI B sc N) (σ : List Bnd) (st : Stmt) : Prop where
  run :
  ∀ (G : View) (s : Shared) (Q : Flow → Shared → Prop) (E : Value → Shared → Prop), Sat X G σ s →
    (∀ v s', Rz X.A X.s₀ X.G₀ v s' → E v s') → wpAny (model B.prog B.w) X.A (exec st X.env) Q E s
noncomputable def FnR (B : Base) (f : Value) (lvl : Nat) (args : List AV) : Prop :=
  ∀ (A : Around) (G : View) (s : Shared) (vs : List Value) (Q : Value → Shared → Prop) (E : Value → Shared → Prop),
    A.handled = none → A.depth + lvl < recursionLimit → A.units + 8 * lvl + 200 < cLine → Tp B s.heap → FramesOk A G s.heap → 1 ≤ s.toks → G.on s.heap → VRels G vs args →
    (∀ v s', Rz A s G v s' → E v s') → wpAny (model B.prog B.w) A (call f vs) Q E s
theorem sxR_cons {st : Stmt} {r : List Stmt} {τ : List Bnd} (h : S1 X σ st (.next τ)) (h' : SxR X τ r) : SxR X σ (st :: r) := .mk fun G s Q E Sa kk =>
  wpAny_execs_cons (h.run G s _ E Sa fun fl s1 G1 l1 f1 => by
    cases fl with
    | next => exact h'.run G1 s1 Q E f1 kk
    | _ => exact f1.elim)
theorem sxR_one {st : Stmt} {r : List Stmt} (h : S1R X σ st) : SxR X σ (st :: r) := .mk fun G s Q E Sa kk => wpAny_execs_cons (h.run G s _ E Sa kk)
end
end Mine
end
section
open PySem PySem.W PyProof.Rows PySem.Calls PySem.SeqAt
set_option Elab.async false
set_option linter.unusedVariables false
set_option maxRecDepth 100000
namespace Mine
section
variable {B : Base}
theorem fn_introR {f : Addr} {fd : FuncData} {body : List Stmt} {ps rest : List Str} {l : Nat} {args args' : List AV}
    (D : FnDef B.K f fd body) (hN : okNames fd.scope (ps ++ rest) = true) (hb : BindsBy B fd ps args args') (hlen : args'.length = ps.length)
    (h : ∀ X : FI B fd.scope (ps ++ rest), Inn X → X.lvl = l → SxR X (start args' rest.length) body) : FnR B (.ref f) (l + 1) args := fun A G s vs Q E hh hd hu T fr ht hG rv kk =>
  fn_core D hN hb hlen hh hd hu T fr ht hG rv fun X s2 h1 h2 h3 h4 h5 u1 S0 => (h X ⟨h1, h3, let ⟨o, _, q⟩ := h4; ⟨o, q⟩, h5⟩ h2).run X.G₀ s2 _ _ S0 fun v s3 z => by
    obtain ⟨outer, ho, hfr⟩ := h4
    obtain ⟨e, base, fs, c, fl, rfl, hfs, hx, hfl, hbs⟩ := z.ex
    rw [hfr] at hfs; cases hfs
    refine wp_sz (x_leave hfr h5 hx (by
      rcases hfl with h | h | ⟨L, h, h'⟩
      · exact .inl h
      · exact .inr (.inl h)
      · have h' := h'
        rw [show topL (X.env :: outer) = X.env.frame from rfl, h5] at h; cases h
        exact .inr (.inr h')) fun h' x' sm hsz => kk _ _ ?_)
    refine Rz.back (s1 := X.s₀) (G1 := X.G₀) ⟨z.up.stepX hbs h3 x'.stay sm hsz (Nat.le_refl _), h3, e, base, outer, c, _, rfl, ho, x', .inr (.inl rfl), hbs⟩ u1 hG
theorem fn_goC {f : Addr} {name qual : Str} {params : Arguments} {body : List Stmt} {sc : Scope} {g : Addr} {cl : List (Str × Addr)} {dv kv doc pm cd ct : Value} {an : Option Addr} {bl : Addr} {ps rest N : List Str} {σ : List Bnd} {l : Nat} {args args' : List AV} {r : AV}
    (ex : ∃ oc od osl, B.K.lookup f = some ⟨oc, od, .func ⟨name, qual, params, .stmts body, sc, g, cl, dv, kv, doc, pm, an, cd, ct, bl⟩, osl⟩)
    (code : codeIn B.K cd qual = true) (hf : (cl, g, bl, sc.isCoroutine, sc.isGenerator, sc.kind) = ([], mainGlobals, builtinsNs, false, false, ScopeKind.function))
    (hb : BindsBy B ⟨name, qual, params, .stmts body, sc, g, cl, dv, kv, doc, pm, an, cd, ct, bl⟩ ps args args') (hNe : ps ++ rest = N) (hN : okNames sc N = true) (hσ : start args' rest.length = σ) (hlen : args'.length = ps.length)
    (h : ∀ X : FI B sc N, Inn X → X.lvl = l → Sx X σ body (.ret r)) : Fn B (.ref f) (l + 1) args r := by
  simp only [Prod.mk.injEq] at hf
  obtain ⟨h1, h2, h3, h4, h5, h6⟩ := hf
  subst hNe hσ
  exact fn_introC ⟨ex, code, rfl, h1, h2, h3, h4, h5, h6⟩ hN hb hlen h
theorem fn_goR {f : Addr} {name qual : Str} {params : Arguments} {body : List Stmt} {sc : Scope} {g : Addr} {cl : List (Str × Addr)} {dv kv doc pm cd ct : Value} {an : Option Addr} {bl : Addr} {ps rest N : List Str} {σ : List Bnd} {l : Nat} {args args' : List AV}
    (ex : ∃ oc od osl, B.K.lookup f = some ⟨oc, od, .func ⟨name, qual, params, .stmts body, sc, g, cl, dv, kv, doc, pm, an, cd, ct, bl⟩, osl⟩)
    (code : codeIn B.K cd qual = true) (hf : (cl, g, bl, sc.isCoroutine, sc.isGenerator, sc.kind) = ([], mainGlobals, builtinsNs, false, false, ScopeKind.function))
    (hb : BindsBy B ⟨name, qual, params, .stmts body, sc, g, cl, dv, kv, doc, pm, an, cd, ct, bl⟩ ps args args') (hNe : ps ++ rest = N) (hN : okNames sc N = true) (hσ : start args' rest.length = σ) (hlen : args'.length = ps.length)
    (h : ∀ X : FI B sc N, Inn X → X.lvl = l → SxR X σ body) : FnR B (.ref f) (l + 1) args := by
  simp only [Prod.mk.injEq] at hf
  obtain ⟨h1, h2, h3, h4, h5, h6⟩ := hf
  subst hNe hσ
  exact fn_introR ⟨ex, code, rfl, h1, h2, h3, h4, h5, h6⟩ hN hb hlen h
end
end Mine
end
section
open PySem PySem.W PyProof.Rows PySem.Calls PySem.SeqAt
set_option Elab.async false
set_option linter.unusedVariables false
set_option maxRecDepth 100000
namespace Mine
section
variable {B : Base} {sc : Scope} {N : List Str} {X : FI B sc N} {σ : List Bnd} {A : Around}
noncomputable def FnRIn (X : FI B sc N) (f : Value) (args : List AV) : Prop :=
  ∀ (G : View) (s : Shared) (vs : List Value) (Q : Value → Shared → Prop) (E : Value → Shared → Prop), Tp B s.heap → FramesOk X.A G s.heap → 1 ≤ s.toks → G.on s.heap → VRels G vs args →
    (∀ v s', Rz X.A s G v s' → E v s') → wpAny (model B.prog B.w) X.A (call f vs) Q E s
theorem FnR.inX {f : Value} {l : Nat} {args : List AV} (h : FnR B f l args) (hl : l ≤ X.lvl) : FnRIn X f args := fun G s vs Q E T fr ht hG rv kk =>
  h X.A G s vs Q E X.hh (by have := X.hd; omega) (by have := X.hu; omega) T fr ht hG rv kk
theorem exR_call {fe : Expr} {es : List Expr} {f : Value} {rs : List AV} {pos : Pos} (hf : Ex X σ fe (.raw f)) (hes : Es X σ es rs) (hfn : FnRIn X f rs) (hk : Callee B.K f = true)
    (hne : es ≠ [] := by simp) (hn : notAttr fe = true := by rfl) (hst : notStars es = true := by rfl) : ExR X σ (.Call fe es [] pos) := .mk fun G s Q E Sa kk => by
  rw [eval_call hn]
  refine wpAny_bind (hf.run G s _ E Sa fun v s1 G1 u1 rv => ?_)
  cases rv
  have hst' := hasStar_false (env := X.env) (pos := pos) hst
  refine callWith_of (P := fun h => B.K.In h) (by rw [hst']; rfl) (fun h Xk => callee_keeps hk h Xk) ?_
  cases es with
  | nil => exact absurd rfl hne
  | cons e es =>
    rw [notStars, Bool.and_eq_true] at hst
    have hsp := hes.run pos G1 s1 (fun vs s' => B.K.In s'.heap ∧ wpAny (model B.prog B.w) X.A (call f ([] ++ vs) []) Q E s') E (Sa.upd u1) fun vs s2 G2 u2 rvs =>
      ⟨(Sa.upd (u1.trans u2)).top.K, hfn G2 s2 vs _ E (Sa.upd (u1.trans u2)).top (Sa.upd (u1.trans u2)).frames (Sa.upd (u1.trans u2)).tk u2.on rvs fun v s3 z => kk v s3 (z.back (u1.trans u2) Sa.on)⟩
    rw [starEach_cons hst.1] at hsp ⊢
    exact evalArgs_plain hsp
theorem exR_tuple {e : Expr} {es : List Expr} {k : Nat} {pos : Pos} (h : ExR X σ e) (hn : notStar e = true := by rfl) : ExR X σ (.Tuple (e :: es) k pos) := .mk fun G s Q E Sa kk =>
  wpAny_Tuple (wpAny_items_cons (h.run G s _ E Sa kk) (starEach_cons hn))
/-- a suite that gives back what raises -/
theorem bodyR_ret {e : Expr} {pos : Pos} {r : List Stmt} (h : ExR X σ e) {G : View} {s : Shared} {Q : Flow → Shared → Prop} {E : Value → Shared → Prop} (Sa : Sat X G σ s) (kk : ∀ v s', Rz X.A s G v s' → E v s') :
    wpAny (model B.prog B.w) X.A (execs (.Return (some e) pos :: r) X.env) Q E s := wpAny_execs_cons (wpAny_Return_some (h.run G s _ E Sa kk))

/-! expressions in a handler -/
structure ExA (A : Around) (X : FI B sc N) (σ : List Bnd) (e : Expr) (r : AV) : Prop where
  run :
  ∀ (G : View) (s : Shared) (Q : Value → Shared → Prop) (E : Value → Shared → Prop), Sat X G σ s →
    (∀ v s' G', Up s s' G G' → VRel G' v r → Q v s') → wpAny (model B.prog B.w) A (eval e X.env) Q E s
theorem ld_locA {x : Str} {i : Nat} {b : Bnd} {pos : Pos} {G : View} {s : Shared} {Q : Value → Shared → Prop} {E : Value → Shared → Prop} (ha : At N i x) (hb : σ[i]? = some b) (hno : b ≠ .no)
    (Sa : Sat X G σ s) (h : ∀ v, BndIs X G s.heap v b → Q v s) : wpAny (model B.prog B.w) A (eval (.Name x pos) X.env) Q E s := by
  obtain ⟨m, hm, hv⟩ := Sa.ns
  obtain ⟨hd, hcd⟩ := X.hdbg x ha.mem
  rcases hv i x b ha hb with h' | ⟨v, hl, hb⟩
  · exact absurd h' hno
  · refine wpAny_Name ?_ hd
    rcases hl with ⟨hk, hmx⟩ | ⟨hk, c, hc, hi⟩
    · exact wpAny_loadName_local (X_kind X) ((X_kindOf X x).trans hk) hm hmx (h v hb)
    · rcases hk with hk | hk
      · exact wpAny_loadName_cell (X_kind X) ((X_kindOf X x).trans hk) hc hi (h v hb)
      · exact wpAny_loadName_free (X_kind X) ((X_kindOf X x).trans hk) hc hi (h v hb) hcd
theorem exA_loc {x : Str} {a : AV} {pos : Pos} (h : Var N σ x (.val a)) : ExA A X σ (.Name x pos) a := .mk fun G s Q E Sa kk => by
  obtain ⟨i, ha, hb⟩ := h.at_
  exact ld_locA ha hb (by intro h; cases h) Sa fun v hv => kk v s G (Up.refl Sa.on) hv
theorem exA_str {x : Str} {l : List Nat} {k pos} (h : x.cps.toList = l := by rfl) : ExA A X σ (.Constant (.str x) k pos) (.str l) := .mk fun G s Q E Sa kk =>
  wpAny_Constant_str (kk _ _ _ (Up.ofTok Sa.on) (h ▸ VRel.str x _))
theorem exA_bin {l r : Expr} {op : Operator} {pos : Pos} {a b c : AV} (hl : ExA A X σ l a) (hr : ExA A X σ r b) (h : Bop B A op a b c) : ExA A X σ (.BinOp l op r pos) c := .mk fun G s Q E Sa kk =>
  wpAny_BinOp (hl.run G s _ E Sa fun va s1 G1 u1 ra => hr.run G1 s1 _ E (Sa.upd u1) fun vb s2 G2 u2 rb => wp_tk (h G2 s2 va vb _ E u2.on (VRel.le u2.le ra) rb fun v s' G' u r tk => kk v s' G' ((u1.trans u2).trans ⟨u, tk⟩) r))
theorem exA_tuple2 {e1 e2 : Expr} {r1 r2 : AV} {k : Nat} {pos : Pos} (h1 : ExA A X σ e1 r1) (h2 : ExA A X σ e2 r2) (hn1 : notStar e1 = true := by rfl) (hn2 : notStar e2 = true := by rfl) : ExA A X σ (.Tuple [e1, e2] k pos) (.tup [r1, r2]) := .mk fun G s Q E Sa kk =>
  wpAny_Tuple (wpAny_items_cons (h1.run G s _ E Sa fun v s1 G1 u1 rv1 => wpAny_items_cons (h2.run G1 s1 _ E (Sa.upd u1) fun v2 s2 G2 u2 rv2 => wpAny_items_nil ⟨by show 2 ≤ sizeLine; decide, by
    have u := (u1.trans u2).push { cls := .type "tuple", data := .seq [v, v2].toArray } rfl
    refine kk _ _ _ u (.tup (View.add_self _ _ _) (VRels.le (View.le_add _ ?_) (.cons (VRel.le u2.le rv1) (.cons rv2 .nil))))
    cases q : G2 s2.heap.objs.size with
    | none => rfl
    | some o => exact absurd (Heap.lt_size (u2.on _ _ q)) (Nat.lt_irrefl _)⟩) (starEach_cons hn2)) (starEach_cons hn1))

theorem exc_VE : isSubtype (.type "ValueError") (.type "BaseException") = pure true := isSubtype_of_subB (by decide +kernel)
theorem sub_VE : isSubtype (.type "ValueError") (.type "ValueError") = pure true := isSubtype_of_subB (by decide +kernel)
theorem meta_VE : isSubtype (.type ((Manifest.find? "ValueError").elim "type" fun x => x.metatype)) (.type "tuple") = pure false := isSubtype_of_subB (by decide +kernel)
/-- raised, and caught in this frame -/
theorem s1_catch {x : Str} {body suite : List Stmt} {np hp pos : Pos} {ret : Expr} {rp : Pos} {r : AV} (I : Inn X) (hb : ∀ {G : View} {s : Shared} {Q : Flow → Shared → Prop} {E : Value → Shared → Prop}, Sat X G σ s → (∀ v s', Rz X.A s G v s' → E v s') → wpAny (model B.prog B.w) X.A (execs body X.env) Q E s)
    (hx : sc.names.lookup x = some .globalImplicit) (he : nsIn B.K mainGlobals x = some none) (hv : bootBuiltins x = some (.type "ValueError")) (hn : x ≠ "__name__") (hr : ∀ A, ExA A X σ ret r)
    (hd : (x == ("__debug__" : Str)) = false := by decide) : S1 X σ (.Try body [.ExceptHandler (some (.Name x np)) none (.Return (some ret) rp :: suite) hp] [] [] pos) (.ret r) := .mk fun G s Q E Sa kk => by
  refine wpAny_Try_except (hb Sa fun v s1 z => ?_)
  obtain ⟨outer, hfr⟩ := I.fr
  obtain ⟨e, base, fs, c, fl, rfl, hfs, hx1, hfl, hbs⟩ := z.ex
  rw [hfr] at hfs; cases hfs
  have hfl' : fl = none ∨ fl = some .none ∨ fl = some (rawInt X.env.locals) := by
    rcases hfl with h | h | ⟨L, h, h'⟩
    · exact .inl h
    · exact .inr (.inl h)
    · rw [show topL (X.env :: outer) = X.env.frame from rfl, I.fl] at h; cases h
      exact .inr (.inr h')
  refine wp_sz (x_note hfr I.fl hx1 hfl' fun h1 x1 sm1 z1 => ?_)
  refine wp_sz (x_flight (fr := none) x1 fun h2 x2 sm2 z2 => ?_)
  have u2 : Up s { s1 with heap := h2 } G G := z.up.stepX hbs Sa.on x2.stay (sm1.trans sm2) (Nat.le_trans z1 z2) (Nat.le_refl _)
  have Sa2 := Sa.upd u2
  have T2 := Sa2.top.T
  refine wpAny_handleBy_builtin (X := "ValueError") (T := "ValueError") (b := true) exc_VE meta_VE sub_VE
    (Name_function_global (X_kind X) ((X_kindOf X x).trans hx) (loadGlobal_builtin (env := X.env) (X.hg ▸ T2.g) (mg_none_of Sa2.top.K T2.g he) (X.hb ▸ T2.b) ((T2.builtins x hn).trans hv) ⟨rfl, x2.typeIs (s := { s1 with heap := h2 }), ?_⟩) hd)
  rw [if_pos rfl]
  refine wp_sz (x_flight (s := { s1 with heap := h2 }) (fr := none) x2 fun h3 x3 sm3 z3 => ?_)
  have u3 : Up s { s1 with heap := h3 } G G := u2.stepX hbs Sa.on x3.stay sm3 z3 (Nat.le_refl _)
  exact wpAny_execs_cons (wpAny_Return_some ((hr _).run G _ _ _ (Sa.upd u3) fun v s4 G4 u4 r4 => kk (.ret v) s4 G4 u4.le ⟨(Sa.upd u3).up.trans u4, r4⟩))
end
end Mine
end
section
open PySem PySem.W PyProof.Rows PySem.Calls PySem.SeqAt
set_option Elab.async false
set_option linter.unusedVariables false
set_option maxRecDepth 100000
namespace Mine
section
variable {B : Base} {sc : Scope} {N : List Str} {X : FI B sc N} {σ : List Bnd} {A : Around}
theorem rz_new {A : Around} {G G2 : View} {s s2 : Shared} {h' : Heap} {tk : Nat} {e : Addr} (x : FramesOk A G2 s2.heap) (u : Up s s2 G G2) (hG : G.on s.heap) (hx : Heap.NewExc s2.heap h' e "ValueError") (hs : s.heap.objs.size ≤ h'.objs.size) (htk : s2.toks ≤ tk) : Rz A s G (.ref e) { s2 with heap := h', toks := tk } := by
  obtain ⟨base, fs, h1, h2, h3⟩ := x_made x hx
  exact ⟨⟨⟨u.keep.trans (.of hx.keeps), hs, u.gens, u.os, G.le_refl, fun a o e => hx.keeps a o (u.on a o (u.le a o e)), fun a o e => .inl (by rw [e]; rfl)⟩, Nat.le_trans u.tk htk⟩, hG, e, base, fs, .none, none, rfl, h1, h2, .inl rfl, h3.back u hG⟩

/-- raise ValueError(text) -/
theorem s1R_raise {x : Str} {np cp pos : Pos} {e₀ : Expr} {r : AV} (I : Inn X) (he0 : Ex X σ e₀ r) (hx : sc.names.lookup x = some .globalImplicit) (he : nsIn B.K mainGlobals x = some none) (hv : bootBuiltins x = some (.type "ValueError")) (hn : x ≠ "__name__")
    (hst : notStar e₀ = true := by rfl) (hd : (x == ("__debug__" : Str)) = false := by decide) : S1R X σ (.Raise (some (.Call (.Name x np) [e₀] [] cp)) none pos) := .mk fun G s Q E Sa kk => by
  refine wp_sz (Raise_madeB PySem.F.excCall_ValueError PySem.F.excRaise_ValueError X.hh ((ex_blt hx he hv hn hd).run G s _ _ Sa fun f s1 G1 u1 r1 => ?_) (starEach_cons hst) (by rfl))
  cases r1
  refine ⟨rfl, wpAny_items_cons (he0.run G1 s1 _ _ (Sa.upd u1) fun v s2 G2 u2 r2 => wpAny_items_nil ⟨by show 1 ≤ sizeLine; decide, fun h' e hm hsz => ?_⟩) (starEach_cons hst)⟩
  have u := u1.trans u2
  exact kk _ _ ((rz_new (Sa.upd u).frames u Sa.on hm.newExc hsz (Nat.le_refl _)).back Sa.up I.on)

/-! a set of bools, unpacked -/
theorem set_run {x : Str} {px : Pos} {elt iter : Expr} {scope : Scope} {pos : Pos} {ys : List Str} {bs : List Bnd} {xs : List AV} {rs : List Bool} (hi : Itr X σ iter xs) (hcap : Caps N σ ys bs) (hok : okComp scope sc x ys = true) (hn : xs.length ≤ sizeLine)
    (h : ∀ X' : FI B (relab scope sc) (x :: ys), X'.lvl = X.lvl → X'.A = X.A → CmprB X' bs elt xs rs) (hokB : ∀ led k, okB (bset led (rs.take k)) = true) {G : View} {s : Shared} {Q : Value → Shared → Prop} {E : Value → Shared → Prop} (Sa : Sat X G σ s)
    (kk : ∀ D ep s' G', Up s s' G G' → G' D = none → s.heap.objs.size ≤ D → SetE s'.heap D (bset (!byT B.w) rs).1 ep (bset (!byT B.w) rs).2 → Q (.ref D) s') (hs : noSet iter = true := by rfl) :
    wpAny (model B.prog B.w) X.A (eval (.SetComp elt [⟨.Name x px, iter, [], 0⟩] scope pos) X.env) Q E s := by
  obtain ⟨hfree, hkind, hnames⟩ := okComp_cl (X := X) hcap hok
  show wpAny _ X.A (comprehension (.SetComp elt [⟨.Name x px, iter, [], 0⟩] scope pos) scope X.env (firstIterPos [⟨.Name x px, iter, [], 0⟩] pos) (newSet (.type "set")) false (eval iter X.env)) Q E s
  refine wpAny_comprehension_free (use := none) rfl (noSet_pure hs _) (closure_eq hfree) hkind hnames (hi.run G s _ E Sa fun I fp P St G1 s1 s2 u1 u2 W hP hm h0 hI hI2 hfp => ?_)
  have S1 := Sa.upd u1
  refine comp_coreS (RR := fun acc cenv => compPost _ _ E none Q acc cenv.locals) W hP hn hcap hok h hokB S1 u2 h0 hI hI2 hfp hm fun D C cl s' m' ep G' hD hC hDC hns hS u hGC hGD => ?_
  refine ⟨m', hns, fun h'' hs'' => ?_⟩
  refine kk D ep _ G' (u1.trans ⟨⟨near_but u.keep (fun b o hb e => (hs''.2 b hb).trans e) hC, by show _ ≤ h''.objs.size; rw [hs''.1]; exact u.size, u.gens, u.os, u.le, fun b o e => (hs''.2 b fun q => by rw [q, hGC] at e; cases e).trans (u.on b o e), u.new⟩, u.tk⟩) hGD (Nat.le_trans u1.size hD) ((hs''.2 D hDC).trans hS)
inductive oneOf (st : Array (Int × Value) × SetTable) (led b : Bool) : Prop
  | mk (i : Int) (j : Nat) (h1 : st.1 = #[(i, .bool b)]) (h2 : st.2.fits 1 = true) (h3 : st.2.plain = true) (h4 : st.2.led = led) (h5 : st.2.place = #[j])
inductive twoOf (st : Array (Int × Value) × SetTable) (led : Bool) : Prop
  | mk (x y : Int × Value) (j i : Nat) (h1 : st.1 = #[x, y]) (h2 : st.2.fits 2 = true) (h3 : st.2.plain = true) (h4 : st.2.led = led) (h5 : st.2.place = #[j, i]) (h6 : j < i)
theorem s1_set1 {x y : Str} {px py tp spos : Pos} {kk : Nat} {elt iter : Expr} {scope : Scope} {pos : Pos} {ys : List Str} {bs τ : List Bnd} {xs : List AV} {rs : List Bool} {b : Bool} (hi : Itr X σ iter xs) (hcap : Caps N σ ys bs) (hok : okComp scope sc x ys = true) (hn : xs.length ≤ sizeLine)
    (h : ∀ X' : FI B (relab scope sc) (x :: ys), X'.lvl = X.lvl → X'.A = X.A → CmprB X' bs elt xs rs) (hokB : ∀ led k, okB (bset led (rs.take k)) = true) (hone : ∀ led, oneOf (bset led rs) led b) (hset : Set1 N σ y (.val (.bool b)) τ) (ho : X.own = true) (hs : noSet iter = true := by rfl) :
    S1 X σ (.Assign [.Tuple [.Name y py] kk tp] (.SetComp elt [⟨.Name x px, iter, [], 0⟩] scope pos) spos) (.next τ) := .mk fun G s Q E Sa k => by
  refine Assign_Tuple (set_run hi hcap hok hn h hokB Sa (fun D ep s1 G1 u1 hGD hD hS => ?_) hs) rfl rfl
  obtain ⟨i, j, h1, h2, h3, h4, h5⟩ := hone (!byT B.w)
  generalize bset (!byT B.w) rs = st at hS h1 h2 h3 h4 h5
  obtain ⟨es, t⟩ := st
  dsimp only at h1 h2 h3 h4 h5 hS
  subst h1
  rw [arm_assign_Tuple]
  refine wpAny_bind (wpAny_standAt ?_)
  unfold unpack
  have hel : namesOf [Expr.Name y py] = some [y] := rfl
  obtain ⟨q1, q2⟩ := assignEach_len (env := X.env) hel
  rw [q1, q2]
  refine wpAny_bind (wpAny_holding (unpack_set1 X.hh hS h2 h3 h4 h5 fun h' he => ?_))
  have S1 := (Sa.upd u1).fresh he
  exact wp_inOrder (stores_names hel) ho (.cons hset .nil) S1 (.cons (.bool b) .nil) fun s2 S2 => k .next s2 G1 u1.le S2

/-- raise ValueError(text) from None, in a handler -/
theorem raise_fromNone {x : Str} {np cp cpos pos : Pos} {ck sk : Nat} {m : Str} {mp : Pos} {fs : List Env} {base : Heap} {e : Addr} {fl : Option Value} {G : View} {s : Shared} {Q : Flow → Shared → Prop} {E : Value → Shared → Prop} (hfs : X.A.frames = some fs)
    (hxa : XAt base fs e .none fl s.heap) (Sa : Sat X G σ s) (hx : sc.names.lookup x = some .globalImplicit) (he : nsIn B.K mainGlobals x = some none) (hv : bootBuiltins x = some (.type "ValueError")) (hn : x ≠ "__name__")
    (kk : ∀ h' e2 tk, XAt base fs e2 (.ref e) none h' → s.heap.UpToSlots h' → s.toks ≤ tk → E (.ref e2) { s with heap := h', toks := tk })
    (hd : (x == ("__debug__" : Str)) = false := by decide) :
    wpAny (model B.prog B.w) (X.A.mark (some (.ref e))) (exec (.Raise (some (.Call (.Name x np) [.Constant (.str m) sk mp] [] cp)) (some (.Constant .none ck cpos)) pos) X.env) Q E s := by
  have T := Sa.top.T
  rw [arm_exec_Raise]
  refine wpAny_bind (wpAny_standAt ?_)
  unfold raiseStmt
  dsimp only [evalOpt, Option.map]
  refine wpAny_bind (wpAny_bind ?_)
  refine wpAny_Call_ofName (Name_function_global (X_kind X) ((X_kindOf X x).trans hx) (loadGlobal_builtin (env := X.env) (X.hg ▸ T.g) (mg_none_of Sa.top.K T.g he) (X.hb ▸ T.b) ((T.builtins x hn).trans hv) ?_) hd)
  refine PySem.callWith_excType (by rfl) (evalArgs_plain (wpAny_items_cons (wpAny_Constant_str (wpAny_items_nil ?_)) (starEach_cons (by rfl))))
  obtain ⟨hp, g, d, tk0, os⟩ := s
  dsimp only at hxa kk ⊢
  refine wpAny_call_exc PySem.F.excCall_ValueError (fun h1 e2 hm => ?_) (by show 1 ≤ sizeLine; decide)
  obtain ⟨t2, he2, ht2n, ht2⟩ := hm.there
  refine wpAny_bind (wpAny_standAt (wpAny_pure ?_))
  refine wpAny_bind (wpAny_holding (wpAny_bind (wpAny_Constant_none (wpAny_bind (wpAny_standAt (wpAny_pure ?_))))))
  refine wpAny_bind (wpAny_pure ?_)
  have hT : (⟨h1, g, d, tk0 + 1, os⟩ : Shared).TypeIs (.ref e2) "ValueError" := ⟨_, he2, rfl⟩
  have hnt : ∀ {h : Heap} {o : Obj} {vs : Array Value} {Q' : Bool → Shared → Prop}, h.get? e2 = some o → o.data = .fields vs → Q' false ⟨h, g, d, tk0 + 1, os⟩ → wpAny (model B.prog B.w) (X.A.mark (some (.ref e))) (isType (.ref e2)) Q' E ⟨h, g, d, tk0 + 1, os⟩ := by
    intro h o vs Q' ho hd hq
    simp only [isType, loadHead]
    refine wpAny_bind (wpAny_loadPart ho ?_)
    rw [hd]; exact wpAny_pure hq
  refine wpAny_bind (wpAny_holding ?_)
  unfold excFromValue isExcClass
  refine wpAny_bind (wpAny_bind (hnt he2 rfl ?_))
  simp only [Bool.false_eq_true, if_false]
  refine wpAny_pure ?_
  simp only [Bool.false_eq_true, if_false]
  refine wpAny_bind (wpAny_isInstance hT exc_VE ?_)
  simp only [if_true]
  refine wpAny_pure ?_
  rw [if_pos (by decide)]
  refine wpAny_bind (wpAny_pure ?_)
  refine wpAny_bind (wpAny_setField he2 rfl (by simp) ?_)
  have he3 := Heap.get?_update_self (Obj.mapFields (·.setIfInBounds 3 Value.none)) he2 rfl
  refine wpAny_bind (wpAny_setField (s := ⟨_, g, d, tk0 + 1, os⟩) he3 rfl (by simp) ?_)
  have he4 := Heap.get?_update_self (Obj.mapFields (·.setIfInBounds 4 (Value.bool true))) he3 rfl
  generalize hH : (h1.update e2 (Obj.mapFields (·.setIfInBounds 3 Value.none))).update e2 (Obj.mapFields (·.setIfInBounds 4 (Value.bool true))) = H at he4 ⊢
  have hT4 : (⟨H, g, d, tk0 + 1, os⟩ : Shared).TypeIs (.ref e2) "ValueError" := ⟨_, he4, rfl⟩
  refine wpAny_bind (hnt he4 rfl ?_)
  simp only [Bool.false_eq_true, if_false]
  unfold raisedInstance
  refine wpAny_bind (wpAny_bind (wpAny_typeOf hT4 (wpAny_bind (m := typeOf (.type "ValueError")) (wpAny_pure ?_))))
  rw [if_pos PySem.F.excRaise_ValueError.plainMeta]
  refine wpAny_pure ?_
  refine wpAny_bind ?_
  unfold setFlight
  refine wpAny_bind (wpAny_field (x := .none) he4 rfl rfl ?_)
  rw [if_neg (by decide)]
  refine wpAny_pure ?_
  have hsame : ∀ b o, b ≠ e2 → h1.get? b = some o → H.get? b = some o := fun b o hb ho => by
    rw [← hH, Heap.get?_update_other _ _ (Ne.symm hb), Heap.get?_update_other _ _ (Ne.symm hb)]; exact ho
  have hold : ∀ b o, hp.get? b = some o → b ≠ e2 := fun b o hb q => by rw [q, hm.new] at hb; cases hb
  have hX : XAt base fs e .none fl H := by
    obtain ⟨k1, k2, k3, oe, vs, a0, k4, k5, k6, k7, k8, k9⟩ := hxa
    have kp : ∀ b o, hp.get? b = some o → H.get? b = some o := fun b o hb => hsame b o (hold b o hb) (hm.keeps b o hb)
    refine ⟨fun b o hb => kp b o (k1 b o hb), k2, k3.of_keeps fun b o hb _ => ⟨o, kp b o hb, rfl⟩, oe, vs, a0, kp e oe k4, k5, k6, k7, k8, ?_⟩
    cases fl with
    | none => exact k9
    | some f =>
      obtain ⟨T', oT, ts, j1, j2, j3, j4, j5, j6⟩ := k9
      exact ⟨T', oT, ts, j1, j2, j3, kp T' oT j4, j5, j6⟩
  obtain ⟨oe, vs, a0, k4, k5, k6, k7, k8, k9⟩ := hX.ob
  have hne : e ≠ e2 := by
    obtain ⟨oe', _, _, k4', _⟩ := hxa.ob
    exact hold e oe' k4'
  unfold raiseNew
  refine wpAny_bind (wpAny_handled ?_)
  show wpAny _ _ (if (Value.ref e != Value.ref e2) = true then _ else _) _ _ _
  rw [if_pos (by simpa using hne)]
  have hun : entryFor table "proto.unchain" = some Builtin.«proto.unchain» := entryFor_of_tree (by kernel_rfl)
  refine wpAny_bind (wpAny_holding (wpAny_runValue (codeAny_builtin hun ?_)))
  unfold Builtin.«proto.unchain»
  dsimp only
  refine wpAny_bind (wpAny_field k4 k6 k8 ?_)
  rw [if_pos (by rfl)]
  refine wpAny_bind (wpAny_pure (wpAny_pure ?_))
  dsimp only
  refine wpAny_bind (wpAny_setField (s := ⟨H, g, d, tk0 + 1, os⟩) (i := 2) (x := .ref e) he4 rfl (by simp) ?_)
  have he5 := Heap.get?_update_self (Obj.mapFields (·.setIfInBounds 2 (Value.ref e))) he4 rfl
  have hsame5 : ∀ b o, b ≠ e2 → H.get? b = some o → (H.update e2 (Obj.mapFields (·.setIfInBounds 2 (Value.ref e)))).get? b = some o := fun b o hb ho => by
    rw [Heap.get?_update_other _ _ (Ne.symm hb)]; exact ho
  have kp5 : ∀ b o, hp.get? b = some o → (H.update e2 (Obj.mapFields (·.setIfInBounds 2 (Value.ref e)))).get? b = some o := fun b o hb => hsame5 b o (hold b o hb) (hsame b o (hold b o hb) (hm.keeps b o hb))
  refine wpAny_throw (kk _ e2 (tk0 + 1) ⟨fun b o hb => kp5 b o (hxa.stay b o hb), ?_, hxa.fr.of_keeps fun b o hb _ => ⟨o, kp5 b o hb, rfl⟩, _, _, _, he5, rfl, rfl, rfl, rfl, rfl⟩ (Heap.UpToSlots.of_keeps kp5) (Nat.le_succ _))
  cases q : base.get? e2 with
  | none => rfl
  | some o => have := hxa.stay e2 o q; rw [hm.new] at this; cases this
end
end Mine
end
section
open PySem PySem.W PyProof.Rows PySem.Calls PySem.SeqAt
set_option Elab.async false
set_option linter.unusedVariables false
set_option maxRecDepth 100000
namespace Mine
theorem wp_tkE {α : Type} {M : Model} {A : Around} {t : Sem α} {Q : α → Shared → Prop} {E : Value → Shared → Prop} {s : Shared} (h : wpAny M A t (fun v s' => s.toks ≤ s'.toks → Q v s') (fun e s' => s.toks ≤ s'.toks → E e s') s) : wpAny M A t Q E s :=
  wpAny_mono (wpAny_toks_of (Nat.le_refl _) h) (fun _ _ q => q.2 q.1) fun _ _ q => q.2 q.1
section
variable {B : Base} {sc : Scope} {N : List Str} {X : FI B sc N} {σ : List Bnd} {A : Around}
theorem flOk_own {outer : List Env} {fl : Option Value} (I : Inn X) (hfl : FlOk (X.env :: outer) fl) : fl = none ∨ fl = some .none ∨ fl = some (rawInt X.env.locals) := by
  rcases hfl with h | h | ⟨L, h, h'⟩
  · exact .inl h
  · exact .inr (.inl h)
  · rw [show topL (X.env :: outer) = X.env.frame from rfl, I.fl] at h; cases h
    exact .inr (.inr h')
/-- a set of two, met by one name; the clause raises anew -/
theorem s1R_mixed {x y v : Str} {px py tp spos np np2 cp cpos rp hp tpos mp : Pos} {kk sk ck : Nat} {m : Str} {elt iter : Expr} {scope : Scope} {pos : Pos} {ys : List Str} {bs : List Bnd} {xs : List AV} {rs : List Bool} (I : Inn X) (hi : Itr X σ iter xs) (hcap : Caps N σ ys bs) (hok : okComp scope sc x ys = true) (hn : xs.length ≤ sizeLine)
    (h : ∀ X' : FI B (relab scope sc) (x :: ys), X'.lvl = X.lvl → X'.A = X.A → CmprB X' bs elt xs rs) (hokB : ∀ led k, okB (bset led (rs.take k)) = true) (htwo : ∀ led, twoOf (bset led rs) led)
    (hx : sc.names.lookup v = some .globalImplicit) (he : nsIn B.K mainGlobals v = some none) (hv : bootBuiltins v = some (.type "ValueError")) (hnm : v ≠ "__name__")
    (hs : noSet iter = true := by rfl) (hd : (v == ("__debug__" : Str)) = false := by decide) :
    S1R X σ (.Try [.Assign [.Tuple [.Name y py] kk tp] (.SetComp elt [⟨.Name x px, iter, [], 0⟩] scope pos) spos] [.ExceptHandler (some (.Name v np)) none [.Raise (some (.Call (.Name v np2) [.Constant (.str m) sk mp] [] cp)) (some (.Constant .none ck cpos)) rp] hp] [] [] tpos) := .mk fun G s Q E Sa k => by
  obtain ⟨outer, hfr⟩ := I.fr
  refine wpAny_Try_except (wpAny_execs_cons (Assign_Tuple (set_run hi hcap hok hn h hokB Sa (fun D ep s1 G1 u1 hGD hD hS => ?_) hs) rfl rfl))
  obtain ⟨a0, b0, j, i, h1, h2, h3, h4, h5, h6⟩ := htwo (!byT B.w)
  generalize bset (!byT B.w) rs = st at hS h1 h2 h3 h4 h5 h6
  obtain ⟨es, t⟩ := st
  dsimp only at h1 h2 h3 h4 h5 h6 hS
  subst h1
  rw [arm_assign_Tuple]
  refine wpAny_bind (wpAny_standAt ?_)
  unfold unpack
  have hel : namesOf [Expr.Name y py] = some [y] := rfl
  obtain ⟨q1, q2⟩ := assignEach_len (env := X.env) hel
  rw [q1, q2]
  have S1 := Sa.upd u1
  refine wp_sz (wp_tkE (wpAny_bind (wpAny_holding (unpack_set2 X.hh hS h2 h3 h4 h5 h6 fun h' h'' tk e hex hnew tks szs => ?_))))
  have S2 := S1.fresh hex
  obtain ⟨base, fs, hfs, x0, hb0⟩ := x_made S2.frames hnew
  rw [hfr] at hfs; cases hfs
  have hb1 : Based base s1.heap G1 := fun b o e => hb0 b o (hex b o (Nat.ne_of_lt (Heap.lt_size e)) e)
  have hk1 : ∀ b o, s1.heap.get? b = some o → h''.get? b = some o := fun b o e => hnew.keeps b o (hex b o (Nat.ne_of_lt (Heap.lt_size e)) e)
  have U2 : Up s1 { s1 with heap := h'', toks := tk } G1 G1 := ⟨⟨.of hk1, szs, rfl, rfl, G1.le_refl, fun a o e => hk1 a o (S1.on a o e), fun a o e => .inl (by rw [e]; rfl)⟩, tks⟩
  refine wp_sz (x_note hfr I.fl x0 (.inl rfl) fun h3 x3 sm3 z3 => ?_)
  have U3 := U2.stepX (h' := h3) hb1 S1.on x3.stay sm3 z3 (Nat.le_refl _)
  refine wp_sz (x_flight (fr := none) x3 fun h4 x4 sm4 z4 => ?_)
  have U4 := U3.stepX (h' := h4) hb1 S1.on x4.stay sm4 z4 (Nat.le_refl _)
  have Sa4 := S1.upd U4
  have T4 := Sa4.top.T
  refine wpAny_handleBy_builtin (X := "ValueError") (T := "ValueError") (b := true) exc_VE meta_VE sub_VE
    (Name_function_global (X_kind X) ((X_kindOf X v).trans hx) (loadGlobal_builtin (env := X.env) (X.hg ▸ T4.g) (mg_none_of Sa4.top.K T4.g he) (X.hb ▸ T4.b) ((T4.builtins v hnm).trans hv) ⟨rfl, x4.typeIs (s := { s1 with heap := h4, toks := tk }), ?_⟩) hd)
  rw [if_pos rfl]
  refine wp_sz (x_flight (s := { s1 with heap := h4, toks := tk }) (fr := none) x4 fun h5 x5 sm5 z5 => ?_)
  have U5 := U4.stepX (h' := h5) hb1 S1.on x5.stay sm5 z5 (Nat.le_refl _)
  refine wpAny_execs_cons (wp_sz (raise_fromNone hfr x5 (S1.upd U5) hx he hv hnm (fun h6 e2 tk2 x6 sm6 htk z6 => ?_) hd))
  have U6 := U5.stepX (h' := h6) hb1 S1.on x6.stay sm6 z6 htk
  refine wp_sz (x_note (A := X.A.mark (some (.ref e))) hfr I.fl x6 (.inl rfl) fun h7 x7 sm7 z7 => ?_)
  have U7 := U6.stepX (h' := h7) hb1 S1.on x7.stay sm7 z7 (Nat.le_refl _)
  obtain ⟨oe, vs, T, he7, hd7, h17⟩ := x7.tbIs (s := { s1 with heap := h7, toks := tk2 })
  show wpAny _ X.A (field (.ref e2) 1 >>= _) _ _ _
  refine wpAny_bind (wpAny_field he7 hd7 h17 ?_)
  rw [if_neg (by simp)]
  refine wp_sz (x_flight (s := { s1 with heap := h7, toks := tk2 }) (fr := X.env.frame) x7 fun h8 x8 sm8 z8 => ?_)
  have U8 := U7.stepX (h' := h8) hb1 S1.on x8.stay sm8 z8 (Nat.le_refl _)
  rw [I.fl] at x8
  refine k _ _ (Rz.back (s1 := s1) (G1 := G1) ⟨U8, S1.on, e2, base, _, _, _, rfl, hfr, x8, .inr (.inr ⟨X.env.locals, I.fl, rfl⟩), hb1⟩ S1.up I.on)

theorem sub_VT : isSubtype (.type "ValueError") (.type "TypeError") = pure false := isSubtype_of_subB (by decide +kernel)
theorem sub_VA : isSubtype (.type "ValueError") (.type "AttributeError") = pure false := isSubtype_of_subB (by decide +kernel)
theorem exc_TE : isSubtype (.type "TypeError") (.type "BaseException") = pure true := isSubtype_of_subB (by decide +kernel)
theorem exc_AE : isSubtype (.type "AttributeError") (.type "BaseException") = pure true := isSubtype_of_subB (by decide +kernel)
theorem meta_TE : isSubtype (.type ((Manifest.find? "TypeError").elim "type" fun x => x.metatype)) (.type "tuple") = pure false := isSubtype_of_subB (by decide +kernel)
theorem meta_AE : isSubtype (.type ((Manifest.find? "AttributeError").elim "type" fun x => x.metatype)) (.type "tuple") = pure false := isSubtype_of_subB (by decide +kernel)
/-- the outer clause does not fit -/
theorem s1R_tryTup {x1 x2 : Str} {p1 p2 tp hp pos : Pos} {kk : Nat} {body suite : List Stmt} {b₀ : Stmt} (I : Inn X) (hb : SxR X σ body)
    (hx1 : sc.names.lookup x1 = some .globalImplicit) (he1 : nsIn B.K mainGlobals x1 = some none) (hv1 : bootBuiltins x1 = some (.type "TypeError")) (hn1 : x1 ≠ "__name__")
    (hx2 : sc.names.lookup x2 = some .globalImplicit) (he2 : nsIn B.K mainGlobals x2 = some none) (hv2 : bootBuiltins x2 = some (.type "AttributeError")) (hn2 : x2 ≠ "__name__")
    (hd1 : (x1 == ("__debug__" : Str)) = false := by decide) (hd2 : (x2 == ("__debug__" : Str)) = false := by decide) :
    S1R X σ (.Try body [.ExceptHandler (some (.Tuple [.Name x1 p1, .Name x2 p2] kk tp)) none (b₀ :: suite) hp] [] [] pos) := .mk fun G s Q E Sa k => by
  obtain ⟨outer, hfr⟩ := I.fr
  refine wpAny_Try_except (hb.run G s _ _ Sa fun v s1 z => ?_)
  obtain ⟨e, base, fs, c, fl, rfl, hfs, hx0, hfl, hbs⟩ := z.ex
  rw [hfr] at hfs; cases hfs
  have U0 := z.up
  refine wp_sz (x_note hfr I.fl hx0 (flOk_own I hfl) fun h3 x3 sm3 z3 => ?_)
  have U3 := U0.stepX (h' := h3) hbs I.on x3.stay sm3 z3 (Nat.le_refl _)
  refine wp_sz (x_flight (fr := none) x3 fun h4 x4 sm4 z4 => ?_)
  have U4 := U3.stepX (h' := h4) hbs I.on x4.stay sm4 z4 (Nat.le_refl _)
  have T4 := X.top.keeps U4.keep U4.size
  refine wpAny_handleBy_tup2 (X := "ValueError") (T1 := "TypeError") (T2 := "AttributeError") (b1 := false) (b2 := false) exc_TE meta_TE exc_AE meta_AE sub_VT sub_VA ?_
  refine wpAny_Tuple (wpAny_items_cons (Name_function_global (X_kind X) ((X_kindOf X x1).trans hx1) (loadGlobal_builtin (env := X.env) (X.hg ▸ T4.T.g) (mg_none_of T4.K T4.T.g he1) (X.hb ▸ T4.T.b) ((T4.T.builtins x1 hn1).trans hv1)
    (wpAny_items_cons (Name_function_global (X_kind X) ((X_kindOf X x2).trans hx2) (loadGlobal_builtin (env := X.env) (X.hg ▸ T4.T.g) (mg_none_of T4.K T4.T.g he2) (X.hb ▸ T4.T.b) ((T4.T.builtins x2 hn2).trans hv2) (wpAny_items_nil ⟨by show 2 ≤ sizeLine; decide, ?_⟩)) hd2) (starEach_cons (by rfl)))) hd1) (starEach_cons (by rfl)))
  have x5 := x4.push { cls := .type "tuple", dict := none, data := .seq [Value.type "TypeError", .type "AttributeError"].toArray }
  have U5 := U4.stepX (h' := h4.push { cls := .type "tuple", dict := none, data := .seq [Value.type "TypeError", .type "AttributeError"].toArray }) (tk := s1.toks) hbs I.on x5.stay (Heap.UpToSlots.of_keeps fun b o e => Heap.get?_push_of_some _ e) (by show h4.objs.size ≤ _; rw [Heap.size_push]; exact Nat.le_succ _) (Nat.le_refl _)
  refine ⟨_, rfl, IsTup.new _ _, x5.typeIs (s := { s1 with heap := h4.push _ }), ?_⟩
  rw [if_neg (by decide)]
  refine wpAny_handleBy_nil (wp_sz (x_passOn (s := { s1 with heap := h4.push _ }) I.fl x5 fun h6 x6 sm6 z6 => ?_))
  have U6 := U5.stepX (h' := h6) hbs I.on x6.stay sm6 z6 (Nat.le_refl _)
  exact k _ _ ⟨U6, I.on, e, base, _, c, _, rfl, hfr, x6, .inr (.inr ⟨X.env.locals, I.fl, rfl⟩), hbs⟩
end
end Mine
end
section
open PySem PySem.W PyProof.Rows PySem.Calls PySem.SeqAt
set_option Elab.async false
set_option linter.unusedVariables false
set_option maxRecDepth 100000
namespace Mine
/-- a frame with one name bound: its token is drawn -/
theorem newEnv_tk {M : Model} {A : Around} {E : Value → Shared → Prop} {s : Shared} {scope : Scope} {globals : Addr} {n : Str} {v : Value} {qual : Str} {func : Option Addr} {code : Value} {builtins : Addr} {Q : Env → Shared → Prop}
    (hk : scope.kind = .function) (hl : scope.names.lookup n = some .local)
    (hQ : ∀ env, env = newEnv scope s.heap.objs.size globals (cellsFrom (s.heap.objs.size + 1) scope.names []) qual func code none builtins →
      ∀ s', InCallC s env.locals (bindL env.kindOf [(n, v)] fun _ => none) env.cells (bindC env.kindOf [(n, v)] fun _ => none) s' → s.toks + 1 ≤ s'.toks → Q env s') :
    wpAny M A (newFunctionEnv scope globals [] [(n, v)] qual func code none builtins) Q E s := by
  simp only [newFunctionEnv, Option.isSome_none, Bool.false_eq_true, if_false]
  refine wpAny_bind (wpAny_alloc ?_)
  refine wpAny_bind (wpAny_layCells _ (fun name kind cells => by cases hkc : kind == NameKind.cell <;> simp [hkc]) _ _ _ _ ?_)
  have ok := cellsFrom_ok scope.names (s.heap.push { cls := .type "frame", data := .dict #[] }) (s.heap.objs.size + 1) [] ⟨fun _ _ hm => (nomatch hm), List.Pairwise.nil⟩ (by rw [Heap.size_push]; exact Nat.le_refl _)
  rw [Heap.size_push] at ok
  rw [show ({ s with heap := s.heap.push { cls := .type "frame", data := .dict #[] } } : Shared).heap.objs.size = s.heap.objs.size + 1 from Heap.size_push ..]
  have hns := (Heap.Ns.new s.heap (.type "frame")).keeps (pushCells_keeps scope.names (s.heap.push { cls := .type "frame", data := .dict #[] }))
  have hko : (newEnv scope s.heap.objs.size globals (cellsFrom (s.heap.objs.size + 1) scope.names []) qual func code none builtins).kindOf n = some .local := hl
  have hke : ((newEnv scope s.heap.objs.size globals (cellsFrom (s.heap.objs.size + 1) scope.names []) qual func code none builtins).scope.kind == .class || ((newEnv scope s.heap.objs.size globals (cellsFrom (s.heap.objs.size + 1) scope.names []) qual func code none builtins).scope.kind == .module && (newEnv scope s.heap.objs.size globals (cellsFrom (s.heap.objs.size + 1) scope.names []) qual func code none builtins).locals != (newEnv scope s.heap.objs.size globals (cellsFrom (s.heap.objs.size + 1) scope.names []) qual func code none builtins).globals)) = false := by
    show (scope.kind == .class || (scope.kind == .module && _)) = false
    rw [hk]; rfl
  refine wpAny_bind ?_
  rw [List.forIn_cons]
  refine wpAny_bind ?_
  show wpAny M A (storeName (newEnv scope s.heap.objs.size globals (cellsFrom (s.heap.objs.size + 1) scope.names []) qual func code none builtins) n v >>= fun _ => pure (ForInStep.yield PUnit.unit)) _ E _
  refine wpAny_bind (wpAny_storeName_local hko (m := fun _ => none) hns (fun h' hn' hs' => ?_) hke)
  refine wpAny_pure ?_
  dsimp only
  rw [List.forIn_nil]
  refine wpAny_pure (wpAny_pure (hQ (newEnv scope s.heap.objs.size globals (cellsFrom (s.heap.objs.size + 1) scope.names []) qual func code none builtins) rfl _ ⟨⟨⟨_, _, rfl⟩, ?_, fun b o e => ?_, Nat.le_refl _⟩, fun k c hc => ?_, ok.apart, fun k c hm => (ok.empty k c hm).2⟩ (Nat.le_refl _)))
  · unfold bindL bindL
    rw [if_pos hko]; exact hn'
  · exact hs'.extBut b o (Nat.ne_of_lt (Heap.lt_size e)) (pushCells_keeps _ _ b o (Heap.get?_push_of_some _ e))
  · unfold bindC bindC
    rw [if_pos hko]
    exact ((ok.empty k c (mem_of_lookup hc)).1).sameBut hs' (Nat.ne_of_gt (ok.empty k c (mem_of_lookup hc)).2)
section
variable {B : Base}
theorem fn_core0 {f : Addr} {fd : FuncData} {body : List Stmt} {p : Str} {rest : List Str} {l : Nat} {args args' : List AV}
    (D : FnDef B.K f fd body) (hN : okNames fd.scope ([p] ++ rest) = true) (hpl : fd.scope.names.lookup p = some .local) (hb : BindsBy B fd [p] args args') (hlen : args'.length = [p].length)
    {A : Around} {G : View} {s : Shared} {vs : List Value} {Q : Value → Shared → Prop} {E : Value → Shared → Prop}
    (hh : A.handled = none) (hd : A.depth + (l + 1) < recursionLimit) (hu : A.units + 8 * (l + 1) + 200 < cLine) (T : Tp B s.heap) (fr : FramesOk A G s.heap) (hG : G.on s.heap) (rv : VRels G vs args)
    (h : ∀ (X : FI B fd.scope ([p] ++ rest)) (s2 : Shared), X.own = true → X.lvl = l → X.G₀.on X.s₀.heap → (∃ outer, A.frames = some outer ∧ X.A.frames = some (X.env :: outer)) → X.env.frame = some X.env.locals → Up s X.s₀ G X.G₀ → Sat X X.G₀ (start args' rest.length) s2 →
      wpAny (model B.prog B.w) X.A (execs body X.env) (fun fl s' => Q (match fl with | .ret v => v | _ => .none) s') (fun e s' => wpAny (model B.prog B.w) X.A (leaving X.env e) (fun _ s'' => E e s'') (fun e' s'' => E e' s'') s') s2) :
    wpAny (model B.prog B.w) A (call (.ref f) vs) Q E s := by
  obtain ⟨oc, od, osl, ho⟩ := D.ex
  refine wpAny_call (codeAny_call_function (fd := fd) (body := body) (by omega) (T.K _ _ ho) rfl D.hco D.hgen D.hbody (codeRec_of T.K D.code) ?_)
  rw [D.hclo]
  refine wp_tk (hb _ G s vs _ _ T hG rv fun ws s1 G1 u1 rw' hwl tk1 => ?_)
  have u1 : Up s s1 G G1 := ⟨u1, tk1⟩
  obtain ⟨wv, rfl⟩ := List.length_eq_one_iff.mp hwl
  show wpAny _ _ (newFunctionEnv fd.scope fd.globals [] [(p, wv)] _ _ _ _ _) _ _ s1
  refine newEnv_tk D.hk hpl fun env he s2 I htk2 => ?_
  obtain ⟨X, rfl, hA, h1, h2, rfl, h3, S0⟩ := fn_after (ps := [p]) (ws := [wv]) (t := s1.toks + 1) D hN hlen hh hd hu T fr u1 rw' hwl he I (Nat.succ_le_succ (Nat.zero_le _)) (Nat.le_succ _) htk2
  refine ⟨S0.top.T.nolimit, codeAny_func ?_⟩
  rw [← hA]
  obtain ⟨fs, hf1, _⟩ := fr.keeps u1.toUp0
  exact h X s2 h1 h2 (by rw [h3]; exact u1.on) ⟨fs, hf1, hA ▸ Around.frames_deeper hf1⟩ (by rw [he]; rfl) (by rw [h3]; exact ⟨u1.toUp0.tok _, Nat.le_succ_of_le u1.tk⟩) S0


/-- a contract that asks nothing of the tokens -/
noncomputable def Fn0 (B : Base) (f : Value) (lvl : Nat) (args : List AV) (r : AV) : Prop :=
  ∀ (A : Around) (G : View) (s : Shared) (vs : List Value) (Q : Value → Shared → Prop) (E : Value → Shared → Prop),
    A.handled = none → A.depth + lvl < recursionLimit → A.units + 8 * lvl + 200 < cLine → Tp B s.heap → FramesOk A G s.heap → G.on s.heap → VRels G vs args →
    (∀ v s' G', Up s s' G G' → VRel G' v r → Q v s') → wpAny (model B.prog B.w) A (call f vs) Q E s
theorem fn_go0 {f : Addr} {name qual : Str} {params : Arguments} {body : List Stmt} {sc : Scope} {g : Addr} {cl : List (Str × Addr)} {dv kv doc pm cd ct : Value} {an : Option Addr} {bl : Addr} {p : Str} {rest N : List Str} {σ : List Bnd} {l : Nat} {args args' : List AV} {r : AV}
    (ex : ∃ oc od osl, B.K.lookup f = some ⟨oc, od, .func ⟨name, qual, params, .stmts body, sc, g, cl, dv, kv, doc, pm, an, cd, ct, bl⟩, osl⟩)
    (code : codeIn B.K cd qual = true) (hf : (cl, g, bl, sc.isCoroutine, sc.isGenerator, sc.kind) = ([], mainGlobals, builtinsNs, false, false, ScopeKind.function)) (hpl : sc.names.lookup p = some .local)
    (hb : BindsBy B ⟨name, qual, params, .stmts body, sc, g, cl, dv, kv, doc, pm, an, cd, ct, bl⟩ [p] args args') (hNe : [p] ++ rest = N) (hN : okNames sc N = true) (hσ : start args' rest.length = σ) (hlen : args'.length = [p].length)
    (h : ∀ X : FI B sc N, X.own = true → X.lvl = l → Sx X σ body (.ret r)) : Fn0 B (.ref f) (l + 1) args r := fun A G s vs Q E hh hd hu T fr hG rv kk => by
  simp only [Prod.mk.injEq] at hf
  obtain ⟨h1, h2, h3, h4, h5, h6⟩ := hf
  subst hNe hσ
  exact fn_core0 ⟨ex, code, rfl, h1, h2, h3, h4, h5, h6⟩ hN hpl hb hlen hh hd hu T fr hG rv fun X s2 q1 q2 q3 q4 q5 u1 S0 => (h X q1 q2).run X.G₀ s2 _ _ S0 fun fl s3 G3 l3 f3 => by
    cases fl with
    | ret v => exact kk v s3 G3 (u1.trans f3.1) f3.2
    | _ => exact f3.elim
end
end Mine
end
section
open PySem PySem.W PyProof.Rows PySem.Calls
set_option Elab.async false
set_option linter.unusedVariables false
set_option maxRecDepth 100000
namespace Mine
theorem plainP_eq (p : List Nat) : (!p.isEmpty && ((p != [46]) && true)) = plainP p := by
  unfold plainP
  cases p with
  | nil => rfl
  | cons a r =>
    by_cases h : (a :: r) = [46]
    · rw [h]; rfl
    · have h1 : ((a :: r) != [46]) = true := by simpa using h
      have h2 : ([([] : List Nat), [46]].contains (a :: r)) = false := by
        rw [List.contains_eq_mem, decide_eq_false_iff_not]
        simpa using h
      rw [h1, h2]; rfl
noncomputable def rootedB (x : List Nat) : Bool := x.head? == some 47
noncomputable def comS (a b c : List Nat) : List Nat := (if rootedB a = true then [47] else []) ++ joinc [47] (lcp (minL (cleanP a) [cleanP b, cleanP c]) (maxL (cleanP a) [cleanP b, cleanP c]))
theorem cleanP_wt (r : List Nat) : wt (cleanP r) ≤ r.length + 1 := by
  have h1 := wt_sub (List.filter_sublist (p := plainP) (l := splitc 47 r))
  have h2 := wt_splitc 47 r
  unfold cleanP
  omega
theorem hokB3 (b1 b2 b3 : Bool) : ∀ led k, okB (bset led ([b1, b2, b3].take k)) = true := fun led k => by
  have h : ∀ k, k < 4 → okB (bset led ([b1, b2, b3].take k)) = true := by
    cases led <;> cases b1 <;> cases b2 <;> cases b3 <;> decide +kernel
  rcases Nat.lt_or_ge k 4 with q | q
  · exact h k q
  · have := h 3 (by decide)
    rwa [List.take_of_length_le (by simp : [b1, b2, b3].length ≤ 3), ← List.take_of_length_le (by simp; omega : [b1, b2, b3].length ≤ k)] at this
theorem one3 (b : Bool) : ∀ led, oneOf (bset led [b, b, b]) led b := fun led => by
  cases led <;> cases b <;> exact ⟨_, _, rfl, by decide +kernel, rfl, rfl, rfl⟩
theorem two3 (b1 b2 b3 : Bool) (h : ¬ (b1 = b2 ∧ b2 = b3)) : ∀ led, twoOf (bset led [b1, b2, b3]) led := fun led => by
  cases led <;> cases b1 <;> cases b2 <;> cases b3 <;> first | exact absurd ⟨rfl, rfl⟩ h | exact ⟨_, _, _, _, rfl, by decide +kernel, rfl, rfl, rfl, by decide +kernel⟩
theorem wt_mem {q : List Nat} : ∀ {L : List (List Nat)}, q ∈ L → q.length + 1 ≤ wt L
  | x :: L, h => by
    rw [wt_cons]
    rcases List.mem_cons.mp h with rfl | h
    · omega
    · have := wt_mem h; omega
theorem splitc_mem_len {c : Nat} {q r : List Nat} (h : q ∈ splitc c r) : q.length ≤ r.length := by
  have := wt_mem h
  rw [wt_splitc] at this; omega
section
variable {B : Base} {sc : Scope} {N : List Str} {X : FI B sc N} {σ : List Bnd}
theorem tst_tup {e : Expr} {xs : List AV} (h : Ex X σ e (.tup xs)) (hs : xs.length ≤ sizeLine) (hp : plainTest e = true := by rfl) : Tst X σ e (!xs.isEmpty) := .mk fun G s Q E Sa kk =>
  wpAny_isTrue_value (h.run G s _ E Sa fun v s1 G1 u1 r => by
    cases r with
    | tup h hv =>
      rename_i a vs
      have hS : sizeLine = 16777216 := rfl
      have hl := VRels.length_eq hv
      refine truthy_tuple (items := vs.toArray) ⟨_, u1.on _ _ h, rfl, _, rfl⟩ (by simp; omega) ?_
      have e : (!vs.toArray.isEmpty) = !xs.isEmpty := by
        cases vs <;> cases xs <;> simp_all
      rw [e]
      exact kk _ G1 (u1.trans ⟨(Up0.refl u1.on).tok _, by show s1.toks ≤ s1.toks + 1 + 1; omega⟩)) (isTrue_plain' hp)
end
section
variable {w : World} {mg mb : Str → Option Value}
theorem c_commonpath (a b c : List Nat) (ha : a.length ≤ 900000) (hb : b.length ≤ 900000) (hc : c.length ≤ 900000) (h1 : rootedB a = rootedB b) (h2 : rootedB b = rootedB c) : Fn (bs w mg mb) (.ref 208) 5 [.strs [a, b, c]] (.str (comS a b c)) := by
  refine fn_go (N := [Str.ofString "paths", Str.ofString "sep", Str.ofString "curdir", Str.ofString "split_paths", Str.ofString "isabs", Str.ofString "s1", Str.ofString "s2", Str.ofString "common", Str.ofString "i", Str.ofString "c", Str.ofString "prefix"]) (σ := [.val (.strs [a, b, c]), .no, .no, .no, .no, .no, .no, .no, .no, .no, .no]) (ps := [Str.ofString "paths"]) (rest := [Str.ofString "sep", Str.ofString "curdir", Str.ofString "split_paths", Str.ofString "isabs", Str.ofString "s1", Str.ofString "s2", Str.ofString "common", Str.ofString "i", Str.ofString "c", Str.ofString "prefix"]) ⟨_, _, _, rfl⟩ rfl rfl (binds1 (a := .strs [a, b, c]) fun _ => rfl) rfl (by decide +kernel) rfl rfl ?_
  intro X ho hl
  have hS := sizeL
  have hall : ∀ r ∈ [a, b, c], r.length ≤ 900000 := fun r hr => by
    simp only [List.mem_cons, List.not_mem_nil, or_false] at hr
    rcases hr with rfl | rfl | rfl <;> assumption
  refine sx_cons s1_doc ?_
  apply sx_set
  · exact ex_tuplemap (xb_tuple rfl) (xb_map rfl) (xg_fspath rfl) (ex_loc .here) (rs := [.str a, .str b, .str c]) (fun i p q hp hq => by
      have e : p = q := by
        have : some p = some q := hp.symm.trans hq
        exact Option.some.inj this
      subst e
      have hm : p ∈ ([.str a, .str b, .str c] : List AV) := List.mem_of_getElem? hp
      simp only [List.mem_cons, List.not_mem_nil, or_false] at hm
      rcases hm with rfl | rfl | rfl <;> exact c_fspath _) rfl (Nat.le_of_ble_eq_true rfl) (by omega)
  · walk_at "set"
  · exact ho
  · rfl
  apply sx_if_skip
  · exact tst_not (tst_tup (ex_loc (a := .tup [.str a, .str b, .str c]) .here) (Nat.le_of_ble_eq_true rfl))
  · rfl
  apply sx_if_f
  · exact (tst_val (ex_call (xb_isinstance rfl) (es_cons (ex_sub (ex_loc .here) ex_int (itm_tup (i := 0) (r := .str a) rfl (Nat.le_of_ble_eq_true rfl))) (es_cons (xb_bytes rfl) es_nil)) fn_isi_bytes rfl) rfl trivial)
  · rfl
  · apply sx_set
    · exact (ex_str (l := [47]) rfl)
    · walk_at "set"
    · exact ho
    · rfl
    apply sx_set
    · exact (ex_str (l := [46]) rfl)
    · walk_at "set"
    · exact ho
    · rfl
    exact sx_nil
  refine sx_one (s1_try (o := .ret (.str (comS a b c))) ?_) (fun _ e => by cases e)
  apply sx_cons
  · apply s1_comp (rs := ([a, b, c].map (splitc 47)).map AV.strs) (ys := [Str.ofString "sep"]) (bs := [.val (.str [47])])
    · exact itr_tup (xs := [a, b, c].map AV.str) (ex_loc (a := .tup [.str a, .str b, .str c]) (by walk_at "var"))
    · exact .cons (by walk_at "var") .nil
    · decide +kernel
    · exact Nat.le_of_ble_eq_true rfl
    · intro X' h1 h2
      rw [List.map_map]
      refine cmpr_map AV.str _ [a, b, c] fun r hr => ?_
      have hrl := hall r hr
      exact ex_meth1 (ex_loc .here) (ex_loc (.there .here)) (m_split (by omega)) rfl rfl rfl
    · walk_at "set"
    · decide +kernel
  refine sx_cons (σ := [.val (.tup [.str a, .str b, .str c]), .val (.str [47]), .val (.str [46]), .val (.list (([a, b, c].map (splitc 47)).map AV.strs)), .no, .no, .no, .no, .no, .no, .no]) (τ := [.val (.tup [.str a, .str b, .str c]), .val (.str [47]), .val (.str [46]), .val (.list (([a, b, c].map (splitc 47)).map AV.strs)), .val (.bool (rootedB a)), .no, .no, .no, .no, .no, .no]) ?_ ?_
  · refine s1_try ?_
    refine sx_cons (τ := [.val (.tup [.str a, .str b, .str c]), .val (.str [47]), .val (.str [46]), .val (.list (([a, b, c].map (splitc 47)).map AV.strs)), .val (.bool (rootedB a)), .no, .no, .no, .no, .no, .no]) ?_ ?_
    · apply s1_set1 (rs := [rootedB a, rootedB a, rootedB a]) (b := rootedB a) (ys := [Str.ofString "sep"]) (bs := [.val (.str [47])])
      · exact itr_tup (xs := [a, b, c].map AV.str) (ex_loc (a := .tup [.str a, .str b, .str c]) (by walk_at "var"))
      · exact .cons (by walk_at "var") .nil
      · decide +kernel
      · exact Nat.le_of_ble_eq_true rfl
      · intro X' q1 q2
        refine .take (ex_meth1 (ex_loc .here) (ex_loc (.there .here)) m_startswith rfl rfl rfl) (.take ((ex_meth1 (ex_loc .here) (ex_loc (.there .here)) m_startswith rfl rfl rfl).of (r' := .bool (rootedB a)) ?_) (.take ((ex_meth1 (ex_loc .here) (ex_loc (.there .here)) m_startswith rfl rfl rfl).of (r' := .bool (rootedB a)) ?_) .nil))
        · rw [h1]; rfl
        · rw [h1, h2]; rfl
      · exact hokB3 _ _ _
      · exact one3 _
      · walk_at "set"
      · exact ho
    · exact sx_nil
  apply sx_cons
  · apply s1_comp (rs := ([a, b, c].map cleanP).map AV.strs) (ys := [Str.ofString "curdir"]) (bs := [.val (.str [46])])
    · exact itr_list (xs := ([a, b, c].map (splitc 47)).map AV.strs) (ex_loc (by walk_at "var"))
    · exact .cons (by walk_at "var") .nil
    · decide +kernel
    · exact Nat.le_of_ble_eq_true rfl
    · intro X' q1 q2
      rw [List.map_map, List.map_map]
      refine cmpr_map (AV.strs ∘ splitc 47) (AV.strs ∘ cleanP) [a, b, c] fun r hr => ?_
      have hrl := hall r hr
      have hsp := splitc_le 47 r
      refine ex_comp (rs := (cleanP r).map AV.str) (xs := (splitc 47 r).map AV.str) (ys := [Str.ofString "curdir"]) (bs := [.val (.str [46])]) (itr_list (ex_loc .here)) (.cons (.there .here) .nil) (by decide +kernel) (by rw [List.length_map]; omega) (fun X'' q3 q4 => ?_)
      refine cmpr_filter AV.str AV.str plainP (splitc 47 r) (fun q hq => ?_) (fun q hq _ => ex_loc .here)
      have hql := splitc_mem_len hq
      exact ifs_one ((tst_bool (and_cons (tst_val (ex_loc .here) rfl (show q.length ≤ _ by omega)) (fun _ => and_cons (tst_cmp1 (ex_loc .here) (ex_loc (.there .here)) cmp_ne_str rfl) (fun _ => and_nil)))).of (plainP_eq q))
    · walk_at "set"
    · decide +kernel
  apply sx_set
  · exact ex_call (xb_min rfl) (es_cons (ex_loc (a := .list (([a, b, c].map cleanP).map AV.strs)) (by walk_at "var")) es_nil) (fn_min_lists (x := cleanP a) (xs := [cleanP b, cleanP c])) rfl
  · walk_at "set"
  · exact ho
  · rfl
  apply sx_set
  · exact ex_call (xb_max rfl) (es_cons (ex_loc (a := .list (([a, b, c].map cleanP).map AV.strs)) (by walk_at "var")) es_nil) (fn_max_lists (x := cleanP a) (xs := [cleanP b, cleanP c])) rfl
  · walk_at "set"
  · exact ho
  · rfl
  have hcl : ∀ r, r = cleanP a ∨ r ∈ [cleanP b, cleanP c] → wt r ≤ 900001 := fun r hr => by
    have w1 := cleanP_wt a
    have w2 := cleanP_wt b
    have w3 := cleanP_wt c
    simp only [List.mem_cons, List.not_mem_nil, or_false] at hr
    rcases hr with rfl | rfl | rfl <;> omega
  have g1 : wt (minL (cleanP a) [cleanP b, cleanP c]) ≤ 900001 := hcl _ bestOf_mem
  have g2 : wt (maxL (cleanP a) [cleanP b, cleanP c]) ≤ 900001 := hcl _ bestOf_mem
  have hmm := minmaxL (cleanP a) [cleanP b, cleanP c]
  have hres : comS a b c = (if rootedB a = true then [47] else []) ++ joinc [47] (lcp (minL (cleanP a) [cleanP b, cleanP c]) (maxL (cleanP a) [cleanP b, cleanP c])) := rfl
  rw [hres]
  change Sx X [_, _, _, _, _, .val (.strs (minL (cleanP a) [cleanP b, cleanP c])), .val (.strs (maxL (cleanP a) [cleanP b, cleanP c])), _, _, _, _] _ _
  generalize minL (cleanP a) [cleanP b, cleanP c] = s1 at g1 hmm ⊢
  generalize maxL (cleanP a) [cleanP b, cleanP c] = s2 at g2 hmm ⊢
  have l1 := wt_len s1
  have l2 := wt_len s2
  have hk0 := lcp_len s1 s2
  have hsl : (lcp s1 s2).Sublist s1 := by rw [← lcp_take]; exact List.take_sublist _ _
  have hwl := wt_sub hsl
  have hjl := joinc_len (lcp s1 s2)
  have hww : wt (lcp s1 s2) ≤ sizeLine := by omega
  have hel : ∀ (k : Nat) (p : AV), (s1.map AV.str)[k]? = some p → ∃ d, s1[k]? = some d ∧ p = .str d := fun k p hp => by
    rw [List.getElem?_map] at hp
    obtain ⟨d, hd, rfl⟩ := Option.map_eq_some_iff.mp hp
    exact ⟨d, hd, rfl⟩
  apply sx_set
  · exact ex_loc (a := .strs s1) (by walk_at "var")
  · walk_at "set"
  · exact ho
  · rfl
  by_cases hlt : (lcp s1 s2).length < s1.length
  · have hslc : slc none (some ((lcp s1 s2).length : Int)) s1 = lcp s1 s2 := by rw [slc_to, lcp_take]
    refine sx_cons (τ := [.val (.tup [.str a, .str b, .str c]), .val (.str [47]), .val (.str [46]), .val (.list (([a, b, c].map cleanP).map AV.strs)), .val (.bool (rootedB a)), .val (.strs s1), .val (.strs s2), .val (.strs (lcp s1 s2)), .val (.int ((lcp s1 s2).length : Nat)), .val (.str (s1[(lcp s1 s2).length]'hlt)), .no]) (s1_forE_list (xb_enumerate rfl) (ex_loc (a := .strs s1) (by walk_at "var")) ((loopE_pre (o1 := .brk [.val (.tup [.str a, .str b, .str c]), .val (.str [47]), .val (.str [46]), .val (.list (([a, b, c].map cleanP).map AV.strs)), .val (.bool (rootedB a)), .val (.strs s1), .val (.strs s2), .val (.strs (lcp s1 s2)), .val (.int ((lcp s1 s2).length : Nat)), .val (.str (s1[(lcp s1 s2).length]'hlt)), .no]) (k0 := (lcp s1 s2).length) (xs := s1.map AV.str) (fun b1 b2 => [.val (.tup [.str a, .str b, .str c]), .val (.str [47]), .val (.str [46]), .val (.list (([a, b, c].map cleanP).map AV.strs)), .val (.bool (rootedB a)), .val (.strs s1), .val (.strs s2), .val (.strs s1), b1, b2, .no]) (by rw [List.length_map]; exact hk0) (fun b1 b2 k p => ?_) (fun k p hk hp => ?_) (fun p hp => ?_) (.inr ⟨_, rfl, rfl⟩) (lcp s1 s2).length 0 .no .no rfl (Nat.zero_le _)).1 (by rw [List.length_map]; exact hlt)) ho) ?_
    · exact .cons (by walk_at "set") (.cons (by walk_at "set") .nil)
    · obtain ⟨d, hd, rfl⟩ := hel k p hp
      have hd2 : s2[k]? = some d := (lcp_eq s1 s2 k hk).symm.trans hd
      exact sx_if_skip (tst_cmp1 (ex_loc (a := .str d) (by walk_at "var")) (ex_sub (ex_loc (a := .strs s2) (by walk_at "var")) (ex_loc (by walk_at "var")) (itm_list (show (s2.map AV.str)[_]? = some _ by rw [List.getElem?_map, hd2]; rfl) (by rw [List.length_map]; omega))) cmp_ne_str rfl) (by simp) sx_nil
    · obtain ⟨d, hd, rfl⟩ := hel _ p hp
      obtain ⟨d2, hd2, hne⟩ := lcp_ne s1 s2 hmm hlt
      have hdd : d ≠ d2 := fun e => hne (by rw [hd, e])
      have hdx : s1[(lcp s1 s2).length]'hlt = d := by rw [List.getElem?_eq_getElem hlt] at hd; exact Option.some.inj hd
      rw [hdx]
      refine sx_if_tr (tst_cmp1 (ex_loc (a := .str d) (by walk_at "var")) (ex_sub (ex_loc (a := .strs s2) (by walk_at "var")) (ex_loc (by walk_at "var")) (itm_list (show (s2.map AV.str)[_]? = some _ by rw [List.getElem?_map, hd2]; rfl) (by rw [List.length_map]; omega))) cmp_ne_str rfl) (by simpa using hdd) ?_
      apply sx_set
      · exact (ex_slice_strs (ex_loc (a := .strs s1) (by walk_at "var")) pt_none (pt_some (ex_loc (by walk_at "var"))) (by omega)).of (r' := .strs (lcp s1 s2)) (by rw [hslc])
      · walk_at "set"
      · exact ho
      · rfl
      exact sx_one s1_brk (fun _ e => by cases e)
    apply sx_set
    · exact ex_if_str (tst_val (ex_loc (a := .bool (rootedB a)) (by walk_at "var")) rfl trivial) (fun _ => ex_loc (by walk_at "var")) (fun _ => (ex_slice_str (lo := none) (hi := some 0) (ex_loc (a := .str [47]) (by walk_at "var")) pt_none (pt_some ex_int) (by show 1 ≤ sizeLine; omega)).of (r' := .str []) rfl)
    · walk_at "set"
    · exact ho
    · rfl
    exact sx_ret (ex_bin (ex_loc (by walk_at "var")) (ex_meth1 (ex_loc (a := .str [47]) (by walk_at "var")) (ex_loc (a := .strs (lcp s1 s2)) (by walk_at "var")) (m_join (wt_side hww)) rfl rfl rfl) (bop_add_str (by split <;> simp only [List.length_cons, List.length_nil] <;> omega)))
  · have hke : (lcp s1 s2).length = s1.length := by omega
    have hle : lcp s1 s2 = s1 := by
      have := lcp_take s1 s2
      rw [hke, List.take_length] at this
      exact this.symm
    refine sx_forE_list_end (xs := s1.map AV.str) (fun b1 b2 => [.val (.tup [.str a, .str b, .str c]), .val (.str [47]), .val (.str [46]), .val (.list (([a, b, c].map cleanP).map AV.strs)), .val (.bool (rootedB a)), .val (.strs s1), .val (.strs s2), .val (.strs s1), b1, b2, .no]) (b1 := .no) (b2 := .no) (xb_enumerate rfl) (ex_loc (a := .strs s1) (by walk_at "var")) ho (fun b1 b2 k p => ?_) (fun k p hk hp => ?_) (fun b1 b2 => ?_)
    · exact .cons (by walk_at "set") (.cons (by walk_at "set") .nil)
    · obtain ⟨d, hd, rfl⟩ := hel k p hp
      have hd2 : s2[k]? = some d := (lcp_eq s1 s2 k (by rw [List.length_map] at hk; omega)).symm.trans hd
      exact sx_if_skip (tst_cmp1 (ex_loc (a := .str d) (by walk_at "var")) (ex_sub (ex_loc (a := .strs s2) (by walk_at "var")) (ex_loc (by walk_at "var")) (itm_list (show (s2.map AV.str)[_]? = some _ by rw [List.getElem?_map, hd2]; rfl) (by rw [List.length_map]; omega))) cmp_ne_str rfl) (by simp) sx_nil
    rw [hle] at hwl hjl hww ⊢
    apply sx_set
    · exact ex_if_str (tst_val (ex_loc (a := .bool (rootedB a)) (by walk_at "var")) rfl trivial) (fun _ => ex_loc (by walk_at "var")) (fun _ => (ex_slice_str (lo := none) (hi := some 0) (ex_loc (a := .str [47]) (by walk_at "var")) pt_none (pt_some ex_int) (by show 1 ≤ sizeLine; omega)).of (r' := .str []) rfl)
    · walk_at "set"
    · exact ho
    · rfl
    exact sx_ret (ex_bin (ex_loc (by walk_at "var")) (ex_meth1 (ex_loc (a := .str [47]) (by walk_at "var")) (ex_loc (a := .strs s1) (by walk_at "var")) (m_join (wt_side hww)) rfl rfl rfl) (bop_add_str (by split <;> simp only [List.length_cons, List.length_nil] <;> omega)))
end
end Mine
end
section
open PySem PySem.W PyProof.Rows PySem.Calls
set_option Elab.async false
set_option linter.unusedVariables false
set_option maxRecDepth 100000
namespace Mine
section
variable {B : Base} {sc : Scope} {N : List Str} {X : FI B sc N} {σ : List Bnd}
theorem sxR_if_f {t : Expr} {b : Bool} {body orelse r : List Stmt} {τ : List Bnd} {pos : Pos} (h : Tst X σ t b) (hb : b = false) (h1 : Sx X σ orelse (.next τ)) (hr : SxR X τ r) : SxR X σ (.If t body orelse pos :: r) :=
  sxR_cons (s1_if h (fun e => by rw [hb] at e; cases e) fun _ => h1) hr
theorem sxR_if_t {t : Expr} {b : Bool} {body orelse r : List Stmt} {pos : Pos} (h : Tst X σ t b) (hb : b = true) (h1 : SxR X σ body) : SxR X σ (.If t body orelse pos :: r) := .mk fun G s Q E Sa kk =>
  wpAny_execs_cons (wpAny_If (h.run G s _ E Sa fun s1 G1 u1 => by
    rw [hb]
    exact h1.run G1 s1 _ E (Sa.upd u1) kk))
end
section
variable {w : World} {mg mb : Str → Option Value}
theorem c_commonpathR (a b c : List Nat) (ha : a.length ≤ 900000) (hb : b.length ≤ 900000) (hc : c.length ≤ 900000) (h1 : ¬ (rootedB a = rootedB b ∧ rootedB b = rootedB c)) : FnR (bs w mg mb) (.ref 208) 5 [.strs [a, b, c]] := by
  refine fn_goR (N := [Str.ofString "paths", Str.ofString "sep", Str.ofString "curdir", Str.ofString "split_paths", Str.ofString "isabs", Str.ofString "s1", Str.ofString "s2", Str.ofString "common", Str.ofString "i", Str.ofString "c", Str.ofString "prefix"]) (σ := [.val (.strs [a, b, c]), .no, .no, .no, .no, .no, .no, .no, .no, .no, .no]) (ps := [Str.ofString "paths"]) (rest := [Str.ofString "sep", Str.ofString "curdir", Str.ofString "split_paths", Str.ofString "isabs", Str.ofString "s1", Str.ofString "s2", Str.ofString "common", Str.ofString "i", Str.ofString "c", Str.ofString "prefix"]) ⟨_, _, _, rfl⟩ rfl rfl (binds1 (a := .strs [a, b, c]) fun _ => rfl) rfl (by decide +kernel) rfl rfl ?_
  intro X I hl
  have ho := I.own
  have hS := sizeL
  have hall : ∀ r ∈ [a, b, c], r.length ≤ 900000 := fun r hr => by
    simp only [List.mem_cons, List.not_mem_nil, or_false] at hr
    rcases hr with rfl | rfl | rfl <;> assumption
  refine sxR_cons s1_doc ?_
  refine sxR_cons (τ := [.val (.tup [.str a, .str b, .str c]), .no, .no, .no, .no, .no, .no, .no, .no, .no, .no]) (s1_assign ?_ (by walk_at "set") (.inr ho) rfl) ?_
  · exact ex_tuplemap (xb_tuple rfl) (xb_map rfl) (xg_fspath rfl) (ex_loc .here) (rs := [.str a, .str b, .str c]) (fun i p q hp hq => by
      have e : p = q := by
        have : some p = some q := hp.symm.trans hq
        exact Option.some.inj this
      subst e
      have hm : p ∈ ([.str a, .str b, .str c] : List AV) := List.mem_of_getElem? hp
      simp only [List.mem_cons, List.not_mem_nil, or_false] at hm
      rcases hm with rfl | rfl | rfl <;> exact c_fspath _) rfl (Nat.le_of_ble_eq_true rfl) (by omega)
  refine sxR_if_f (τ := [.val (.tup [.str a, .str b, .str c]), .no, .no, .no, .no, .no, .no, .no, .no, .no, .no]) (tst_not (tst_tup (ex_loc (a := .tup [.str a, .str b, .str c]) .here) (Nat.le_of_ble_eq_true rfl))) rfl sx_nil ?_
  refine sxR_if_f (τ := [.val (.tup [.str a, .str b, .str c]), .val (.str [47]), .val (.str [46]), .no, .no, .no, .no, .no, .no, .no, .no]) ?_ rfl ?_ ?_
  · exact (tst_val (ex_call (xb_isinstance rfl) (es_cons (ex_sub (ex_loc .here) ex_int (itm_tup (i := 0) (r := .str a) rfl (Nat.le_of_ble_eq_true rfl))) (es_cons (xb_bytes rfl) es_nil)) fn_isi_bytes rfl) rfl trivial)
  · apply sx_set
    · exact (ex_str (l := [47]) rfl)
    · walk_at "set"
    · exact ho
    · rfl
    apply sx_set
    · exact (ex_str (l := [46]) rfl)
    · walk_at "set"
    · exact ho
    · rfl
    exact sx_nil
  refine sxR_one (s1R_tryTup I ?_ rfl b_TypeError (by kernel_rfl) (by decide +kernel) rfl b_AttributeError (by kernel_rfl) (by decide +kernel))
  refine sxR_cons (τ := [.val (.tup [.str a, .str b, .str c]), .val (.str [47]), .val (.str [46]), .val (.list (([a, b, c].map (splitc 47)).map AV.strs)), .no, .no, .no, .no, .no, .no, .no]) ?_ ?_
  · apply s1_comp (rs := ([a, b, c].map (splitc 47)).map AV.strs) (ys := [Str.ofString "sep"]) (bs := [.val (.str [47])])
    · exact itr_tup (xs := [a, b, c].map AV.str) (ex_loc (a := .tup [.str a, .str b, .str c]) (by walk_at "var"))
    · exact .cons (by walk_at "var") .nil
    · decide +kernel
    · exact Nat.le_of_ble_eq_true rfl
    · intro X' q1 q2
      rw [List.map_map]
      refine cmpr_map AV.str _ [a, b, c] fun r hr => ?_
      have hrl := hall r hr
      exact ex_meth1 (ex_loc .here) (ex_loc (.there .here)) (m_split (by omega)) rfl rfl rfl
    · walk_at "set"
    · decide +kernel
  refine sxR_one (s1R_mixed (rs := [rootedB a, rootedB b, rootedB c]) (ys := [Str.ofString "sep"]) (bs := [.val (.str [47])]) I (itr_tup (xs := [a, b, c].map AV.str) (ex_loc (a := .tup [.str a, .str b, .str c]) (by walk_at "var"))) (.cons (by walk_at "var") .nil) (by decide +kernel) (Nat.le_of_ble_eq_true rfl) (fun X' q1 q2 => ?_) (hokB3 _ _ _) (two3 _ _ _ h1) rfl b_ValueError (by kernel_rfl) (by decide +kernel))
  exact .take (ex_meth1 (ex_loc .here) (ex_loc (.there .here)) m_startswith rfl rfl rfl) (.take (ex_meth1 (ex_loc .here) (ex_loc (.there .here)) m_startswith rfl rfl rfl) (.take (ex_meth1 (ex_loc .here) (ex_loc (.there .here)) m_startswith rfl rfl rfl) .nil))
theorem c_relpathR (y : List Nat) : FnR (bs w mg mb) (.ref 203) 6 [.str [], .str y] := by
  refine fn_goR (N := [Str.ofString "path", Str.ofString "start", Str.ofString "curdir", Str.ofString "sep", Str.ofString "pardir", Str.ofString "start_tail", Str.ofString "path_tail", Str.ofString "start_list", Str.ofString "path_list", Str.ofString "i", Str.ofString "rel_list"]) (σ := [.val (.str []), .val (.str y), .no, .no, .no, .no, .no, .no, .no, .no, .no]) (ps := [Str.ofString "path", Str.ofString "start"]) (rest := [Str.ofString "curdir", Str.ofString "sep", Str.ofString "pardir", Str.ofString "start_tail", Str.ofString "path_tail", Str.ofString "start_list", Str.ofString "path_list", Str.ofString "i", Str.ofString "rel_list"]) ⟨_, _, _, rfl⟩ rfl rfl (binds2d (a := .str []) (b := .str y) (d := 196) ⟨_, _, _, rfl⟩ (fun _ _ => rfl) (fun _ _ => rfl)) rfl (by decide +kernel) rfl rfl ?_
  intro X I hl
  have ho := I.own
  refine sxR_cons s1_doc ?_
  refine sxR_cons (τ := [.val (.str []), .val (.str y), .no, .no, .no, .no, .no, .no, .no, .no, .no]) (s1_assign ?_ (by walk_at "set") (.inr ho) rfl) ?_
  · exact (ex_call (xg_fspath rfl) (es_cons (ex_loc (by walk_at "var")) es_nil) (Fn.inX (by walk_at "fn fspath") (by omega)) rfl)
  refine sxR_if_t (tst_not (tst_val (ex_loc (a := .str []) (by walk_at "var")) rfl (Nat.zero_le _))) rfl ?_
  exact sxR_one (s1R_raise I (ex_str rfl) rfl b_ValueError (by kernel_rfl) (by decide +kernel))
end
end Mine
end
section
open PySem PySem.W PyProof.Rows PySem.Calls
set_option Elab.async false
set_option linter.unusedVariables false
set_option maxRecDepth 100000
namespace Mine
noncomputable def evenR (x y z : List Nat) : Bool := (rootedB x == rootedB y) && (rootedB y == rootedB z)
noncomputable def didS (k : Int) (x y z : List Nat) : List Nat × List Nat :=
  if (k == 0) = true then (joinS x y, y)
  else if (k == 1) = true then (trimS (headS x), tailS x)
  else if (k == 2) = true then (normS x, y)
  else if (k == 3) = true then (extA x, y ++ extB x)
  else if (k == 4) = true then (if evenR x y z = true then comS x y z else x ++ [33], y)
  else if (k == 5) = true then (lcp (minR x [y, z]) (maxR x [y, z]), y)
  else if (k == 6) = true then (rootT x, [] ++ rootR x ++ y)
  else if (x == []) = true then (x ++ [33], y) else (relS x y, y)
theorem extB_len (x : List Nat) : (extB x).length ≤ x.length := by
  unfold extB
  split <;> exact (slc_sub _ _ _).length_le
section
variable {w : World} {mg mb : Str → Option Value}
theorem c_law_did (k : Int) (x y z : List Nat) (hx : x.length ≤ 900000) (hy : y.length ≤ 900000) (hz : z.length ≤ 900000) (h7k : (k == 0) = false → (k == 1) = false → (k == 2) = false → (k == 3) = false → (k == 4) = false → (k == 5) = false → (k == 6) = false → x ≠ [] → x.head? = some 47 ∧ y.head? = some 47) :
    Fn (bs w mg mb) (.ref 335) 7 [.int k, .str x, .str y, .str z] (.tup [.str (didS k x y z).1, .str (didS k x y z).2]) := by
  refine fn_goC (N := [Str.ofString "kind", Str.ofString "one", Str.ofString "two", Str.ofString "last", Str.ofString "stem", Str.ofString "ending", Str.ofString "drive", Str.ofString "root", Str.ofString "rest"]) (σ := [.val (.int k), .val (.str x), .val (.str y), .val (.str z), .no, .no, .no, .no, .no]) (ps := [Str.ofString "kind", Str.ofString "one", Str.ofString "two", Str.ofString "last"]) (rest := [Str.ofString "stem", Str.ofString "ending", Str.ofString "drive", Str.ofString "root", Str.ofString "rest"]) ⟨_, _, _, rfl⟩ rfl rfl (binds4 (a := .int k) (b := .str x) (c := .str y) (d := .str z) fun _ _ _ _ => rfl) rfl (by decide +kernel) rfl rfl ?_
  intro X I hl
  have ho := I.own
  have hS := sizeL
  have hr := rootR_len x
  by_cases h0 : (k == 0) = true
  · refine (sx_if_tr (tst_cmp1 (ex_loc (by walk_at "var")) ex_int cmp_eq_int rfl) h0 (sx_ret (ex_tuple (es_cons (ex_call (xg_join rfl) (es_cons (ex_loc (by walk_at "var")) (es_cons (ex_loc (by walk_at "var")) es_nil)) (Fn.inX (c_join x y (by omega) (by omega)) (by omega)) rfl) (es_cons (ex_loc (by walk_at "var")) es_nil)) (Nat.le_of_ble_eq_true rfl)))).to ?_
    unfold didS; rw [if_pos h0]
  refine sx_if_skip (tst_cmp1 (ex_loc (by walk_at "var")) ex_int cmp_eq_int rfl) (by simpa using h0) ?_
  by_cases h1 : (k == 1) = true
  · refine (sx_if_tr (tst_cmp1 (ex_loc (by walk_at "var")) ex_int cmp_eq_int rfl) h1 (sx_ret (ex_call (xg_split rfl) (es_cons (ex_loc (by walk_at "var")) es_nil) (Fn.inX (c_split x (by omega)) (by omega)) rfl))).to ?_
    unfold didS; rw [if_neg h0, if_pos h1]
  refine sx_if_skip (tst_cmp1 (ex_loc (by walk_at "var")) ex_int cmp_eq_int rfl) (by simpa using h1) ?_
  by_cases h2 : (k == 2) = true
  · refine (sx_if_tr (tst_cmp1 (ex_loc (by walk_at "var")) ex_int cmp_eq_int rfl) h2 (sx_ret (ex_tuple (es_cons (ex_call (xg_normpath rfl) (es_cons (ex_loc (by walk_at "var")) es_nil) (Fn.inX (c_normpath x (by omega)) (by omega)) rfl) (es_cons (ex_loc (by walk_at "var")) es_nil)) (Nat.le_of_ble_eq_true rfl)))).to ?_
    unfold didS; rw [if_neg h0, if_neg h1, if_pos h2]
  refine sx_if_skip (tst_cmp1 (ex_loc (by walk_at "var")) ex_int cmp_eq_int rfl) (by simpa using h2) ?_
  by_cases h3 : (k == 3) = true
  · refine (sx_if_tr (o := .ret (.tup [.str (extA x), .str (y ++ extB x)])) (tst_cmp1 (ex_loc (by walk_at "var")) ex_int cmp_eq_int rfl) h3 ?_).to ?_
    · have hb := extB_len x
      refine sx_cons (s1_tup (xs := [Str.ofString "stem", Str.ofString "ending"]) (ex_call (xg_splitext rfl) (es_cons (ex_loc (by walk_at "var")) es_nil) (Fn.inX (c_splitext x (by omega)) (by omega)) rfl) rfl (.cons (by walk_at "set") (.cons (by walk_at "set") .nil)) ho rfl rfl) ?_
      exact sx_ret (ex_tuple (es_cons (ex_loc (by walk_at "var")) (es_cons (ex_bin (ex_loc (by walk_at "var")) (ex_loc (by walk_at "var")) (bop_add_str (by omega))) es_nil)) (Nat.le_of_ble_eq_true rfl))
    unfold didS; rw [if_neg h0, if_neg h1, if_neg h2, if_pos h3]
  refine sx_if_skip (tst_cmp1 (ex_loc (by walk_at "var")) ex_int cmp_eq_int rfl) (by simpa using h3) ?_
  by_cases h4 : (k == 4) = true
  · by_cases he : evenR x y z = true
    · have he' : rootedB x = rootedB y ∧ rootedB y = rootedB z := by
        unfold evenR at he
        simpa using he
      refine (sx_if_tr (tst_cmp1 (ex_loc (by walk_at "var")) ex_int cmp_eq_int rfl) h4 (sx_one (s1_try (sx_ret (ex_tuple (es_cons (ex_call (xg_commonpath rfl) (es_cons (ex_strs3 (ex_loc (by walk_at "var")) (ex_loc (by walk_at "var")) (ex_loc (by walk_at "var"))) es_nil) (Fn.inX (c_commonpath x y z hx hy hz he'.1 he'.2) (by omega)) rfl) (es_cons (ex_loc (by walk_at "var")) es_nil)) (Nat.le_of_ble_eq_true rfl)))) (fun _ e => by cases e))).to ?_
      unfold didS; rw [if_neg h0, if_neg h1, if_neg h2, if_neg h3, if_pos h4, if_pos he]
    · have he' : ¬ (rootedB x = rootedB y ∧ rootedB y = rootedB z) := fun q => he (by unfold evenR; simpa using q)
      refine (sx_if_tr (tst_cmp1 (ex_loc (by walk_at "var")) ex_int cmp_eq_int rfl) h4 (sx_one (s1_catch (r := .tup [.str (x ++ [33]), .str y]) I (fun Sa kk => bodyR_ret (exR_tuple (exR_call (xg_commonpath rfl) (es_cons (ex_strs3 (ex_loc (by walk_at "var")) (ex_loc (by walk_at "var")) (ex_loc (by walk_at "var"))) es_nil) (FnR.inX (c_commonpathR x y z hx hy hz he') (by omega)) rfl)) Sa kk) rfl b_ValueError (by kernel_rfl) (by decide +kernel) (fun A => exA_tuple2 (exA_bin (exA_loc (by walk_at "var")) (exA_str (l := [33]) rfl) (bop_add_str (by show x.length + 1 ≤ _; omega))) (exA_loc (by walk_at "var")))) (fun _ e => by cases e))).to ?_
      unfold didS; rw [if_neg h0, if_neg h1, if_neg h2, if_neg h3, if_pos h4, if_neg he]
  refine sx_if_skip (tst_cmp1 (ex_loc (by walk_at "var")) ex_int cmp_eq_int rfl) (by simpa using h4) ?_
  by_cases h5 : (k == 5) = true
  · refine (sx_if_tr (tst_cmp1 (ex_loc (by walk_at "var")) ex_int cmp_eq_int rfl) h5 (sx_ret (ex_tuple (es_cons (ex_call (xg_commonprefix rfl) (es_cons (ex_strs3 (ex_loc (by walk_at "var")) (ex_loc (by walk_at "var")) (ex_loc (by walk_at "var"))) es_nil) (Fn.inX (c_commonprefix x y z (by omega) (by omega) (by omega)) (by omega)) rfl) (es_cons (ex_loc (by walk_at "var")) es_nil)) (Nat.le_of_ble_eq_true rfl)))).to ?_
    unfold didS; rw [if_neg h0, if_neg h1, if_neg h2, if_neg h3, if_neg h4, if_pos h5]
  refine sx_if_skip (tst_cmp1 (ex_loc (by walk_at "var")) ex_int cmp_eq_int rfl) (by simpa using h5) ?_
  by_cases h6 : (k == 6) = true
  · refine (sx_if_tr (o := .ret (.tup [.str (rootT x), .str ([] ++ rootR x ++ y)])) (tst_cmp1 (ex_loc (by walk_at "var")) ex_int cmp_eq_int rfl) h6 ?_).to ?_
    · refine sx_cons (s1_tup (xs := [Str.ofString "drive", Str.ofString "root", Str.ofString "rest"]) (ex_call (xg_splitroot rfl) (es_cons (ex_loc (by walk_at "var")) es_nil) (Fn.inX (c_splitroot x (by omega)) (by omega)) rfl) rfl (.cons (by walk_at "set") (.cons (by walk_at "set") (.cons (by walk_at "set") .nil))) ho rfl rfl) ?_
      exact sx_ret (ex_tuple (es_cons (ex_loc (by walk_at "var")) (es_cons (ex_bin (ex_bin (ex_loc (by walk_at "var")) (ex_loc (by walk_at "var")) (bop_add_str (by show 0 + _ ≤ _; omega))) (ex_loc (by walk_at "var")) (bop_add_str (by simp only [List.nil_append]; omega))) es_nil)) (Nat.le_of_ble_eq_true rfl))
    unfold didS; rw [if_neg h0, if_neg h1, if_neg h2, if_neg h3, if_neg h4, if_neg h5, if_pos h6]
  refine sx_if_skip (tst_cmp1 (ex_loc (by walk_at "var")) ex_int cmp_eq_int rfl) (by simpa using h6) ?_
  by_cases h7 : x = []
  · subst h7
    refine (sx_one (s1_catch (r := .tup [.str ([] ++ [33]), .str y]) I (fun Sa kk => bodyR_ret (exR_tuple (exR_call (xg_relpath rfl) (es_cons (ex_loc (by walk_at "var")) (es_cons (ex_loc (by walk_at "var")) es_nil)) (FnR.inX (c_relpathR y) (by omega)) rfl)) Sa kk) rfl b_ValueError (by kernel_rfl) (by decide +kernel) (fun A => exA_tuple2 (exA_bin (exA_loc (by walk_at "var")) (exA_str (l := [33]) rfl) (bop_add_str (by show 0 + 1 ≤ _; omega))) (exA_loc (by walk_at "var")))) (fun _ e => by cases e)).to ?_
    unfold didS; rw [if_neg h0, if_neg h1, if_neg h2, if_neg h3, if_neg h4, if_neg h5, if_neg h6]; rfl
  · obtain ⟨q1, q2⟩ := h7k (by simpa using h0) (by simpa using h1) (by simpa using h2) (by simpa using h3) (by simpa using h4) (by simpa using h5) (by simpa using h6) h7
    refine (sx_one (s1_try (sx_ret (ex_tuple (es_cons (ex_call (xg_relpath rfl) (es_cons (ex_loc (by walk_at "var")) (es_cons (ex_loc (by walk_at "var")) es_nil)) (Fn.inX (c_relpath x y hx hy q1 q2) (by omega)) rfl) (es_cons (ex_loc (by walk_at "var")) es_nil)) (Nat.le_of_ble_eq_true rfl)))) (fun _ e => by cases e)).to ?_
    unfold didS; rw [if_neg h0, if_neg h1, if_neg h2, if_neg h3, if_neg h4, if_neg h5, if_neg h6, if_neg (by simpa using h7)]
end
end Mine
end
section
set_option Elab.async false
set_option linter.unusedVariables false
set_option maxRecDepth 100000
namespace Mine
/-- a spelling, sign by sign -/
structure Sp (f : Nat → List Nat) : Prop where
  a47 : f 47 = [47]
  a46 : f 46 = [46]
  n47 : ∀ c, c ≠ 47 → 47 ∉ f c
  n46 : ∀ c, c ≠ 46 → 46 ∉ f c
  ne : ∀ c, f c ≠ []
  pf : ∀ c d x y, f c ++ x = f d ++ y → c = d
noncomputable def ph (f : Nat → List Nat) (x : List Nat) : List Nat := x.flatMap f
section
variable {f : Nat → List Nat}
theorem ph_nil : ph f [] = [] := rfl
theorem ph_cons (a : Nat) (x : List Nat) : ph f (a :: x) = f a ++ ph f x := rfl
theorem ph_app (x y : List Nat) : ph f (x ++ y) = ph f x ++ ph f y := by unfold ph; exact List.flatMap_append
theorem Sp.nil_iff (h : Sp f) {x : List Nat} : ph f x = [] ↔ x = [] := by
  cases x with
  | nil => simp [ph_nil]
  | cons a x =>
    simp only [ph_cons, List.append_eq_nil_iff, reduceCtorEq, iff_false, not_and]
    exact fun q => absurd q (h.ne a)
theorem Sp.inj' (h : Sp f) : ∀ {x y : List Nat}, ph f x = ph f y → x = y
  | [], y, e => by rw [ph_nil] at e; exact (h.nil_iff.mp e.symm).symm
  | x, [], e => by rw [ph_nil] at e; exact h.nil_iff.mp e
  | a :: x, b :: y, e => by
    rw [ph_cons, ph_cons] at e
    have := h.pf a b _ _ e
    subst this
    rw [Sp.inj' h (List.append_cancel_left e)]
theorem Sp.mem47 (h : Sp f) {x : List Nat} : 47 ∈ ph f x ↔ 47 ∈ x := by
  induction x with
  | nil => simp [ph_nil]
  | cons a x ih =>
    rw [ph_cons, List.mem_append, ih, List.mem_cons]
    constructor
    · rintro (q | q)
      · left
        by_cases e : a = 47
        · exact e.symm
        · exact absurd q (h.n47 a e)
      · exact .inr q
    · rintro (q | q)
      · left; rw [← q, h.a47]; simp
      · exact .inr q
theorem Sp.mem46 (h : Sp f) {x : List Nat} : 46 ∈ ph f x ↔ 46 ∈ x := by
  induction x with
  | nil => simp [ph_nil]
  | cons a x ih =>
    rw [ph_cons, List.mem_append, ih, List.mem_cons]
    constructor
    · rintro (q | q)
      · left
        by_cases e : a = 46
        · exact e.symm
        · exact absurd q (h.n46 a e)
      · exact .inr q
    · rintro (q | q)
      · left; rw [← q, h.a46]; simp
      · exact .inr q
theorem Sp.lit (h : Sp f) : ph f [47] = [47] ∧ ph f [46] = [46] ∧ ph f [46, 46] = [46, 46] := by
  refine ⟨?_, ?_, ?_⟩
  · show f 47 ++ [] = _; rw [h.a47]; rfl
  · show f 46 ++ [] = _; rw [h.a46]; rfl
  · show f 46 ++ (f 46 ++ []) = _; rw [h.a46]; rfl
theorem Sp.eq46 (h : Sp f) {x : List Nat} : ph f x = [46] ↔ x = [46] := ⟨fun e => h.inj' (e.trans h.lit.2.1.symm), fun e => by rw [e]; exact h.lit.2.1⟩
theorem Sp.eqDD (h : Sp f) {x : List Nat} : ph f x = [46, 46] ↔ x = [46, 46] := ⟨fun e => h.inj' (e.trans h.lit.2.2.symm), fun e => by rw [e]; exact h.lit.2.2⟩
theorem Sp.rep47 (h : Sp f) : ∀ n, ph f (List.replicate n 47) = List.replicate n 47
  | 0 => rfl
  | n + 1 => by rw [List.replicate_succ, ph_cons, h.a47, Sp.rep47 h n]; rfl
theorem Sp.rep46 (h : Sp f) : ∀ n, ph f (List.replicate n 46) = List.replicate n 46
  | 0 => rfl
  | n + 1 => by rw [List.replicate_succ, ph_cons, h.a46, Sp.rep46 h n]; rfl
/-- first and last signs -/
theorem Sp.head47 (h : Sp f) {x : List Nat} : (ph f x).head? = some 47 ↔ x.head? = some 47 := by
  cases x with
  | nil => simp [ph_nil]
  | cons a x =>
    by_cases e : a = 47
    · subst e; rw [ph_cons, h.a47]; simp
    · have h1 := h.n47 a e
      cases q : f a with
      | nil => exact absurd q (h.ne a)
      | cons b r =>
        rw [ph_cons, q]
        rw [q] at h1
        have : b ≠ 47 := fun e => h1 (by rw [e]; simp)
        simp [this, e]
theorem Sp.last47 (h : Sp f) {x : List Nat} : (ph f x).getLast? = some 47 ↔ x.getLast? = some 47 := by
  rcases List.eq_nil_or_concat x with rfl | ⟨y, a, rfl⟩
  · simp [ph_nil]
  · by_cases e : a = 47
    · subst e
      rw [List.concat_eq_append, ph_app, ph_cons, h.a47]; simp [ph_nil]
    · have h1 := h.n47 a e
      rw [List.concat_eq_append, ph_app, ph_cons, ph_nil, List.append_nil]
      rcases List.eq_nil_or_concat (f a) with q | ⟨r, b, q⟩
      · exact absurd q (h.ne a)
      · rw [List.concat_eq_append] at q
        rw [q] at h1
        have : b ≠ 47 := fun e => h1 (by rw [e]; simp)
        rw [q, ← List.append_assoc]
        simp [this, e]
/-! pieces -/
theorem Sp.split47 (h : Sp f) (x : List Nat) : splitc 47 (ph f x) = (splitc 47 x).map (ph f) := by
  have key : ∀ L : List (List Nat), L ≠ [] → (∀ p ∈ L, 47 ∉ p) → splitc 47 (ph f (joinc [47] L)) = L.map (ph f) := by
    intro L
    induction L with
    | nil => intro q; exact absurd rfl q
    | cons p L ih =>
      intro _ hp
      have h47 : 47 ∉ ph f p := fun q => hp p (.head _) (h.mem47.mp q)
      cases L with
      | nil => exact splitc_free 47 _ h47
      | cons q r =>
        rw [joinc_cons _ _ (by simp), List.append_assoc, ph_app]
        show splitc 47 (ph f p ++ ph f (47 :: joinc [47] (q :: r))) = _
        rw [ph_cons, h.a47]
        show splitc 47 (ph f p ++ 47 :: ph f (joinc [47] (q :: r))) = _
        rw [splitc_append 47 _ h47, ih (by simp) fun p' h' => hp p' (.tail _ h')]; rfl
  have := key (splitc 47 x) (splitc_ne _ _) (splitc_mem 47 x)
  rwa [join_splitc] at this
theorem Sp.join47 (h : Sp f) : ∀ L : List (List Nat), joinc [47] (L.map (ph f)) = ph f (joinc [47] L)
  | [] => rfl
  | [p] => rfl
  | p :: q :: r => by
    rw [joinc_cons _ _ (by simp), List.map_cons, joinc_cons _ _ (by simp), Sp.join47 h (q :: r), ph_app, ph_app, h.lit.1]
end
/-! two spellings, one over the other -/
theorem split_diff : ∀ (x y : List Nat), (∃ r, y = x ++ r) ∨ (∃ r, x = y ++ r) ∨ ∃ p a b u v, a ≠ b ∧ x = p ++ a :: u ∧ y = p ++ b :: v
  | [], y => .inl ⟨y, rfl⟩
  | x, [] => .inr (.inl ⟨x, rfl⟩)
  | a :: x, b :: y => by
    by_cases e : a = b
    · subst e
      rcases split_diff x y with ⟨r, q⟩ | ⟨r, q⟩ | ⟨p, a', b', u, v, h, q, q'⟩
      · exact .inl ⟨r, by rw [q]; rfl⟩
      · exact .inr (.inl ⟨r, by rw [q]; rfl⟩)
      · exact .inr (.inr ⟨a :: p, a', b', u, v, h, by rw [q]; rfl, by rw [q']; rfl⟩)
    · exact .inr (.inr ⟨[], a, b, x, y, e, rfl, rfl⟩)
theorem Sp.comp {f g : Nat → List Nat} (hf : Sp f) (hg : Sp g) : Sp fun c => ph g (f c) where
  a47 := by rw [hf.a47]; exact hg.lit.1
  a46 := by rw [hf.a46]; exact hg.lit.2.1
  n47 := fun c hc q => hf.n47 c hc (hg.mem47.mp q)
  n46 := fun c hc q => hf.n46 c hc (hg.mem46.mp q)
  ne := fun c q => hf.ne c (hg.nil_iff.mp q)
  pf := fun c d x y e => by
    rcases split_diff (f c) (f d) with ⟨r, q⟩ | ⟨r, q⟩ | ⟨p, a, b, u, v, hne, q, q'⟩
    · exact hf.pf c d r [] (by rw [q]; simp)
    · exact hf.pf c d [] r (by rw [q]; simp)
    · rw [q, q', ph_app, ph_app, ph_cons, ph_cons, List.append_assoc, List.append_assoc, List.append_assoc, List.append_assoc] at e
      exact absurd (hg.pf a b _ _ (List.append_cancel_left e)) hne
theorem sp_one : Sp fun c => [c] where
  a47 := rfl
  a46 := rfl
  n47 := fun c hc q => hc (List.mem_singleton.mp q).symm
  n46 := fun c hc q => hc (List.mem_singleton.mp q).symm
  ne := fun c q => by cases q
  pf := fun c d x y e => by injection e
/-! the tables -/
noncomputable def okD (D : List (Nat × List Nat)) : Bool := (D.all fun p => p.2.head? == some 38 && !p.2.contains 47 && !p.2.contains 46 && p.1 != 47 && p.1 != 46 && D.all fun q => p.1 == q.1 || !(p.2.isPrefixOf q.2)) && (D.lookup 38).isSome
theorem tab_cases {D : List (Nat × List Nat)} (h : okD D = true) (c : Nat) : (tab D c = [c] ∧ D.lookup c = none ∧ c ≠ 38) ∨ ∃ y, (c, y) ∈ D ∧ tab D c = y ∧ y.head? = some 38 := by
  unfold okD at h
  rw [Bool.and_eq_true] at h
  unfold tab
  cases q : D.lookup c with
  | none =>
    refine .inl ⟨rfl, rfl, fun e => ?_⟩
    rw [e] at q
    rw [q] at h
    cases h.2
  | some y =>
    have hm := mem_look q
    have := List.all_eq_true.mp h.1 _ hm
    simp only [Bool.and_eq_true, beq_iff_eq] at this
    exact .inr ⟨y, hm, rfl, this.1.1.1.1.1⟩
theorem sp_tab {D : List (Nat × List Nat)} (h : okD D = true) : Sp (tab D) := by
  have hD := h
  unfold okD at hD
  rw [Bool.and_eq_true] at hD
  have hall := List.all_eq_true.mp hD.1
  have key : ∀ c y, (c, y) ∈ D → y.head? = some 38 ∧ 47 ∉ y ∧ 46 ∉ y ∧ c ≠ 47 ∧ c ≠ 46 ∧ ∀ q ∈ D, c = q.1 ∨ ¬ y <+: q.2 := fun c y hm => by
    have := hall _ hm
    simp only [Bool.and_eq_true, beq_iff_eq, Bool.not_eq_true', bne_iff_ne, List.all_eq_true, Bool.or_eq_true] at this
    obtain ⟨⟨⟨⟨⟨h1, h2⟩, h3⟩, h4⟩, h5⟩, h6⟩ := this
    refine ⟨h1, by simpa using h2, by simpa using h3, h4, h5, fun q hq => ?_⟩
    rcases h6 q hq with e | e
    · exact .inl e
    · exact .inr fun hp => by rw [List.isPrefixOf_iff_prefix.mpr hp] at e; cases e
  refine ⟨?_, ?_, fun c hc q => ?_, fun c hc q => ?_, fun c q => ?_, fun c d x y e => ?_⟩
  · rcases tab_cases h 47 with ⟨e, _⟩ | ⟨y, hm, _⟩
    · exact e
    · exact absurd rfl (key _ _ hm).2.2.2.1
  · rcases tab_cases h 46 with ⟨e, _⟩ | ⟨y, hm, _⟩
    · exact e
    · exact absurd rfl (key _ _ hm).2.2.2.2.1
  · rcases tab_cases h c with ⟨e, _⟩ | ⟨y, hm, e, _⟩
    · rw [e] at q; exact hc (List.mem_singleton.mp q).symm
    · rw [e] at q; exact (key _ _ hm).2.1 q
  · rcases tab_cases h c with ⟨e, _⟩ | ⟨y, hm, e, _⟩
    · rw [e] at q; exact hc (List.mem_singleton.mp q).symm
    · rw [e] at q; exact (key _ _ hm).2.2.1 q
  · rcases tab_cases h c with ⟨e, _⟩ | ⟨y, hm, e, e'⟩
    · rw [e] at q; cases q
    · rw [e] at q; rw [q] at e'; cases e'
  · rcases tab_cases h c with ⟨e1, _, h1⟩ | ⟨y1, hm1, e1, h1⟩
    · rcases tab_cases h d with ⟨e2, _, h2⟩ | ⟨y2, hm2, e2, h2⟩
      · rw [e1, e2] at e; injection e
      · rw [e1, e2] at e
        cases y2 with
        | nil => cases h2
        | cons b r => cases h2; injection e with e _; exact absurd e h1
    · rcases tab_cases h d with ⟨e2, _, h2⟩ | ⟨y2, hm2, e2, h2⟩
      · rw [e1, e2] at e
        cases y1 with
        | nil => cases h1
        | cons b r => cases h1; injection e with e _; exact absurd e.symm h2
      · rw [e1, e2] at e
        rcases List.prefix_or_prefix_of_prefix (List.prefix_append y1 x) (by rw [e]; exact List.prefix_append y2 y) with q | q
        · rcases (key _ _ hm1).2.2.2.2.2 _ hm2 with r | r
          · exact r
          · exact absurd q r
        · rcases (key _ _ hm2).2.2.2.2.2 _ hm1 with r | r
          · exact r.symm
          · exact absurd q r
theorem sp_tabH (h : Int) : Sp (tab (tabH h)) := by
  refine sp_tab ?_
  unfold tabH
  split
  · decide
  · split
    · decide
    · split
      · decide
      · split <;> decide
/-- what the hands write, as a spelling -/
noncomputable def wf (hs : List Int) : Nat → List Nat := fun c => writeH hs [c]
theorem writeH_app (hs : List Int) : ∀ (x y : List Nat), writeH hs (x ++ y) = writeH hs x ++ writeH hs y := by
  induction hs with
  | nil => intro x y; rfl
  | cons h r ih =>
    intro x y
    show writeH r (spell (tabH h) (x ++ y)) = _
    unfold spell
    rw [List.flatMap_append, ih]; rfl
theorem writeH_nil (hs : List Int) : writeH hs [] = [] := by
  induction hs with
  | nil => rfl
  | cons h r ih => exact ih
theorem writeH_ph (hs : List Int) (x : List Nat) : writeH hs x = ph (wf hs) x := by
  induction x with
  | nil => exact writeH_nil hs
  | cons a x ih =>
    rw [ph_cons, ← ih, ← List.singleton_append, writeH_app]; rfl
theorem sp_wf : ∀ hs : List Int, Sp (wf hs)
  | [] => sp_one
  | h :: r => by
    have e : wf (h :: r) = fun c => ph (wf r) (tab (tabH h) c) := by
      funext c
      show writeH r (spell (tabH h) [c]) = _
      rw [writeH_ph]
      congr 1
      exact List.append_nil _
    rw [e]
    exact Sp.comp (sp_tabH h) (sp_wf r)
end Mine
end
section
set_option Elab.async false
set_option linter.unusedVariables false
set_option maxRecDepth 100000
namespace Mine
section
variable {f : Nat → List Nat}
theorem isAb_eq (x : List Nat) : isAb x = rootedB x := by
  unfold isAb rootedB
  have := slc_to x 1
  rw [show ((1 : Nat) : Int) = 1 from rfl] at this
  rw [this]
  cases x with
  | nil => rfl
  | cons a r =>
    rw [Bool.eq_iff_iff]
    simp
theorem Sp.rooted (h : Sp f) (x : List Nat) : rootedB (ph f x) = rootedB x := by
  unfold rootedB
  rw [Bool.eq_iff_iff, beq_iff_eq, beq_iff_eq]
  exact h.head47
theorem joinc_app (c : List Nat) : ∀ {L K : List (List Nat)}, L ≠ [] → K ≠ [] → joinc c (L ++ K) = joinc c L ++ c ++ joinc c K
  | [], K, h, _ => absurd rfl h
  | [p], K, _, hK => joinc_cons c p hK
  | p :: q :: r, K, _, hK => by
    have ih := joinc_app c (L := q :: r) (K := K) (by simp) hK
    have e1 : joinc c (p :: q :: r ++ K) = p ++ c ++ joinc c (q :: r ++ K) := rfl
    have e2 : joinc c (p :: q :: r) = p ++ c ++ joinc c (q :: r) := rfl
    rw [e1, e2, ih]
    simp only [List.append_assoc]
theorem splitc_app (c : Nat) (u v : List Nat) : splitc c (u ++ c :: v) = splitc c u ++ splitc c v := by
  have e : u ++ c :: v = joinc [c] (splitc c u ++ splitc c v) := by
    rw [joinc_app _ (splitc_ne _ _) (splitc_ne _ _), join_splitc, join_splitc]; simp
  conv => lhs; rw [e]
  refine splitc_join c _ (by simp [splitc_ne]) fun p hp => ?_
  rcases List.mem_append.mp hp with hp | hp <;> exact splitc_mem c _ p hp
/-- the last piece, and what lies ahead of it -/
theorem last_piece (c : Nat) (x : List Nat) : c ∉ x ∨ ∃ u t, x = u ++ c :: t ∧ c ∉ t := by
  induction x with
  | nil => exact .inl (by simp)
  | cons a x ih =>
    rcases ih with h | ⟨u, t, rfl, h⟩
    · by_cases e : a = c
      · subst e; exact .inr ⟨[], x, rfl, h⟩
      · refine .inl fun q => ?_
        rcases List.mem_cons.mp q with q | q
        · exact e q.symm
        · exact h q
    · exact .inr ⟨a :: u, t, rfl, h⟩
theorem getLast_splitc {c : Nat} {x : List Nat} : (splitc c x).getLast?.getD [] = [] ↔ x = [] ∨ x.getLast? = some c := by
  rcases last_piece c x with h | ⟨u, t, rfl, h⟩
  · rw [splitc_free c x h]
    simp only [List.getLast?_singleton, Option.getD_some]
    constructor
    · exact .inl
    · rintro (q | q)
      · exact q
      · exact absurd (List.mem_of_getLast? q) h
  · rw [splitc_app, splitc_free c t h]
    simp only [List.getLast?_append, List.getLast?_singleton, Option.some_or, Option.getD_some]
    constructor
    · rintro rfl; right; simp
    · rintro (q | q)
      · simp at q
      · cases t with
        | nil => rfl
        | cons a t =>
          exfalso
          simp only [List.getLast?_append, List.getLast?_cons_cons] at q
          have : (a :: t).getLast? = some c := by
            cases hh : (a :: t).getLast? with
            | none => simp at hh
            | some z => rw [hh] at q; simpa using q
          exact h (List.mem_of_getLast? this)
/-! kind 0 -/
theorem kind0 (x y : List Nat) : joinS x y = ljoined x y := by
  unfold joinS ljoined
  have ha : slc none (some 1) y = [47] ↔ y.head? = some 47 := by
    have h := isAb_eq y
    unfold isAb rootedB at h
    rw [Bool.eq_iff_iff, beq_iff_eq, beq_iff_eq] at h
    exact h
  by_cases hy : y.head? = some 47
  · rw [if_pos (by simp [hy]), if_pos (by simpa using ha.mpr hy)]
  · rw [if_neg (show ¬ (slc none (some 1) y == [47]) = true by simpa using fun q => hy (ha.mp q))]
    cases x with
    | nil =>
      rw [if_pos (by simp)]
      have : slc none (some (-1)) (splitc 47 []) = [] := by rw [slc_butLast]; rfl
      rw [if_pos (by rfl), this]
      exact (join_splitc 47 y).symm
    | cons a r =>
      rw [if_neg (by simp [hy])]
      by_cases hl : (a :: r).getLast? = some 47
      · rw [if_pos (by simp [hl]), if_pos (by simpa using getLast_splitc.mpr (.inr hl)), slc_butLast]
        obtain ⟨u, e⟩ : ∃ u, a :: r = u ++ [47] := by
          rcases List.eq_nil_or_concat (a :: r) with q | ⟨u, b, q⟩
          · cases q
          · refine ⟨u, ?_⟩
            rw [q] at hl
            rw [q, List.concat_eq_append]
            rw [List.concat_eq_append] at hl
            simp at hl
            rw [hl]
        rw [e, show u ++ [47] = u ++ 47 :: [] from rfl, splitc_app, splitc_free 47 [] (by simp), List.dropLast_concat, joinc_app _ (splitc_ne _ _) (splitc_ne _ _), join_splitc, join_splitc]
      · rw [if_neg (by simpa using hl), if_neg (show ¬ ((splitc 47 (a :: r)).getLast?.getD [] == []) = true by
          intro q
          rcases getLast_splitc.mp (eq_of_beq q) with q | q
          · cases q
          · exact hl q), joinc_app _ (splitc_ne _ _) (splitc_ne _ _), join_splitc, join_splitc]
        simp
theorem Sp.join (h : Sp f) (x y : List Nat) : joinS (ph f x) (ph f y) = ph f (joinS x y) := by
  unfold joinS
  have e1 : ((ph f y).head? == some 47 || (ph f x).isEmpty) = (y.head? == some 47 || x.isEmpty) := by
    rw [Bool.eq_iff_iff]
    simp only [Bool.or_eq_true, beq_iff_eq, List.isEmpty_iff, h.head47, h.nil_iff]
  have e2 : ((ph f x).getLast? == some 47) = (x.getLast? == some 47) := by
    rw [Bool.eq_iff_iff, beq_iff_eq, beq_iff_eq]; exact h.last47
  rw [e1, e2]
  split
  · rfl
  · split
    · rw [ph_app]
    · rw [ph_app, ph_app, h.lit.1]
/-! kind 1 -/
theorem lastAt_free {c : Nat} : ∀ {x : List Nat}, c ∉ x → lastAt c x = none
  | [], _ => rfl
  | a :: x, h => by
    unfold lastAt
    rw [lastAt_free fun q => h (.tail _ q)]
    exact if_neg fun e => h (by rw [e]; exact .head _)
theorem lastAt_app {c : Nat} {t : List Nat} (h : c ∉ t) : ∀ u : List Nat, lastAt c (u ++ c :: t) = some u.length
  | [] => by
    show lastAt c (c :: t) = _
    unfold lastAt
    rw [lastAt_free h]
    exact if_pos rfl
  | a :: u => by
    show lastAt c (a :: (u ++ c :: t)) = _
    unfold lastAt
    rw [lastAt_app h u]; rfl
theorem rfindc_free {c : Nat} {x : List Nat} (h : c ∉ x) : rfindc c x = -1 := by unfold rfindc; rw [lastAt_free h]
theorem rfindc_app {c : Nat} {u t : List Nat} (h : c ∉ t) : rfindc c (u ++ c :: t) = (u.length : Int) := by unfold rfindc; rw [lastAt_app h]
theorem head_free {x : List Nat} (h : 47 ∉ x) : headS x = [] ∧ tailS x = x := by
  unfold headS tailS
  rw [rfindc_free h]
  have h1 := slc_to x 0
  have h2 := slc_from x 0
  exact ⟨by rw [show (-1 : Int) + 1 = ((0 : Nat) : Int) from rfl, h1]; rfl, by rw [show (-1 : Int) + 1 = ((0 : Nat) : Int) from rfl, h2]; rfl⟩
theorem head_app {u t : List Nat} (h : 47 ∉ t) : headS (u ++ 47 :: t) = u ++ [47] ∧ tailS (u ++ 47 :: t) = t := by
  unfold headS tailS
  rw [rfindc_app h, show (u.length : Int) + 1 = ((u.length + 1 : Nat) : Int) from rfl, slc_to, slc_from]
  constructor
  · rw [show u ++ 47 :: t = (u ++ [47]) ++ t by simp, List.take_left' (by simp)]
  · rw [show u ++ 47 :: t = (u ++ [47]) ++ t by simp, List.drop_left' (by simp)]
/-- slashes at the end -/
theorem ends47 (u : List Nat) : ∃ g n, u = g ++ List.replicate n 47 ∧ g.getLast? ≠ some 47 := by
  induction hn : u.length generalizing u with
  | zero =>
    have := List.length_eq_zero_iff.mp hn
    subst this
    exact ⟨[], 0, rfl, by simp⟩
  | succ n ih =>
    by_cases h : u.getLast? = some 47
    · rcases List.eq_nil_or_concat u with rfl | ⟨v, b, rfl⟩
      · cases h
      · rw [List.concat_eq_append] at h hn ⊢
        simp at h
        subst h
        obtain ⟨g, m, e, hg⟩ := ih v (by simpa using hn)
        refine ⟨g, m + 1, ?_, hg⟩
        rw [e, List.append_assoc, List.replicate_succ']
    · exact ⟨u, 0, by simp, h⟩
theorem dropW_rep (n : Nat) (r : List Nat) (h : r.head? ≠ some 47) : (List.replicate n 47 ++ r).dropWhile (· == 47) = r := by
  induction n with
  | zero =>
    cases r with
    | nil => rfl
    | cons a r =>
      have : a ≠ 47 := fun e => h (by rw [e]; rfl)
      simp [List.dropWhile, this]
  | succ n ih => rw [List.replicate_succ, List.cons_append, List.dropWhile_cons]; simpa using ih
theorem trim_all (n : Nat) : trimS (List.replicate n 47) = List.replicate n 47 := by
  unfold trimS
  rw [if_neg (by simp)]
theorem trim_app {g : List Nat} (n : Nat) (hg : g.getLast? ≠ some 47) (hne : g ≠ []) : trimS (g ++ List.replicate n 47) = g := by
  unfold trimS
  have h1 : (g ++ List.replicate n 47) ≠ List.replicate (g ++ List.replicate n 47).length 47 := fun q => by
    obtain ⟨a, r, rfl⟩ := List.exists_cons_of_ne_nil hne
    have hm : (a :: r).getLast (by simp) ∈ List.replicate ((a :: r) ++ List.replicate n 47).length 47 := by rw [← q]; exact List.mem_append_left _ (List.getLast_mem _)
    have := List.eq_of_mem_replicate hm
    exact hg (by rw [List.getLast?_eq_some_getLast (by simp), this])
  rw [if_pos (by simp [hne]; exact fun e => h1 (by simpa using e)), List.reverse_append, List.reverse_replicate, dropW_rep, List.reverse_reverse]
  rw [List.head?_reverse]; exact hg
theorem splitc_rep (c : Nat) : ∀ n, splitc c (List.replicate n c) = List.replicate (n + 1) []
  | 0 => rfl
  | n + 1 => by
    rw [List.replicate_succ, splitc_cons, if_pos rfl, splitc_rep c n]; rfl
theorem flatten_splitc (c : Nat) (x : List Nat) : (splitc c x).flatten = x.filter (· != c) := by
  induction x with
  | nil => rfl
  | cons a x ih =>
    rw [splitc_cons]
    by_cases e : a = c
    · rw [if_pos e]; simp [ih, e]
    · rw [if_neg e]
      cases q : splitc c x with
      | nil => exact absurd q (splitc_ne _ _)
      | cons p ps =>
        rw [q] at ih
        simp only [List.flatten_cons] at ih
        simp [e, ← ih]
theorem lstrip_rep {L : List (List Nat)} (h : L.getLast?.getD [] ≠ []) : ∀ (n m : Nat), n ≤ m → lstrip0 m (L ++ List.replicate n []) = L
  | 0, m, _ => by
    rw [List.replicate_zero, List.append_nil]
    cases m with
    | zero => rfl
    | succ m => unfold lstrip0; rw [if_neg (by simpa using h)]
  | n + 1, 0, q => absurd q (by omega)
  | n + 1, m + 1, q => by
    unfold lstrip0
    have e : L ++ List.replicate (n + 1) [] = (L ++ List.replicate n []) ++ [[]] := by rw [List.replicate_succ', List.append_assoc]
    rw [e, if_pos (by simp), slc_butLast, List.dropLast_concat]
    exact lstrip_rep h n m (by omega)
/-- a path's front and its last name -/
theorem parted_free {x : List Nat} (h : 47 ∉ x) : lparted x = ([], x) := by
  have e : lfront x = [] := by unfold lfront; rw [splitc_free 47 x h, slc_butLast]; rfl
  have e2 : llast x = x := by unfold llast; rw [splitc_free 47 x h]; rfl
  unfold lparted
  rw [e, e2, if_pos (by rfl)]; rfl
theorem parted_app {g t : List Nat} {n : Nat} (ht : 47 ∉ t) (hg : g.getLast? ≠ some 47) : lparted (g ++ List.replicate n 47 ++ 47 :: t) = (if g = [] then List.replicate (n + 1) 47 else g, t) := by
  have hs : splitc 47 (g ++ List.replicate n 47 ++ 47 :: t) = splitc 47 (g ++ List.replicate n 47) ++ [t] := by rw [splitc_app, splitc_free 47 t ht]
  have e : lfront (g ++ List.replicate n 47 ++ 47 :: t) = splitc 47 (g ++ List.replicate n 47) := by
    unfold lfront; rw [hs, slc_butLast, List.dropLast_concat]
  have e2 : llast (g ++ List.replicate n 47 ++ 47 :: t) = t := by unfold llast; rw [hs]; simp
  unfold lparted
  rw [e, e2]
  by_cases hg0 : g = []
  · subst hg0
    rw [List.nil_append, splitc_rep, if_pos rfl, if_pos (by rw [joinc_nil]; simp)]
    simp
  · rw [if_neg hg0]
    have hf : ((joinc [] (splitc 47 (g ++ List.replicate n 47)) == []) = true) ↔ False := by
      rw [joinc_nil, flatten_splitc, beq_iff_eq, iff_false]
      intro q
      obtain ⟨a, r, rfl⟩ := List.exists_cons_of_ne_nil hg0
      have hm := List.getLast_mem (l := a :: r) (by simp)
      have : (a :: r).getLast (by simp) ≠ 47 := fun e => hg (by rw [List.getLast?_eq_some_getLast (by simp), e])
      have hm2 : (a :: r).getLast (by simp) ∈ (a :: r ++ List.replicate n 47).filter (· != 47) := List.mem_filter.mpr ⟨List.mem_append_left _ hm, by simpa using this⟩
      rw [q] at hm2; cases hm2
    rw [if_neg (by rw [hf]; exact id)]
    have hl : (splitc 47 g).getLast?.getD [] ≠ [] := fun q => by
      rcases getLast_splitc.mp q with q | q
      · exact hg0 q
      · exact hg q
    have hs2 : splitc 47 (g ++ List.replicate n 47) = splitc 47 g ++ List.replicate n [] := by
      cases n with
      | zero => simp
      | succ n => rw [List.replicate_succ, splitc_app, splitc_rep]
    rw [hs2, lstrip_rep hl n _ (by simp), join_splitc]
theorem kind1 (x : List Nat) : (trimS (headS x), tailS x) = lparted x := by
  rcases last_piece 47 x with h | ⟨u, t, rfl, h⟩
  · rw [parted_free h, (head_free h).1, (head_free h).2]; rfl
  · obtain ⟨g, n, rfl, hg⟩ := ends47 u
    rw [parted_app h hg, (head_app h).1, (head_app h).2, List.append_assoc, ← List.replicate_succ']
    by_cases e : g = []
    · rw [if_pos e, e, List.nil_append, trim_all]
    · rw [if_neg e, trim_app _ hg e]
theorem Sp.parted (h : Sp f) (x : List Nat) : lparted (ph f x) = (ph f (lparted x).1, ph f (lparted x).2) := by
  rcases last_piece 47 x with h1 | ⟨u, t, rfl, h1⟩
  · rw [parted_free h1, parted_free fun q => h1 (h.mem47.mp q)]; rfl
  · obtain ⟨g, n, rfl, hg⟩ := ends47 u
    rw [parted_app h1 hg, ph_app, ph_app, h.rep47, ph_cons, h.a47]
    show lparted (ph f g ++ List.replicate n 47 ++ 47 :: ph f t) = _
    rw [parted_app (fun q => h1 (h.mem47.mp q)) (fun q => hg (h.last47.mp q))]
    by_cases e : g = []
    · rw [if_pos e, if_pos (h.nil_iff.mpr e)]
      show _ = (ph f (List.replicate (n + 1) 47), _)
      rw [h.rep47]
    · rw [if_neg e, if_neg fun q => e (h.nil_iff.mp q)]
end
end Mine
end
section
set_option Elab.async false
set_option linter.unusedVariables false
set_option maxRecDepth 100000
namespace Mine
section
variable {f : Nat → List Nat}
/-- slashes ahead -/
theorem starts47 (x : List Nat) : ∃ n r, x = List.replicate n 47 ++ r ∧ r.head? ≠ some 47 := by
  induction x with
  | nil => exact ⟨0, [], rfl, by simp⟩
  | cons a x ih =>
    by_cases e : a = 47
    · subst e
      obtain ⟨n, r, rfl, h⟩ := ih
      exact ⟨n + 1, r, rfl, h⟩
    · exact ⟨0, a :: x, rfl, by simpa using e⟩
noncomputable def rootN : Nat → List Nat
  | 0 => []
  | 1 => [47]
  | 2 => [47, 47]
  | _ + 3 => [47]
noncomputable def restN (r : List Nat) : Nat → List Nat
  | 0 => r
  | 1 => r
  | 2 => r
  | n + 3 => List.replicate (n + 2) 47 ++ r
theorem take1_ne {r : List Nat} (h : r.head? ≠ some 47) : r.take 1 ≠ [47] := by
  cases r with
  | nil => simp
  | cons a r => simpa using h
theorem root_rep (n : Nat) {r : List Nat} (h : r.head? ≠ some 47) : rootR (List.replicate n 47 ++ r) = rootN n ∧ rootT (List.replicate n 47 ++ r) = restN r n := by
  have e1 : ∀ x : List Nat, slc none (some 1) x = x.take 1 := fun x => slc_to x 1
  have e2 : ∀ x : List Nat, slc (some 1) (some 2) x = (x.drop 1).take 1 := fun x => slc_run x 1 2
  have e3 : ∀ x : List Nat, slc (some 2) (some 3) x = (x.drop 2).take 1 := fun x => slc_run x 2 3
  have e4 : ∀ x : List Nat, slc none (some 2) x = x.take 2 := fun x => slc_to x 2
  have e5 : ∀ x : List Nat, slc (some 1) none x = x.drop 1 := fun x => slc_from x 1
  have e6 : ∀ x : List Nat, slc (some 2) none x = x.drop 2 := fun x => slc_from x 2
  have h1 := take1_ne h
  unfold rootR rootT
  rw [e1, e2, e3, e4, e5, e6]
  match n with
  | 0 =>
    have : (List.take 1 (List.replicate 0 47 ++ r) != [47]) = true := by simpa using h1
    rw [if_pos this, if_pos this]
    exact ⟨rfl, by simp [restN]⟩
  | 1 =>
    have q1 : ¬ (List.take 1 (List.replicate 1 47 ++ r) != [47]) = true := by simp
    have q2 : (List.take 1 (List.drop 1 (List.replicate 1 47 ++ r)) != [47] || List.take 1 (List.drop 2 (List.replicate 1 47 ++ r)) == [47]) = true := by
      rw [Bool.or_eq_true]; left; simpa using h1
    rw [if_neg q1, if_neg q1, if_pos q2, if_pos q2]
    exact ⟨rfl, by simp [restN]⟩
  | 2 =>
    have q1 : ¬ (List.take 1 (List.replicate 2 47 ++ r) != [47]) = true := by simp
    have q2 : ¬ (List.take 1 (List.drop 1 (List.replicate 2 47 ++ r)) != [47] || List.take 1 (List.drop 2 (List.replicate 2 47 ++ r)) == [47]) = true := by
      rw [Bool.or_eq_true]
      rintro (q | q)
      · simp at q
      · have : List.drop 2 (List.replicate 2 47 ++ r) = r := by simp
        rw [this] at q
        exact h1 (eq_of_beq q)
    rw [if_neg q1, if_neg q1, if_neg q2, if_neg q2]
    exact ⟨rfl, by simp [restN]⟩
  | n + 3 =>
    have q1 : ¬ (List.take 1 (List.replicate (n + 3) 47 ++ r) != [47]) = true := by simp [List.replicate_succ]
    have q2 : (List.take 1 (List.drop 1 (List.replicate (n + 3) 47 ++ r)) != [47] || List.take 1 (List.drop 2 (List.replicate (n + 3) 47 ++ r)) == [47]) = true := by
      rw [Bool.or_eq_true]; right; simp [List.replicate_succ]
    rw [if_neg q1, if_neg q1, if_pos q2, if_pos q2]
    exact ⟨rfl, by simp [restN, List.replicate_succ]⟩
theorem lroot_rep (n : Nat) {r : List Nat} (h : r.head? ≠ some 47) : lroot (List.replicate n 47 ++ r) = rootN n := by
  have e : lrootN (List.replicate n 47 ++ r) = (n : Int) := by
    unfold lrootN
    rw [dropW_rep n r h, List.length_append, List.length_replicate]; omega
  unfold lroot
  rw [e]
  match n with
  | 0 => rfl
  | 1 => rfl
  | 2 => rfl
  | n + 3 =>
    rw [if_neg (by simp; omega), if_pos (by simp; omega)]; rfl
theorem rootN_len (n : Nat) (r : List Nat) : (List.replicate n 47 ++ r).drop (rootN n).length = restN r n := by
  match n with
  | 0 => rfl
  | 1 => rfl
  | 2 => rfl
  | n + 3 => show List.drop 1 _ = _; simp [restN, List.replicate_succ]
theorem root_eq (x : List Nat) : rootR x = lroot x ∧ rootT x = slc (some ((lroot x).length : Int)) none x := by
  obtain ⟨n, r, rfl, h⟩ := starts47 x
  rw [(root_rep n h).1, (root_rep n h).2, lroot_rep n h, slc_from, rootN_len]
  exact ⟨rfl, rfl⟩
theorem Sp.starts (h : Sp f) (n : Nat) (r : List Nat) : ph f (List.replicate n 47 ++ r) = List.replicate n 47 ++ ph f r := by rw [ph_app, h.rep47]
theorem Sp.rootN (h : Sp f) (n : Nat) : ph f (rootN n) = Mine.rootN n := by
  match n with
  | 0 => rfl
  | 1 => exact h.lit.1
  | 2 => exact h.rep47 2
  | n + 3 => exact h.lit.1
theorem Sp.lroot (h : Sp f) (x : List Nat) : lroot (ph f x) = lroot x ∧ ph f (Mine.lroot x) = Mine.lroot x := by
  obtain ⟨n, r, rfl, hr⟩ := starts47 x
  rw [h.starts, lroot_rep n hr, lroot_rep n fun q => hr (h.head47.mp q)]
  exact ⟨rfl, h.rootN n⟩
theorem Sp.rootT (h : Sp f) (x : List Nat) : rootT (ph f x) = ph f (rootT x) := by
  obtain ⟨n, r, rfl, hr⟩ := starts47 x
  rw [h.starts, (root_rep n hr).2, (root_rep n fun q => hr (h.head47.mp q)).2]
  match n with
  | 0 => rfl
  | 1 => rfl
  | 2 => rfl
  | n + 3 => show List.replicate (n + 2) 47 ++ ph f r = ph f (List.replicate (n + 2) 47 ++ r); rw [h.starts]
theorem rooted_rep (n : Nat) {r : List Nat} (h : r.head? ≠ some 47) : rootedB (List.replicate n 47 ++ r) = decide (n ≠ 0) := by
  unfold rootedB
  cases n with
  | zero => simpa using h
  | succ n => simp [List.replicate_succ]
/-! kind 6 -/
theorem kind6 (x y : List Nat) : (rootT x, [] ++ rootR x ++ y) = (slc (some ((lroot x).length : Int)) none x, lroot x ++ y) := by
  rw [(root_eq x).1, (root_eq x).2]; rfl
/-! walks -/
theorem walkStep_skip (ab : Bool) (p : Nat × List (List Nat)) {c : List Nat} (h : c = [] ∨ c = [46]) : walkStep ab p c = p := by
  unfold walkStep
  rcases h with rfl | rfl <;> rfl
theorem normStep_skip (r : List Nat) (acc : List (List Nat)) {c : List Nat} (h : c = [] ∨ c = [46]) : normStep r acc c = acc := by
  unfold normStep
  rcases h with rfl | rfl <;> rfl
theorem fold_empties {β : Type} (st : β → List Nat → β) (hs : ∀ b, st b [] = b) : ∀ (n : Nat) (L : List (List Nat)) (b : β), (List.replicate n [] ++ L).foldl st b = L.foldl st b
  | 0, _, _ => rfl
  | n + 1, L, b => by
    rw [List.replicate_succ, List.cons_append, List.foldl_cons, hs]
    exact fold_empties st hs n L b
theorem splitc_starts (n : Nat) (r : List Nat) : splitc 47 (List.replicate n 47 ++ r) = List.replicate n [] ++ splitc 47 r := by
  induction n with
  | zero => rfl
  | succ n ih => rw [List.replicate_succ, List.cons_append, splitc_cons, if_pos rfl, ih]; rfl
structure Wk (ab : Bool) (acc : List (List Nat)) (p : Nat × List (List Nat)) : Prop where
  eq : acc = List.replicate p.1 [46, 46] ++ p.2
  dd : [46, 46] ∉ p.2
  zero : ab = true → p.1 = 0
theorem walk_DD_nil (ab : Bool) (n : Nat) : walkStep ab (n, []) [46, 46] = if ab = true then (n, []) else (n + 1, []) := rfl
theorem walk_DD_snoc (ab : Bool) (n : Nat) (K : List (List Nat)) (a : List Nat) : walkStep ab (n, K ++ [a]) [46, 46] = (n, K) := by
  unfold walkStep
  rw [if_pos (by rfl), if_neg (by simp), slc_butLast, List.dropLast_concat]
theorem walk_name (ab : Bool) (p : Nat × List (List Nat)) {c : List Nat} (h1 : c ≠ []) (h2 : c ≠ [46]) (h3 : c ≠ [46, 46]) : walkStep ab p c = (p.1, p.2 ++ [c]) := by
  unfold walkStep
  rw [if_neg (by simpa using h3), if_pos]
  rw [Bool.not_eq_true', List.contains_eq_mem, decide_eq_false_iff_not]
  simpa using ⟨h1, h2⟩
theorem norm_name (r : List Nat) (acc : List (List Nat)) {c : List Nat} (h1 : c ≠ []) (h2 : c ≠ [46]) (h3 : c ≠ [46, 46]) : normStep r acc c = acc ++ [c] := by
  unfold normStep
  rw [if_neg (by simp [h1, h2]), if_pos (by simp [h3])]
theorem norm_DD (r : List Nat) (acc : List (List Nat)) : normStep r acc [46, 46] = if ((r.isEmpty && acc.isEmpty) || (!acc.isEmpty && acc.getLast?.getD [] == [46, 46])) = true then acc ++ [[46, 46]] else if acc.isEmpty = true then acc else acc.dropLast := by
  unfold normStep
  rw [if_neg (by decide)]
  rfl
theorem walk_norm (ab : Bool) (r : List Nat) (hr : r.isEmpty = !ab) {acc : List (List Nat)} {p : Nat × List (List Nat)} (W : Wk ab acc p) (c : List Nat) : Wk ab (normStep r acc c) (walkStep ab p c) := by
  by_cases h0 : c = [] ∨ c = [46]
  · rw [walkStep_skip ab p h0, normStep_skip r acc h0]; exact W
  · have hc1 : c ≠ [] := fun e => h0 (.inl e)
    have hc2 : c ≠ [46] := fun e => h0 (.inr e)
    obtain ⟨n, L⟩ := p
    obtain ⟨e, hd, hz⟩ := W
    dsimp only at e hd hz
    by_cases hD : c = [46, 46]
    · subst hD
      rw [norm_DD]
      by_cases hL : L = []
      · subst hL
        rw [walk_DD_nil]
        rw [List.append_nil] at e
        by_cases hn : n = 0
        · subst hn
          have ea : acc = [] := e
          subst ea
          cases ab with
          | true =>
            have hr' : r.isEmpty = false := hr
            rw [hr']
            exact ⟨rfl, hd, hz⟩
          | false =>
            have hr' : r.isEmpty = true := hr
            rw [hr']
            exact ⟨rfl, hd, fun q => by cases q⟩
        · have hab : ab = false := by
            cases ab with
            | true => exact absurd (hz rfl) hn
            | false => rfl
          subst hab
          obtain ⟨m, rfl⟩ := Nat.exists_eq_succ_of_ne_zero hn
          have hlast : (!acc.isEmpty && acc.getLast?.getD [] == [46, 46]) = true := by
            rw [e, Nat.succ_eq_add_one, List.replicate_succ']
            simp
          rw [if_pos (by rw [hlast]; simp)]
          exact ⟨by rw [e, ← List.replicate_succ']; simp, hd, fun q => by cases q⟩
      · obtain ⟨K, a, rfl⟩ : ∃ K a, L = K ++ [a] := by
          rcases List.eq_nil_or_concat L with q | ⟨K, a, q⟩
          · exact absurd q hL
          · exact ⟨K, a, by rw [q, List.concat_eq_append]⟩
        rw [walk_DD_snoc]
        have ha : a ≠ [46, 46] := fun q => hd (by rw [q]; simp)
        have hacc : acc = (List.replicate n [46, 46] ++ K) ++ [a] := by rw [e, List.append_assoc]
        have hne : acc.isEmpty = false := by rw [hacc]; simp
        have hlast : acc.getLast?.getD [] = a := by rw [hacc]; simp
        have hcond : ((r.isEmpty && acc.isEmpty) || (!acc.isEmpty && acc.getLast?.getD [] == [46, 46])) = false := by
          rw [hne, hlast]; simp [ha]
        rw [hcond, hne, if_neg (by decide), if_neg (by decide), hacc, List.dropLast_concat]
        exact ⟨rfl, fun q => hd (List.mem_append_left _ q), hz⟩
    · rw [walk_name ab _ hc1 hc2 hD, norm_name r acc hc1 hc2 hD]
      refine ⟨by rw [e, List.append_assoc], fun q => ?_, hz⟩
      rcases List.mem_append.mp q with q | q
      · exact hd q
      · exact hD (List.mem_singleton.mp q).symm
theorem walk_norm_fold (ab : Bool) (r : List Nat) (hr : r.isEmpty = !ab) : ∀ (L : List (List Nat)) {acc : List (List Nat)} {p : Nat × List (List Nat)}, Wk ab acc p → Wk ab (L.foldl (normStep r) acc) (L.foldl (walkStep ab) p)
  | [], _, _, W => W
  | c :: L, _, _, W => walk_norm_fold ab r hr L (walk_norm ab r hr W c)
theorem norm_walk (x : List Nat) : (splitc 47 (rootT x)).foldl (normStep (rootR x)) [] = lwalk x := by
  obtain ⟨n, r, rfl, h⟩ := starts47 x
  have h1 : ∃ m, rootT (List.replicate n 47 ++ r) = List.replicate m 47 ++ r := by
    rw [(root_rep n h).2]
    match n with
    | 0 => exact ⟨0, rfl⟩
    | 1 => exact ⟨0, rfl⟩
    | 2 => exact ⟨0, rfl⟩
    | n + 3 => exact ⟨n + 2, rfl⟩
  obtain ⟨m, hm⟩ := h1
  have hr : (rootR (List.replicate n 47 ++ r)).isEmpty = !(isAb (List.replicate n 47 ++ r)) := by
    rw [(root_rep n h).1, isAb_eq, rooted_rep n h]
    match n with
    | 0 => rfl
    | 1 => rfl
    | 2 => rfl
    | n + 3 => simp [rootN]
  rw [hm, splitc_starts, fold_empties _ fun b => normStep_skip _ b (.inl rfl)]
  have W := walk_norm_fold (isAb (List.replicate n 47 ++ r)) (rootR (List.replicate n 47 ++ r)) hr (splitc 47 r) (acc := []) (p := (0, [])) ⟨rfl, by simp, fun _ => rfl⟩
  unfold lwalk lwalkP
  rw [splitc_starts, fold_empties _ fun b => walkStep_skip _ b (.inl rfl)]
  exact W.eq
theorem kind2 (x : List Nat) : normS x = orT (lroot x ++ joinc [47] (lwalk x)) [46] := by
  unfold normS
  cases x with
  | nil => rfl
  | cons a x => rw [if_neg (by simp), norm_walk, (root_eq _).1]
/-- the walk's pieces -/
noncomputable def walkM (f : Nat → List Nat) (p : Nat × List (List Nat)) : Nat × List (List Nat) := (p.1, p.2.map (ph f))
theorem Sp.walkStep (h : Sp f) (ab : Bool) (p : Nat × List (List Nat)) (c : List Nat) : walkStep ab (walkM f p) (ph f c) = walkM f (Mine.walkStep ab p c) := by
  unfold Mine.walkStep walkM
  have e1 : (ph f c == [46, 46]) = (c == [46, 46]) := by
    rw [Bool.eq_iff_iff, beq_iff_eq, beq_iff_eq]; exact h.eqDD
  have e2 : ([([] : List Nat), [46]].contains (ph f c)) = ([([] : List Nat), [46]].contains c) := by
    rw [List.contains_eq_mem, List.contains_eq_mem]
    congr 1
    simp only [List.mem_cons, List.not_mem_nil, or_false, h.nil_iff, h.eq46]
  have e3 : ∀ L : List (List Nat), (L.map (ph f)).isEmpty = L.isEmpty := fun L => by cases L <;> rfl
  dsimp only
  rw [e1, e2, e3]
  split
  · split
    · split <;> rfl
    · rw [slc_butLast, slc_butLast, List.map_dropLast]
  · split
    · simp
    · rfl
theorem Sp.walk (h : Sp f) (x : List Nat) : lwalk (ph f x) = (lwalk x).map (ph f) := by
  have key : ∀ (ab : Bool) (L : List (List Nat)) (p : Nat × List (List Nat)), (L.map (ph f)).foldl (Mine.walkStep ab) (walkM f p) = walkM f (L.foldl (Mine.walkStep ab) p) := by
    intro ab L
    induction L with
    | nil => intro p; rfl
    | cons c L ih => intro p; rw [List.map_cons, List.foldl_cons, h.walkStep, ih]; rfl
  unfold lwalk lwalkP
  rw [h.split47, isAb_eq, isAb_eq, h.rooted]
  have := key (rootedB x) (splitc 47 x) (0, [])
  rw [show walkM f (0, []) = (0, []) from rfl] at this
  rw [this]
  unfold walkM
  dsimp only
  rw [List.map_append, List.map_replicate, h.lit.2.2]
theorem Sp.orT46 (h : Sp f) (u : List Nat) : orT (ph f u) [46] = ph f (orT u [46]) := by
  unfold orT
  have e : (ph f u).isEmpty = u.isEmpty := by
    rw [Bool.eq_iff_iff, List.isEmpty_iff, List.isEmpty_iff]; exact h.nil_iff
  rw [e]
  split
  · exact h.lit.2.1.symm
  · rfl
theorem Sp.told2 (h : Sp f) (x : List Nat) : orT (Mine.lroot (ph f x) ++ joinc [47] (lwalk (ph f x))) [46] = ph f (orT (Mine.lroot x ++ joinc [47] (lwalk x)) [46]) := by
  rw [(h.lroot x).1, h.walk, h.join47, ← h.orT46, ph_app, (h.lroot x).2]
end
end Mine
end
section
set_option Elab.async false
set_option linter.unusedVariables false
set_option maxRecDepth 100000
namespace Mine
section
variable {f : Nat → List Nat}
theorem scan_true {P : Int → Bool} {d k : Int} (hk : k < d) (hP : P k = true) : ∀ (n : Nat) (i : Int), i ≤ k → k - i < n → scan P d n i = true
  | 0, i, h, h' => by omega
  | n + 1, i, h, h' => by
    unfold scan
    rw [if_pos (by omega)]
    by_cases q : P i = true
    · rw [if_pos q]
    · rw [if_neg q]
      have : i ≠ k := fun e => q (by rw [e]; exact hP)
      exact scan_true hk hP n (i + 1) (by omega) (by omega)
theorem scan_false {P : Int → Bool} {d : Int} : ∀ (n : Nat) (i : Int), (∀ k, i ≤ k → k < d → P k = false) → scan P d n i = false
  | 0, i, h => rfl
  | n + 1, i, h => by
    unfold scan
    by_cases q : i < d
    · rw [if_pos q, if_neg (by rw [h i (Int.le_refl _) q]; decide)]
      exact scan_false n (i + 1) fun k h1 h2 => h k (by omega) h2
    · rw [if_neg q]
theorem notDot_nat (x : List Nat) (k : Nat) : notDot x (k : Int) = true ↔ x[k]? ≠ some 46 := by
  unfold notDot
  have e : slc (some (k : Int)) (some ((k : Int) + 1)) x = (x.drop k).take 1 := one_eq k x
  rw [e, bne_iff_ne]
  rw [← List.head?_drop]
  cases x.drop k with
  | nil => simp
  | cons a r => simp
theorem starts46 (x : List Nat) : ∃ n r, x = List.replicate n 46 ++ r ∧ r.head? ≠ some 46 := by
  induction x with
  | nil => exact ⟨0, [], rfl, by simp⟩
  | cons a x ih =>
    by_cases e : a = 46
    · subst e
      obtain ⟨n, r, rfl, h⟩ := ih
      exact ⟨n + 1, r, rfl, h⟩
    · exact ⟨0, a :: x, rfl, by simpa using e⟩
theorem dropD_rep (n : Nat) (r : List Nat) (h : r.head? ≠ some 46) : (List.replicate n 46 ++ r).dropWhile (· == 46) = r := by
  induction n with
  | zero =>
    cases r with
    | nil => rfl
    | cons a r =>
      have : a ≠ 46 := fun e => h (by rw [e]; rfl)
      simp [this]
  | succ n ih => rw [List.replicate_succ, List.cons_append, List.dropWhile_cons]; simpa using ih
theorem Sp.head46 (h : Sp f) {x : List Nat} : (ph f x).head? = some 46 ↔ x.head? = some 46 := by
  cases x with
  | nil => simp [ph_nil]
  | cons a x =>
    by_cases e : a = 46
    · subst e; rw [ph_cons, h.a46]; simp
    · have h1 := h.n46 a e
      cases q : f a with
      | nil => exact absurd q (h.ne a)
      | cons b r =>
        rw [ph_cons, q]
        rw [q] at h1
        have : b ≠ 46 := fun e => h1 (by rw [e]; simp)
        simp [this, e]
/-- what lies ahead of the last name -/
noncomputable def Ahead (h : List Nat) : Prop := h = [] ∨ ∃ u, h = u ++ [47]
theorem ahead_split (x : List Nat) : ∃ h t, x = h ++ t ∧ Ahead h ∧ 47 ∉ t := by
  rcases last_piece 47 x with h | ⟨u, t, rfl, h⟩
  · exact ⟨[], x, rfl, .inl rfl, h⟩
  · exact ⟨u ++ [47], t, by simp, .inr ⟨u, rfl⟩, h⟩
theorem Ahead.rf {h t : List Nat} (a : Ahead h) (ht : 47 ∉ t) : rfindc 47 (h ++ t) = (h.length : Int) - 1 := by
  rcases a with rfl | ⟨u, rfl⟩
  · rw [List.nil_append, rfindc_free ht]; rfl
  · rw [show u ++ [47] ++ t = u ++ 47 :: t by simp, rfindc_app ht]
    simp
theorem Ahead.last {h t : List Nat} (a : Ahead h) (ht : 47 ∉ t) : llast (h ++ t) = t := by
  unfold llast
  rcases a with rfl | ⟨u, rfl⟩
  · rw [List.nil_append, splitc_free 47 t ht]; rfl
  · rw [show u ++ [47] ++ t = u ++ 47 :: t by simp, splitc_app, splitc_free 47 t ht]; simp
theorem Sp.ahead (h : Sp f) {g : List Nat} (a : Ahead g) : Ahead (ph f g) := by
  rcases a with rfl | ⟨u, rfl⟩
  · exact .inl rfl
  · exact .inr ⟨ph f u, by rw [ph_app, h.lit.1]⟩
theorem rfind46_rep (g : List Nat) (n : Nat) {u : List Nat} (hu : 46 ∉ u) : rfindc 46 (g ++ (List.replicate n 46 ++ u)) = if n = 0 then rfindc 46 g else ((g.length + n - 1 : Nat) : Int) := by
  cases n with
  | zero =>
    rw [if_pos rfl]
    rcases last_piece 46 g with h | ⟨v, t, rfl, h⟩
    · rw [rfindc_free h, rfindc_free]
      intro q
      rcases List.mem_append.mp q with q | q
      · exact h q
      · exact hu (by simpa using q)
    · rw [rfindc_app h, show v ++ 46 :: t ++ (List.replicate 0 46 ++ u) = v ++ 46 :: (t ++ u) by simp, rfindc_app]
      intro q
      rcases List.mem_append.mp q with q | q
      · exact h q
      · exact hu q
  | succ n =>
    rw [if_neg (by omega), show g ++ (List.replicate (n + 1) 46 ++ u) = (g ++ List.replicate n 46) ++ 46 :: u by rw [List.replicate_succ']; simp, rfindc_app hu]
    simp
/-- no ending -/
theorem ext_none {g u : List Nat} {n : Nat} (a : Ahead g) (h47 : 47 ∉ u) (hu : 46 ∉ u) : extA (g ++ (List.replicate n 46 ++ u)) = g ++ (List.replicate n 46 ++ u) ∧ extB (g ++ (List.replicate n 46 ++ u)) = [] := by
  have ht : 47 ∉ List.replicate n 46 ++ u := fun q => by
    rcases List.mem_append.mp q with q | q
    · have := List.eq_of_mem_replicate q; omega
    · exact h47 q
  have hx : extHas (g ++ (List.replicate n 46 ++ u)) = false := by
    unfold extHas
    rw [a.rf ht, rfind46_rep g n hu]
    by_cases hn : n = 0
    · rw [if_pos hn]
      have hlt : ¬ (g.length : Int) - 1 < rfindc 46 g := by
        rcases last_piece 46 g with q | ⟨v, t, e, q⟩
        · rw [rfindc_free q]; omega
        · rw [e, rfindc_app q]
          simp only [List.length_append, List.length_cons]; omega
      rw [decide_eq_false hlt]; rfl
    · rw [if_neg hn]
      rw [scan_false]
      · simp
      · intro k h1 h2
        obtain ⟨m, rfl⟩ : ∃ m : Nat, k = (m : Int) := ⟨k.toNat, by omega⟩
        rw [← Bool.not_eq_true, notDot_nat, Classical.not_not, List.getElem?_append_right (by omega), List.getElem?_append_left (by simp; omega)]
        rw [List.getElem?_replicate, if_pos (by omega)]
  unfold extA extB
  rw [hx]
  exact ⟨rfl, slc_to _ 0⟩
/-- an ending -/
theorem ext_some {g v w : List Nat} {n : Nat} (a : Ahead g) (hv : 47 ∉ v) (hw : 47 ∉ w) (hv0 : v ≠ []) (hvh : v.head? ≠ some 46) (hw46 : 46 ∉ w) :
    extA (g ++ (List.replicate n 46 ++ (v ++ 46 :: w))) = g ++ (List.replicate n 46 ++ v) ∧ extB (g ++ (List.replicate n 46 ++ (v ++ 46 :: w))) = 46 :: w := by
  have ht : 47 ∉ List.replicate n 46 ++ (v ++ 46 :: w) := fun q => by
    rcases List.mem_append.mp q with q | q
    · have := List.eq_of_mem_replicate q; omega
    · rcases List.mem_append.mp q with q | q
      · exact hv q
      · rcases List.mem_cons.mp q with q | q
        · omega
        · exact hw q
  have er : rfindc 46 (g ++ (List.replicate n 46 ++ (v ++ 46 :: w))) = ((g ++ (List.replicate n 46 ++ v)).length : Int) := by
    rw [show g ++ (List.replicate n 46 ++ (v ++ 46 :: w)) = (g ++ (List.replicate n 46 ++ v)) ++ 46 :: w by simp, rfindc_app hw46]
  obtain ⟨b, r, rfl⟩ := List.exists_cons_of_ne_nil hv0
  have hb : b ≠ 46 := fun e => hvh (by rw [e]; rfl)
  have hx : extHas (g ++ (List.replicate n 46 ++ (b :: r ++ 46 :: w))) = true := by
    unfold extHas
    rw [a.rf ht, er, Bool.and_eq_true]
    refine ⟨decide_eq_true (by simp only [List.length_append, List.length_cons]; omega), ?_⟩
    refine scan_true (k := ((g.length + n : Nat) : Int)) ?_ ?_ _ _ (by omega) ?_
    · simp only [List.length_append, List.length_cons, List.length_replicate]; omega
    · rw [notDot_nat, List.getElem?_append_right (by omega), List.getElem?_append_right (by simp)]
      simp [hb]
    · simp only [List.length_append, List.length_cons, List.length_replicate]; omega
  unfold extA extB
  rw [hx, er, if_pos rfl, if_pos rfl, slc_to, slc_from]
  have e : g ++ (List.replicate n 46 ++ (b :: r ++ 46 :: w)) = (g ++ (List.replicate n 46 ++ b :: r)) ++ 46 :: w := by simp
  rw [e, List.take_left' rfl, List.drop_left' rfl]
  exact ⟨rfl, rfl⟩
theorem lname_rep {g u : List Nat} {n : Nat} (a : Ahead g) (h47 : 47 ∉ u) (hu : u.head? ≠ some 46) : lname (g ++ (List.replicate n 46 ++ u)) = u := by
  unfold lname
  rw [a.last, dropD_rep n u hu]
  intro q
  rcases List.mem_append.mp q with q | q
  · have := List.eq_of_mem_replicate q; omega
  · exact h47 q
/-- a path by its front, the dots ahead of its name, the name and its ending -/
theorem ext_cases (x : List Nat) : ∃ g n u, x = g ++ (List.replicate n 46 ++ u) ∧ Ahead g ∧ 47 ∉ u ∧ u.head? ≠ some 46 ∧ (46 ∉ u ∨ ∃ v w, u = v ++ 46 :: w ∧ v ≠ [] ∧ v.head? ≠ some 46 ∧ 46 ∉ w) := by
  obtain ⟨g, t, rfl, ha, ht⟩ := ahead_split x
  obtain ⟨n, u, rfl, hu⟩ := starts46 t
  refine ⟨g, n, u, rfl, ha, fun q => ht (List.mem_append_right _ q), hu, ?_⟩
  rcases last_piece 46 u with h | ⟨v, w, rfl, h⟩
  · exact .inl h
  · refine .inr ⟨v, w, rfl, ?_, ?_, h⟩
    · rintro rfl; exact hu rfl
    · intro q
      apply hu
      cases v with
      | nil => cases q
      | cons a v => exact q
theorem kind3 (x y : List Nat) : (extA x, y ++ extB x) = (slc none (some ((x.length : Int) - ((lending x).length : Int))) x, y ++ lending x) := by
  obtain ⟨g, n, u, rfl, ha, h47, hu, h | ⟨v, w, rfl, hv0, hvh, hw⟩⟩ := ext_cases x
  · have e : lending (g ++ (List.replicate n 46 ++ u)) = [] := by
      unfold lending; rw [lname_rep ha h47 hu, if_neg (by simpa using h)]
    rw [(ext_none ha h47 h).1, (ext_none ha h47 h).2, e]
    have := slc_to (g ++ (List.replicate n 46 ++ u)) (g ++ (List.replicate n 46 ++ u)).length
    rw [List.take_length] at this
    have hl : ((g ++ (List.replicate n 46 ++ u)).length : Int) - (([] : List Nat).length : Int) = ((g ++ (List.replicate n 46 ++ u)).length : Int) := by simp only [List.length_nil]; omega
    rw [hl, this]
  · have hv : 47 ∉ v := fun q => h47 (List.mem_append_left _ q)
    have hw47 : 47 ∉ w := fun q => h47 (List.mem_append_right _ (.tail _ q))
    have e : lending (g ++ (List.replicate n 46 ++ (v ++ 46 :: w))) = 46 :: w := by
      unfold lending
      rw [lname_rep ha h47 hu, if_pos (by simp), splitc_app, splitc_free 46 w hw]
      simp
    obtain ⟨e1, e2⟩ := ext_some (n := n) ha hv hw47 hv0 hvh hw
    rw [e1, e2, e]
    have hl : ((g ++ (List.replicate n 46 ++ (v ++ 46 :: w))).length : Int) - ((46 :: w).length : Int) = ((g ++ (List.replicate n 46 ++ v)).length : Int) := by
      simp only [List.length_append, List.length_cons, List.length_replicate]; omega
    rw [hl, slc_to, show g ++ (List.replicate n 46 ++ (v ++ 46 :: w)) = (g ++ (List.replicate n 46 ++ v)) ++ 46 :: w by simp, List.take_left' rfl]
theorem Sp.ext (h : Sp f) (x : List Nat) : extA (ph f x) = ph f (extA x) ∧ extB (ph f x) = ph f (extB x) := by
  obtain ⟨g, n, u, rfl, ha, h47, hu, h1 | ⟨v, w, rfl, hv0, hvh, hw⟩⟩ := ext_cases x
  · rw [(ext_none ha h47 h1).1, (ext_none ha h47 h1).2, ph_app, ph_app, h.rep46]
    exact ext_none (h.ahead ha) (fun q => h47 (h.mem47.mp q)) (fun q => h1 (h.mem46.mp q))
  · have hv : 47 ∉ v := fun q => h47 (List.mem_append_left _ q)
    have hw47 : 47 ∉ w := fun q => h47 (List.mem_append_right _ (.tail _ q))
    obtain ⟨e1, e2⟩ := ext_some (n := n) ha hv hw47 hv0 hvh hw
    rw [e1, e2]
    simp only [ph_app, ph_cons, h.rep46, h.a46]
    have := ext_some (g := ph f g) (v := ph f v) (w := ph f w) (n := n) (h.ahead ha) (fun q => hv (h.mem47.mp q)) (fun q => hw47 (h.mem47.mp q)) (fun q => hv0 (h.nil_iff.mp q)) (fun q => hvh (h.head46.mp q)) (fun q => hw (h.mem46.mp q))
    simpa using this
end
end Mine
end
section
set_option Elab.async false
set_option linter.unusedVariables false
set_option maxRecDepth 100000
namespace Mine
/-- the longest beginning that rows share -/
structure Gcp {α : Type} (P : List α) (rows : List (List α)) : Prop where
  pre : ∀ r ∈ rows, P <+: r
  max : ∀ Q, (∀ r ∈ rows, Q <+: r) → Q <+: P
theorem Gcp.uniq {α : Type} {P Q : List α} {rows : List (List α)} (h : Gcp P rows) (h' : Gcp Q rows) : P = Q :=
  (h'.max P h.pre).eq_of_length (Nat.le_antisymm (h'.max P h.pre).length_le (h.max Q h'.pre).length_le)
theorem cnt_true (P : Nat → Bool) : ∀ (n k j : Nat), k ≤ j → j < cnt P n k → P j = true
  | 0, k, j, h, h' => by unfold cnt at h'; omega
  | n + 1, k, j, h, h' => by
    unfold cnt at h'
    by_cases q : P k = true
    · rw [if_pos q] at h'
      rcases Nat.lt_or_ge k j with e | e
      · exact cnt_true P n (k + 1) j e h'
      · have : k = j := by omega
        rw [← this]; exact q
    · rw [if_neg q] at h'; omega
theorem cnt_stop (P : Nat → Bool) : ∀ (n k : Nat), cnt P n k = k + n ∨ P (cnt P n k) = false
  | 0, k => .inl rfl
  | n + 1, k => by
    unfold cnt
    by_cases q : P k = true
    · rw [if_pos q]
      rcases cnt_stop P n (k + 1) with h | h
      · left; omega
      · exact .inr h
    · rw [if_neg q]; exact .inr (by simpa using q)
section
variable {α : Type} [BEq α] [LawfulBEq α]
theorem one_get {α : Type} {k : Nat} {x y : List α} (h : one k x = one k y) : x[k]? = y[k]? := by
  rw [one_eq, one_eq] at h
  rw [← List.head?_drop, ← List.head?_drop]
  have := congrArg List.head? h
  simpa [List.head?_take] using this
theorem one_of {α : Type} {k : Nat} {x y : List α} (h : x[k]? = y[k]?) : one k x = one k y := by
  rw [one_eq, one_eq]
  rw [← List.head?_drop, ← List.head?_drop] at h
  cases hx : x.drop k with
  | nil =>
    rw [hx] at h
    cases hy : y.drop k with
    | nil => rfl
    | cons b s => rw [hy] at h; cases h
  | cons a r =>
    rw [hx] at h
    cases hy : y.drop k with
    | nil => rw [hy] at h; cases h
    | cons b s =>
      rw [hy] at h
      simp at h
      simp [h]
theorem take_eq_of {α : Type} {x y : List α} : ∀ (m : Nat), (∀ k, k < m → x[k]? = y[k]?) → x.take m = y.take m := fun m h => by
  apply List.ext_getElem?
  intro i
  rw [List.getElem?_take, List.getElem?_take]
  split
  · exact h i (by assumption)
  · rfl
theorem front_gcp (a : List α) (rs : List (List α)) : Gcp (frontL (a :: rs)) (a :: rs) := by
  have e : frontL (a :: rs) = a.take (cnt (sameAt (a :: rs) a) a.length 0) := slc_to a _
  have hs : ∀ k, sameAt (a :: rs) a k = true ↔ k < a.length ∧ ∀ r ∈ a :: rs, r[k]? = a[k]? := fun k => by
    unfold sameAt
    rw [Bool.and_eq_true, List.all_eq_true, decide_eq_true_eq]
    constructor
    · rintro ⟨h1, h2⟩
      exact ⟨by omega, fun r hr => one_get (eq_of_beq (h2 r hr))⟩
    · rintro ⟨h1, h2⟩
      exact ⟨by omega, fun r hr => by rw [one_of (h2 r hr)]; exact beq_self_eq_true _⟩
  rw [e]
  generalize hm : cnt (sameAt (a :: rs) a) a.length 0 = m
  have ht : ∀ k, k < m → sameAt (a :: rs) a k = true := fun k hk => cnt_true _ a.length 0 k (Nat.zero_le _) (by rw [hm]; exact hk)
  have hst := cnt_stop (sameAt (a :: rs) a) a.length 0
  rw [hm] at hst
  refine ⟨fun r hr => ?_, fun Q hQ => ?_⟩
  · rw [← take_eq_of m fun k hk => ((hs k).mp (ht k hk)).2 r hr]
    exact List.take_prefix _ _
  · have hQa := hQ a (.head _)
    have hle : Q.length ≤ m := by
      rcases hst with h | h
      · have := hQa.length_le; omega
      · rcases Nat.lt_or_ge m Q.length with q | q
        · exfalso
          have : sameAt (a :: rs) a m = true := (hs m).mpr ⟨Nat.lt_of_lt_of_le q hQa.length_le, fun r hr => by
            have h1 : ∀ r ∈ a :: rs, r[m]? = Q[m]? := fun r hr => by
              obtain ⟨t, rfl⟩ := hQ r hr
              exact List.getElem?_append_left q
            rw [h1 r hr, h1 a (.head _)]⟩
          rw [this] at h; cases h
        · exact q
    rw [List.prefix_iff_eq_take.mp hQa]
    exact (List.take_prefix_take_left hle)
end
section
variable {α : Type} [DecidableEq α]
theorem lcp_max : ∀ (Q x y : List α), Q <+: x → Q <+: y → Q <+: lcp x y
  | [], x, y, _, _ => List.nil_prefix
  | c :: Q, [], y, h, _ => by simp at h
  | c :: Q, a :: x, [], _, h => by simp at h
  | c :: Q, a :: x, b :: y, h1, h2 => by
    obtain ⟨e1, q1⟩ := List.cons_prefix_cons.mp h1
    obtain ⟨e2, q2⟩ := List.cons_prefix_cons.mp h2
    subst e1; subst e2
    unfold lcp
    rw [if_pos rfl]
    exact List.cons_prefix_cons.mpr ⟨rfl, lcp_max Q x y q1 q2⟩
theorem lcp_between [LT α] (tri : ∀ a b : α, ¬ a < b → ¬ b < a → a = b) : ∀ (m M z : List α), ¬ z < m → ¬ M < z → lcp m M <+: z
  | [], M, z, _, _ => by simp [lcp]
  | a :: m, [], z, _, _ => by simp [lcp]
  | a :: m, b :: M, z, h1, h2 => by
    unfold lcp
    split
    · rename_i e; subst e
      cases z with
      | nil => exact absurd (List.nil_lt_cons a m) h1
      | cons c z =>
        rw [List.cons_lt_cons_iff] at h1 h2
        have hc : c = a := tri c a (fun q => h1 (.inl q)) (fun q => h2 (.inl q))
        subst hc
        exact List.cons_prefix_cons.mpr ⟨rfl, lcp_between tri m M z (fun q => h1 (.inr ⟨rfl, q⟩)) (fun q => h2 (.inr ⟨rfl, q⟩))⟩
    · exact List.nil_prefix
end
theorem triN (a b : Nat) (h : ¬ a < b) (h' : ¬ b < a) : a = b := by omega
theorem triL (a b : List Nat) (h : ¬ a < b) (h' : ¬ b < a) : a = b := List.le_antisymm (List.not_lt.mp h') (List.not_lt.mp h)
theorem minmax_gcpR (a : List Nat) (rs : List (List Nat)) : Gcp (lcp (minR a rs) (maxR a rs)) (a :: rs) := by
  have h1 := (bestOf_min lt_tr1 lt_ir1 rs a).1
  have htr2 : ∀ a b c : List Nat, decide (b < a) = true → decide (c < b) = true → decide (c < a) = true := fun a b c h h' => lt_tr1 c b a h' h
  have h2 := (bestOf_min (lt := fun a b : List Nat => decide (b < a)) htr2 (fun a => lt_ir1 a) rs a).1
  refine ⟨fun r hr => lcp_between triN _ _ r ?_ ?_, fun Q hQ => lcp_max Q _ _ (hQ _ ?_) (hQ _ ?_)⟩
  · exact of_decide_eq_false (h1 r (List.mem_cons.mp hr))
  · exact of_decide_eq_false (h2 r (List.mem_cons.mp hr))
  · exact List.mem_cons.mpr bestOf_mem
  · exact List.mem_cons.mpr bestOf_mem
theorem minmax_gcpL (a : List (List Nat)) (rs : List (List (List Nat))) : Gcp (lcp (minL a rs) (maxL a rs)) (a :: rs) := by
  have h1 := (bestOf_min lt_tr2 lt_ir2 rs a).1
  have htr2 : ∀ a b c : List (List Nat), decide (b < a) = true → decide (c < b) = true → decide (c < a) = true := fun a b c h h' => lt_tr2 c b a h' h
  have h2 := (bestOf_min (lt := fun a b : List (List Nat) => decide (b < a)) htr2 (fun a => lt_ir2 a) rs a).1
  refine ⟨fun r hr => lcp_between triL _ _ r ?_ ?_, fun Q hQ => lcp_max Q _ _ (hQ _ ?_) (hQ _ ?_)⟩
  · exact of_decide_eq_false (h1 r (List.mem_cons.mp hr))
  · exact of_decide_eq_false (h2 r (List.mem_cons.mp hr))
  · exact List.mem_cons.mpr bestOf_mem
  · exact List.mem_cons.mpr bestOf_mem
theorem Gcp.map {α β : Type} {g : α → β} (hg : ∀ a b, g a = g b → a = b) {P a : List α} {rs : List (List α)} (h : Gcp P (a :: rs)) : Gcp (P.map g) ((a :: rs).map (List.map g)) := by
  refine ⟨fun r hr => ?_, fun Q hQ => ?_⟩
  · obtain ⟨r', hr', rfl⟩ := List.mem_map.mp hr
    obtain ⟨t, rfl⟩ := h.pre r' hr'
    rw [List.map_append]; exact List.prefix_append _ _
  · have e : ∀ r ∈ a :: rs, Q = (r.take Q.length).map g := fun r hr => by
      rw [List.map_take]
      exact List.prefix_iff_eq_take.mp (hQ _ (List.mem_map_of_mem hr))
    have ea := e a (.head _)
    have hinj : ∀ x y : List α, x.map g = y.map g → x = y := fun x y q => by
      exact (List.map_inj_right (fun _ _ => hg _ _)).mp q
    have : a.take Q.length <+: P := h.max _ fun r hr => by
      have := hinj _ _ ((e r hr).symm.trans ea)
      rw [← this]; exact List.take_prefix _ _
    rw [ea]
    obtain ⟨t, ht⟩ := this
    rw [← ht, List.map_append]; exact List.prefix_append _ _
end Mine
end
section
set_option Elab.async false
set_option linter.unusedVariables false
set_option maxRecDepth 100000
namespace Mine
section
variable {f : Nat → List Nat}
/-! kind 4 -/
theorem Sp.plain (h : Sp f) (p : List Nat) : plainP (ph f p) = plainP p := by
  unfold plainP
  congr 1
  rw [List.contains_eq_mem, List.contains_eq_mem]
  congr 1
  simp only [List.mem_cons, List.not_mem_nil, or_false, h.nil_iff, h.eq46]
theorem Sp.clean (h : Sp f) (x : List Nat) : cleanP (ph f x) = (cleanP x).map (ph f) := by
  unfold cleanP
  rw [h.split47, List.filter_map]
  congr 1
  refine List.filter_congr fun p _ => ?_
  exact h.plain p
theorem com_front (a b c : List Nat) : lcp (minL (cleanP a) [cleanP b, cleanP c]) (maxL (cleanP a) [cleanP b, cleanP c]) = frontL [cleanP a, cleanP b, cleanP c] := (minmax_gcpL _ _).uniq (front_gcp _ _)
theorem kind4 (x y z : List Nat) : (if evenR x y z = true then comS x y z else x ++ [33]) = lcommon x y z := by
  have e : (![(0 : Int), (([x, y, z] : List (List Nat)).length : Int)].contains (absN x y z : Int)) = !evenR x y z := by
    unfold absN evenR
    have hl : ([x, y, z].filter isAb).length = (if rootedB x then 1 else 0) + (if rootedB y then 1 else 0) + (if rootedB z then 1 else 0) := by
      simp only [List.filter_cons, isAb_eq, List.filter_nil]
      cases rootedB x <;> cases rootedB y <;> cases rootedB z <;> rfl
    rw [hl]
    cases rootedB x <;> cases rootedB y <;> cases rootedB z <;> rfl
  unfold lcommon
  rw [e]
  by_cases h : evenR x y z = true
  · rw [if_pos h, if_neg (by rw [h]; decide), isAb_eq, ← com_front]; rfl
  · rw [if_neg h, if_pos (by simpa using h)]
theorem Sp.even (h : Sp f) (x y z : List Nat) : evenR (ph f x) (ph f y) (ph f z) = evenR x y z := by
  unfold evenR; rw [h.rooted, h.rooted, h.rooted]
theorem Sp.com (h : Sp f) (x y z : List Nat) : comS (ph f x) (ph f y) (ph f z) = ph f (comS x y z) := by
  have e : lcp (minL (cleanP (ph f x)) [cleanP (ph f y), cleanP (ph f z)]) (maxL (cleanP (ph f x)) [cleanP (ph f y), cleanP (ph f z)]) = (lcp (minL (cleanP x) [cleanP y, cleanP z]) (maxL (cleanP x) [cleanP y, cleanP z])).map (ph f) := by
    have g1 := (minmax_gcpL (cleanP x) [cleanP y, cleanP z]).map (g := ph f) (fun a b q => h.inj' q)
    refine Gcp.uniq (rows := [cleanP (ph f x), cleanP (ph f y), cleanP (ph f z)]) (minmax_gcpL _ _) ?_
    rw [h.clean, h.clean, h.clean]
    exact g1
  unfold comS
  rw [e, h.join47, h.rooted, ph_app]
  congr 1
  split
  · exact h.lit.1.symm
  · rfl
end
/-! kind 5 -/
theorem kind5 (x y z : List Nat) : lcp (minR x [y, z]) (maxR x [y, z]) = frontL [x, y, z] := (minmax_gcpR _ _).uniq (front_gcp _ _)
theorem pre_or {f : Nat → List Nat} (h : Sp f) {c d : Nat} (hne : c ≠ d) {Q X Y : List Nat} (h1 : Q <+: f c ++ X) (h2 : Q <+: f d ++ Y) : Q <+: f c := by
  rcases List.prefix_or_prefix_of_prefix h1 (List.prefix_append (f c) X) with q | q
  · exact q
  · obtain ⟨t, ht⟩ := q
    obtain ⟨u, hu⟩ := h2
    exact absurd (h.pf c d (t ++ u) Y (by rw [← List.append_assoc, ht, hu])) hne
theorem gcp_written (hs : List Int) {P : List Nat} {x y z : List Nat} (g : Gcp P [x, y, z]) : Gcp (writeH hs P ++ lmore P.length [x, y, z] hs) [writeH hs x, writeH hs y, writeH hs z] := by
  have h := sp_wf hs
  have hW : ∀ x, writeH hs x = ph (wf hs) x := writeH_ph hs
  have mem3 : ∀ {r : List Nat} {a b c : List Nat}, r ∈ [a, b, c] ↔ r = a ∨ r = b ∨ r = c := fun {r a b c} => by simp
  have hx := g.pre x (by simp)
  have hy := g.pre y (by simp)
  have hz := g.pre z (by simp)
  obtain ⟨x', rfl⟩ := hx
  obtain ⟨y', rfl⟩ := hy
  obtain ⟨z', rfl⟩ := hz
  have hone : ∀ r : List Nat, one P.length (P ++ r) = r.take 1 := fun r => by rw [one_eq, List.drop_left' rfl]
  have hmap : [P ++ x', P ++ y', P ++ z'].map (one P.length) = [x'.take 1, y'.take 1, z'.take 1] := by
    simp only [List.map_cons, List.map_nil, hone]
  have wapp : ∀ r, writeH hs (P ++ r) = writeH hs P ++ writeH hs r := fun r => writeH_app hs P r
  unfold lmore
  rw [hmap]
  by_cases he : x' = [] ∨ y' = [] ∨ z' = []
  · rw [if_pos (by
      rw [List.contains_iff_mem, mem3]
      rcases he with rfl | rfl | rfl
      · exact .inl rfl
      · exact .inr (.inl rfl)
      · exact .inr (.inr rfl)), List.append_nil]
    refine ⟨fun r hr => ?_, fun Q hQ => ?_⟩
    · rcases mem3.mp hr with rfl | rfl | rfl <;> rw [wapp] <;> exact List.prefix_append _ _
    · rcases he with rfl | rfl | rfl
      · have := hQ _ (mem3.mpr (.inl rfl)); rwa [List.append_nil] at this
      · have := hQ _ (mem3.mpr (.inr (.inl rfl))); rwa [List.append_nil] at this
      · have := hQ _ (mem3.mpr (.inr (.inr rfl))); rwa [List.append_nil] at this
  · have h1 : x' ≠ [] := fun q => he (.inl q)
    have h2 : y' ≠ [] := fun q => he (.inr (.inl q))
    have h3 : z' ≠ [] := fun q => he (.inr (.inr q))
    obtain ⟨a, x'', rfl⟩ := List.exists_cons_of_ne_nil h1
    obtain ⟨b, y'', rfl⟩ := List.exists_cons_of_ne_nil h2
    obtain ⟨c, z'', rfl⟩ := List.exists_cons_of_ne_nil h3
    rw [if_neg (by rw [List.contains_iff_mem, mem3]; simp)]
    have hM := front_gcp (writeH hs [a]) [writeH hs [b], writeH hs [c]]
    have hl : ([List.take 1 (a :: x''), List.take 1 (b :: y''), List.take 1 (c :: z'')].map (writeH hs)) = [writeH hs [a], writeH hs [b], writeH hs [c]] := rfl
    rw [hl]
    generalize frontL [writeH hs [a], writeH hs [b], writeH hs [c]] = M at hM ⊢
    have wc : ∀ (d : Nat) (r : List Nat), writeH hs (P ++ d :: r) = writeH hs P ++ (wf hs d ++ writeH hs r) := fun d r => by
      rw [wapp, ← List.singleton_append, writeH_app]; rfl
    have hdiff : ¬ (a = b ∧ b = c) := fun q => by
      obtain ⟨rfl, rfl⟩ := q
      have := g.max (P ++ [a]) fun r hr => by
        rcases mem3.mp hr with rfl | rfl | rfl <;> simp
      have := this.length_le
      rw [List.length_append, List.length_singleton] at this
      omega
    refine ⟨fun r hr => ?_, fun Q hQ => ?_⟩
    · have : ∀ (d : Nat) (r : List Nat), M <+: wf hs d → writeH hs P ++ M <+: writeH hs (P ++ d :: r) := fun d r hp => by
        obtain ⟨t, ht⟩ := hp
        exact ⟨t ++ writeH hs r, by rw [wc, ← ht]; simp⟩
      rcases mem3.mp hr with rfl | rfl | rfl
      · exact this a _ (hM.pre _ (by simp [wf]))
      · exact this b _ (hM.pre _ (by simp [wf]))
      · exact this c _ (hM.pre _ (by simp [wf]))
    · have q1 := hQ _ (mem3.mpr (.inl rfl))
      have q2 := hQ _ (mem3.mpr (.inr (.inl rfl)))
      have q3 := hQ _ (mem3.mpr (.inr (.inr rfl)))
      rw [wc] at q1 q2 q3
      rcases List.prefix_or_prefix_of_prefix q1 (List.prefix_append (writeH hs P) _) with q | ⟨T, rfl⟩
      · exact q.trans (List.prefix_append _ _)
      · rw [List.prefix_append_right_inj] at q1 q2 q3 ⊢
        refine hM.max T fun r hr => ?_
        have hab : a = b ∨ a ≠ b := Classical.em _
        rcases mem3.mp hr with rfl | rfl | rfl
        · rcases hab with e | e
          · exact pre_or h (fun q => hdiff ⟨e, e ▸ q⟩) q1 q3
          · exact pre_or h e q1 q2
        · rcases hab with e | e
          · exact pre_or h (fun q => hdiff ⟨e, q⟩) q2 q3
          · exact pre_or h (Ne.symm e) q2 q1
        · rcases hab with e | e
          · exact pre_or h (fun q => hdiff ⟨e, q.symm⟩) q3 q2
          · by_cases e2 : c = a
            · exact pre_or h (fun q => e (e2.symm.trans q)) q3 q2
            · exact pre_or h e2 q3 q1
theorem kind5W (hs : List Int) (x y z : List Nat) : lcp (minR (writeH hs x) [writeH hs y, writeH hs z]) (maxR (writeH hs x) [writeH hs y, writeH hs z]) = writeH hs (frontL [x, y, z]) ++ lmore (frontL [x, y, z]).length [x, y, z] hs :=
  (minmax_gcpR _ _).uniq (gcp_written hs (front_gcp x [y, z]))
/-! kind 7 -/
theorem walkStep_good (ab : Bool) (p : Nat × List (List Nat)) {c : List Nat} (hc : 47 ∉ c) (h : ∀ q ∈ p.2, q ≠ [] ∧ 47 ∉ q) : ∀ q ∈ (walkStep ab p c).2, q ≠ [] ∧ 47 ∉ q := by
  unfold walkStep
  split
  · split
    · split <;> exact h
    · exact fun q hq => h q ((slc_sub _ _ _).subset hq)
  · split
    · rename_i h1 h2
      intro q hq
      rcases List.mem_append.mp hq with hq | hq
      · exact h q hq
      · have := List.mem_singleton.mp hq
        subst this
        refine ⟨fun e => ?_, hc⟩
        subst e
        cases h2
    · exact h
theorem lwalk_good (x : List Nat) : ∀ q ∈ lwalk x, q ≠ [] ∧ 47 ∉ q := by
  have key : ∀ (ab : Bool) (L : List (List Nat)) (p : Nat × List (List Nat)), (∀ c ∈ L, 47 ∉ c) → (∀ q ∈ p.2, q ≠ [] ∧ 47 ∉ q) → ∀ q ∈ (L.foldl (walkStep ab) p).2, q ≠ [] ∧ 47 ∉ q := by
    intro ab L
    induction L with
    | nil => intro p _ h; exact h
    | cons c L ih => intro p hL h; exact ih _ (fun d hd => hL d (.tail _ hd)) (walkStep_good ab p (hL c (.head _)) h)
  intro q hq
  unfold lwalk at hq
  rcases List.mem_append.mp hq with hq | hq
  · have := List.eq_of_mem_replicate hq
    subst this
    exact ⟨by simp, by simp⟩
  · exact key _ _ (0, []) (splitc_mem 47 x) (by simp) q hq
theorem join_head {L : List (List Nat)} (h : ∀ q ∈ L, q ≠ [] ∧ 47 ∉ q) : (joinc [47] L).head? ≠ some 47 ∧ (joinc [47] L = [] ↔ L = []) := by
  cases L with
  | nil => simp [joinc]
  | cons p L =>
    obtain ⟨h1, h2⟩ := h p (.head _)
    obtain ⟨a, r, rfl⟩ := List.exists_cons_of_ne_nil h1
    have ha : a ≠ 47 := fun e => h2 (by rw [e]; simp)
    cases L with
    | nil => simp [joinc, ha]
    | cons q L => rw [joinc_cons _ _ (by simp)]; simp [ha]
theorem norm_rooted {x : List Nat} (h : x.head? = some 47) : ∃ n, normS x = List.replicate n 47 ++ joinc [47] (lwalk x) := by
  rw [kind2]
  obtain ⟨n, r, rfl, hr⟩ := starts47 x
  have hn : n ≠ 0 := by
    rintro rfl
    exact hr h
  rw [lroot_rep n hr]
  match n, hn with
  | 1, _ => exact ⟨1, rfl⟩
  | 2, _ => exact ⟨2, rfl⟩
  | n + 3, _ => exact ⟨1, rfl⟩
theorem tailL_walk {x : List Nat} (h : x.head? = some 47) : tailL x = lwalk x := by
  obtain ⟨n, e⟩ := norm_rooted h
  have hg := lwalk_good x
  obtain ⟨h1, h2⟩ := join_head hg
  have et : tailN x = joinc [47] (lwalk x) := by
    unfold tailN
    rw [e, dropW_rep n _ h1]
  unfold tailL
  rw [et]
  by_cases q : lwalk x = []
  · rw [q, if_neg (by simp [joinc])]
  · rw [if_pos (by simpa using fun e => q (h2.mp e)), splitc_join 47 _ q fun p hp => (hg p hp).2]
theorem kind7 {x y : List Nat} (h1 : x.head? = some 47) (h2 : y.head? = some 47) : relS x y = lway x y := by
  have ec : comN x y = (frontL [lwalk x, lwalk y]).length := by
    unfold comN
    rw [tailL_walk h1, tailL_walk h2]
    have g := minmax_gcpL (lwalk y) [lwalk x]
    have g' := front_gcp (lwalk x) [lwalk y]
    have : Gcp (frontL [lwalk x, lwalk y]) [lwalk y, lwalk x] := ⟨fun r hr => g'.pre r (by simp at hr ⊢; exact hr.symm), fun Q hQ => g'.max Q fun r hr => hQ r (by simp at hr ⊢; exact hr.symm)⟩
    rw [g.uniq this]
  have er : relL x y = List.replicate ((lwalk y).length - (frontL [lwalk x, lwalk y]).length) [46, 46] ++ slc (some ((frontL [lwalk x, lwalk y]).length : Int)) none (lwalk x) := by
    unfold relL
    rw [ec, tailL_walk h1, tailL_walk h2]
  unfold relS lway
  rw [er]
  generalize hL : List.replicate ((lwalk y).length - (frontL [lwalk x, lwalk y]).length) [46, 46] ++ slc (some ((frontL [lwalk x, lwalk y]).length : Int)) none (lwalk x) = L
  have hg : ∀ q ∈ L, q ≠ [] ∧ 47 ∉ q := fun q hq => by
    rw [← hL] at hq
    rcases List.mem_append.mp hq with hq | hq
    · have := List.eq_of_mem_replicate hq
      subst this
      exact ⟨by simp, by simp⟩
    · exact lwalk_good x q ((slc_sub _ _ _).subset hq)
  obtain ⟨_, hn⟩ := join_head hg
  unfold orT
  by_cases q : L = []
  · subst q; rfl
  · rw [if_neg (by simpa using q), if_neg (by simpa using fun e => q (hn.mp e))]
theorem Sp.way {f : Nat → List Nat} (h : Sp f) (x y : List Nat) : lway (ph f x) (ph f y) = ph f (lway x y) := by
  have e : (frontL [lwalk (ph f x), lwalk (ph f y)]) = (frontL [lwalk x, lwalk y]).map (ph f) := by
    have g1 := (front_gcp (lwalk x) [lwalk y]).map (g := ph f) (fun a b q => h.inj' q)
    refine Gcp.uniq (rows := [lwalk (ph f x), lwalk (ph f y)]) (front_gcp _ _) ?_
    rw [h.walk, h.walk]
    exact g1
  unfold lway
  rw [e, List.length_map, h.walk, h.walk, List.length_map, slc_map, ← h.orT46, ← h.join47, List.map_append, List.map_replicate, h.lit.2.2]
end Mine
end
section
set_option Elab.async false
set_option linter.unusedVariables false
set_option maxRecDepth 100000
namespace Mine
/-- kind 7 is only taken of paths with a root, or of none -/
noncomputable def K7ok (k : Int) (x y : List Nat) : Prop := (k == 0) = false → (k == 1) = false → (k == 2) = false → (k == 3) = false → (k == 4) = false → (k == 5) = false → (k == 6) = false → x ≠ [] → x.head? = some 47 ∧ y.head? = some 47
theorem did_told (k : Int) (x y z : List Nat) (h7 : K7ok k x y) : didS k x y z = toldS k x y z := by
  unfold didS toldS
  by_cases h0 : (k == 0) = true
  · rw [if_pos h0, if_pos h0, kind0]
  rw [if_neg h0, if_neg h0]
  by_cases h1 : (k == 1) = true
  · rw [if_pos h1, if_pos h1, kind1]
  rw [if_neg h1, if_neg h1]
  by_cases h2 : (k == 2) = true
  · rw [if_pos h2, if_pos h2, kind2]
  rw [if_neg h2, if_neg h2]
  by_cases h3 : (k == 3) = true
  · rw [if_pos h3, if_pos h3, kind3]
  rw [if_neg h3, if_neg h3]
  by_cases h4 : (k == 4) = true
  · rw [if_pos h4, if_pos h4, kind4]
  rw [if_neg h4, if_neg h4]
  by_cases h5 : (k == 5) = true
  · rw [if_pos h5, if_pos h5, kind5]
  rw [if_neg h5, if_neg h5]
  by_cases h6 : (k == 6) = true
  · rw [if_pos h6, if_pos h6, kind6]
  rw [if_neg h6, if_neg h6]
  by_cases hx : x = []
  · subst hx; rfl
  · obtain ⟨q1, q2⟩ := h7 (by simpa using h0) (by simpa using h1) (by simpa using h2) (by simpa using h3) (by simpa using h4) (by simpa using h5) (by simpa using h6) hx
    rw [if_neg (by simpa using hx), if_neg (by simpa using hx), kind7 q1 q2]
noncomputable def moreS (k : Int) (x y z : List Nat) (hs : List Int) : List Nat := if (k == 5) = true then lmore (toldS k x y z).1.length [x, y, z] hs else []
theorem K7ok.ph {k : Int} {x y : List Nat} {f : Nat → List Nat} (h : Sp f) (h7 : K7ok k x y) : K7ok k (ph f x) (ph f y) := fun a0 a1 a2 a3 a4 a5 a6 hx => by
  obtain ⟨q1, q2⟩ := h7 a0 a1 a2 a3 a4 a5 a6 fun e => hx (h.nil_iff.mpr e)
  exact ⟨h.head47.mpr q1, h.head47.mpr q2⟩
theorem lit33 (hs : List Int) : writeH hs [33] = [33] := by
  induction hs with
  | nil => rfl
  | cons h r ih =>
    have e : spell (tabH h) [33] = [33] := by
      unfold tabH
      split
      · decide
      · split
        · decide
        · split
          · decide
          · split <;> decide
    show writeH r (spell (tabH h) [33]) = _
    rw [e]; exact ih
theorem did_written (hs : List Int) (k : Int) (x y z : List Nat) (h7 : K7ok k x y) :
    didS k (writeH hs x) (writeH hs y) (writeH hs z) = (writeH hs (toldS k x y z).1 ++ moreS k x y z hs, writeH hs (toldS k x y z).2) := by
  have h := sp_wf hs
  rw [← did_told k x y z h7]
  have hm : moreS k x y z hs = if (k == 5) = true then lmore (didS k x y z).1.length [x, y, z] hs else [] := by rw [did_told k x y z h7]; rfl
  rw [hm]
  have e33 : ph (wf hs) [33] = [33] := by rw [← writeH_ph]; exact lit33 hs
  by_cases h5 : (k == 5) = true
  · have : k = 5 := eq_of_beq h5
    subst this
    have := kind5W hs x y z
    rw [if_pos h5]
    show (lcp (minR (writeH hs x) [writeH hs y, writeH hs z]) (maxR (writeH hs x) [writeH hs y, writeH hs z]), writeH hs y) = (writeH hs (lcp (minR x [y, z]) (maxR x [y, z])) ++ lmore (lcp (minR x [y, z]) (maxR x [y, z])).length [x, y, z] hs, writeH hs y)
    rw [this, kind5]
  rw [if_neg h5, List.append_nil]
  simp only [writeH_ph]
  generalize wf hs = f at h e33
  unfold didS
  by_cases h0 : (k == 0) = true
  · rw [if_pos h0, if_pos h0, h.join]
  rw [if_neg h0, if_neg h0]
  by_cases h1 : (k == 1) = true
  · rw [if_pos h1, if_pos h1, kind1, kind1, h.parted]
  rw [if_neg h1, if_neg h1]
  by_cases h2 : (k == 2) = true
  · rw [if_pos h2, if_pos h2, kind2, kind2, h.told2]
  rw [if_neg h2, if_neg h2]
  by_cases h3 : (k == 3) = true
  · rw [if_pos h3, if_pos h3, (h.ext x).1, (h.ext x).2, ph_app]
  rw [if_neg h3, if_neg h3]
  by_cases h4 : (k == 4) = true
  · rw [if_pos h4, if_pos h4, h.even]
    by_cases he : evenR x y z = true
    · rw [if_pos he, if_pos he, h.com]
    · rw [if_neg he, if_neg he]
      show _ = (ph f (x ++ [33]), _)
      rw [ph_app, e33]
  rw [if_neg h4, if_neg h4, if_neg h5, if_neg h5]
  by_cases h6 : (k == 6) = true
  · rw [if_pos h6, if_pos h6, h.rootT, (root_eq (ph f x)).1, (h.lroot x).1, (root_eq x).1]
    show _ = (_, ph f (lroot x ++ y))
    rw [ph_app, (h.lroot x).2]; rfl
  rw [if_neg h6, if_neg h6]
  by_cases hx : x = []
  · subst hx
    show ([33], _) = (ph f [33], _)
    rw [e33]; rfl
  · have hx' : ph f x ≠ [] := fun e => hx (h.nil_iff.mp e)
    obtain ⟨q1, q2⟩ := h7 (by simpa using h0) (by simpa using h1) (by simpa using h2) (by simpa using h3) (by simpa using h4) (by simpa using h5) (by simpa using h6) hx
    rw [if_neg (by simpa using hx'), if_neg (by simpa using hx), kind7 q1 q2, kind7 (h.head47.mpr q1) (h.head47.mpr q2), h.way]
theorem seen_true (p : List Nat) (hs : List Int) : seenS p (writeH hs p) hs = true := by
  have h := sp_wf hs
  unfold seenS
  have e1 : ((writeH hs p).head? == some 47) = isAb p := by
    rw [isAb_eq, writeH_ph]; exact h.rooted p
  rw [e1, if_neg (by simp)]
  have k1 := kind1 (writeH hs p)
  rw [writeH_ph, h.parted, Prod.mk.injEq] at k1
  rw [writeH_ph hs p, k1.1, k1.2, writeH_ph, writeH_ph]
  exact beq_self_eq_true _
theorem seven : ∀ n : Nat, n < 8 → ¬ (n : Int) = 0 → ¬ (n : Int) = 1 → ¬ (n : Int) = 2 → ¬ (n : Int) = 3 → ¬ (n : Int) = 4 → ¬ (n : Int) = 5 → ¬ (n : Int) = 6 → (n : Int) = 7
  | 0, _, h, _, _, _, _, _, _ => absurd rfl h
  | 1, _, _, h, _, _, _, _, _ => absurd rfl h
  | 2, _, _, _, h, _, _, _, _ => absurd rfl h
  | 3, _, _, _, _, h, _, _, _ => absurd rfl h
  | 4, _, _, _, _, _, h, _, _ => absurd rfl h
  | 5, _, _, _, _, _, _, h, _ => absurd rfl h
  | 6, _, _, _, _, _, _, _, h => absurd rfl h
  | 7, _, _, _, _, _, _, _, _ => rfl
  | _ + 8, h, _, _, _, _, _, _, _ => absurd h (Nat.not_lt.mpr (Nat.le_add_left _ _))
theorem kindS_ok (k : Int) (x y : List Nat) (hk : 0 ≤ k) (hk8 : k < 8) : K7ok (kindS k x y) x y := fun a0 a1 a2 a3 a4 a5 a6 hx => by
  unfold kindS at a0 a1 a2 a3 a4 a5 a6
  by_cases c1 : (k == 0 && decide (24 < (x.length : Int) + (y.length : Int))) = true
  · rw [if_pos c1] at a1; cases a1
  · rw [if_neg c1] at a0 a1 a2 a3 a4 a5 a6
    by_cases c2 : (k == 7 && (x != [] && (slc none (some 1) x != [47] || slc none (some 1) y != [47]))) = true
    · rw [if_pos c2] at a2; cases a2
    · rw [if_neg c2] at a0 a1 a2 a3 a4 a5 a6
      have hk7 : k = 7 := by
        simp only [beq_eq_false_iff_ne, ne_eq] at a0 a1 a2 a3 a4 a5 a6
        obtain ⟨n, rfl⟩ := Int.eq_ofNat_of_zero_le hk
        exact seven n (Int.ofNat_lt.mp hk8) a0 a1 a2 a3 a4 a5 a6
      subst hk7
      have hxb : (x != []) = true := by simpa using hx
      rw [hxb] at c2
      have hr : ∀ z : List Nat, (slc none (some 1) z != [47]) = !rootedB z := fun z => by
        have := isAb_eq z
        unfold isAb at this
        rw [← this]; rfl
      rw [hr, hr] at c2
      unfold rootedB at c2
      constructor
      · cases q : (x.head? == some 47) with
        | true => exact eq_of_beq q
        | false => rw [q] at c2; exact absurd (by simp) c2
      · cases q : (y.head? == some 47) with
        | true => exact eq_of_beq q
        | false => rw [q] at c2; exact absurd (by simp) c2
/-! lengths -/
noncomputable def growB (M : Nat) : Nat := 5 * M / 2 + 3
theorem rooted_walk {y : List Nat} (h : y.head? = some 47) : 2 * (lwalk y).length ≤ y.length := by
  have hgood := lwalk_good y
  have hw : wt (lwalk y) ≤ y.length := by
    obtain ⟨n, r, rfl, hr⟩ := starts47 y
    have hn : n ≠ 0 := by
      rintro rfl; exact hr h
    have e : lwalkP (List.replicate n 47 ++ r) = (splitc 47 r).foldl (walkStep (isAb (List.replicate n 47 ++ r))) (0, []) := by
      unfold lwalkP
      rw [splitc_starts, fold_empties _ fun b => walkStep_skip _ b (.inl rfl)]
    have hb := walk_wt (isAb (List.replicate n 47 ++ r)) (splitc 47 r) (0, [])
    rw [← e, wt_splitc] at hb
    unfold lwalk
    rw [wt_app, wt_rep]
    have e0 : wt ([] : List (List Nat)) = 0 := rfl
    simp only [e0] at hb
    rw [List.length_append, List.length_replicate]
    omega
  have : ∀ L : List (List Nat), (∀ q ∈ L, q ≠ [] ∧ 47 ∉ q) → 2 * L.length ≤ wt L := by
    intro L
    induction L with
    | nil => intro _; exact Nat.zero_le _
    | cons p L ih =>
      intro hL
      have := ih fun q hq => hL q (.tail _ hq)
      have hp := List.length_pos_iff.mpr (hL p (.head _)).1
      rw [wt_cons, List.length_cons]; omega
  exact Nat.le_trans (this _ hgood) hw
theorem lway_len {x y : List Nat} (h : y.head? = some 47) : 2 * (lway x y).length ≤ 2 * x.length + 3 * y.length + 4 := by
  unfold lway
  generalize hn : (lwalk y).length - (frontL [lwalk x, lwalk y]).length = n
  have h1 := rooted_walk h
  have h2 := lwalk_wt x
  have h3 := wt_sub (slc_sub (some ((frontL [lwalk x, lwalk y]).length : Int)) none (lwalk x))
  have h4 := joinc_len (List.replicate n [46, 46] ++ slc (some ((frontL [lwalk x, lwalk y]).length : Int)) none (lwalk x))
  rw [wt_app, wt_rep] at h4
  unfold orT
  split
  · simp only [List.length_cons, List.length_nil]; omega
  · omega
theorem lcom_len (x y z : List Nat) : (lcommon x y z).length ≤ x.length + 2 := by
  unfold lcommon
  split
  · simp
  · have h1 : (frontL [cleanP x, cleanP y, cleanP z]).Sublist (cleanP x) := slc_sub _ _ _
    have h2 := wt_sub h1
    have h3 := cleanP_wt x
    have h4 := joinc_len (frontL [cleanP x, cleanP y, cleanP z])
    rw [List.length_append]
    split <;> simp only [List.length_cons, List.length_nil] <;> omega
theorem told_len (k0 : Int) (hk : 0 ≤ k0) (hk8 : k0 < 8) (x y z : List Nat) (M : Nat) (hM : 25 ≤ M) (hx : x.length ≤ M) (hy : y.length ≤ M) : (toldS (kindS k0 x y) x y z).1.length ≤ growB M ∧ (toldS (kindS k0 x y) x y z).2.length ≤ growB M := by
  have hg : M + 3 ≤ growB M ∧ 2 * M + 3 ≤ growB M ∧ (∀ n, 2 * n ≤ 5 * M + 4 → n ≤ growB M) := by
    unfold growB
    refine ⟨by omega, by omega, fun n h => by omega⟩
  obtain ⟨g1, g2, g3⟩ := hg
  have h7 := kindS_ok k0 x y hk hk8
  have hk0 : (kindS k0 x y == 0) = true → x.length + y.length ≤ 24 := fun q => by
    unfold kindS at q
    by_cases c1 : (k0 == 0 && decide (24 < (x.length : Int) + (y.length : Int))) = true
    · rw [if_pos c1] at q; cases q
    · rw [if_neg c1] at q
      split at q
      · cases q
      · rw [q, Bool.true_and, decide_eq_true_eq] at c1; omega
  generalize kindS k0 x y = k at h7 hk0
  unfold toldS
  by_cases h0 : (k == 0) = true
  · rw [if_pos h0, ← kind0]
    have := hk0 h0
    refine ⟨?_, by dsimp only; omega⟩
    dsimp only
    unfold joinS
    split
    · omega
    · split <;> simp only [List.length_append, List.length_cons, List.length_nil] <;> omega
  rw [if_neg h0]
  by_cases h1 : (k == 1) = true
  · rw [if_pos h1, ← kind1]
    have h2 : (headS x).length ≤ x.length := (slc_sub _ _ _).length_le
    have h3 : (tailS x).length ≤ x.length := (slc_sub _ _ _).length_le
    have h4 : (trimS (headS x)).length ≤ (headS x).length := by
      unfold trimS
      split
      · rw [List.length_reverse]
        exact Nat.le_trans (List.dropWhile_sublist _).length_le (by rw [List.length_reverse]; exact Nat.le_refl _)
      · exact Nat.le_refl _
    exact ⟨by dsimp only; omega, by dsimp only; omega⟩
  rw [if_neg h1]
  by_cases h2 : (k == 2) = true
  · rw [if_pos h2, ← kind2]
    have := normS_len x
    exact ⟨by dsimp only; omega, by dsimp only; omega⟩
  rw [if_neg h2]
  by_cases h3 : (k == 3) = true
  · rw [if_pos h3]
    have := lending_len x
    have h4 : (slc none (some ((x.length : Int) - ((lending x).length : Int))) x).length ≤ x.length := (slc_sub _ _ _).length_le
    have h5 : (y ++ lending x).length ≤ 2 * M + 1 := by rw [List.length_append]; omega
    exact ⟨by dsimp only; omega, by dsimp only; omega⟩
  rw [if_neg h3]
  by_cases h4 : (k == 4) = true
  · rw [if_pos h4]
    have := lcom_len x y z
    exact ⟨by dsimp only; omega, by dsimp only; omega⟩
  rw [if_neg h4]
  by_cases h5 : (k == 5) = true
  · rw [if_pos h5]
    have h6 : (frontL [x, y, z]).length ≤ x.length := (slc_sub _ _ _).length_le
    exact ⟨by dsimp only; omega, by dsimp only; omega⟩
  rw [if_neg h5]
  by_cases h6 : (k == 6) = true
  · rw [if_pos h6]
    have h7' : (slc (some ((lroot x).length : Int)) none x).length ≤ x.length := (slc_sub _ _ _).length_le
    have h8 := lroot_len x
    have h9 : (lroot x ++ y).length ≤ M + 2 := by rw [List.length_append]; omega
    exact ⟨by dsimp only; omega, by dsimp only; omega⟩
  rw [if_neg h6]
  by_cases hx0 : x = []
  · subst hx0
    exact ⟨by show 1 ≤ _; omega, by show y.length ≤ _; omega⟩
  · obtain ⟨q1, q2⟩ := h7 (by simpa using h0) (by simpa using h1) (by simpa using h2) (by simpa using h3) (by simpa using h4) (by simpa using h5) (by simpa using h6) hx0
    rw [if_neg (by simpa using hx0)]
    have := lway_len (x := x) q2
    exact ⟨by dsimp only; exact g3 _ (by omega), by dsimp only; omega⟩
end Mine
end
section
set_option Elab.async false
set_option linter.unusedVariables false
set_option maxRecDepth 100000
namespace Mine
/-! sizes of what is written -/
noncomputable def TABS : List (List (Nat × List Nat)) := [T0, T1, T2, T3, T4]
theorem tabH_mem (h : Int) : tabH h ∈ TABS := by
  unfold tabH TABS
  split
  · simp
  · split
    · simp
    · split
      · simp
      · split <;> simp
theorem two_hands (h1 h2 : Int) (c : Nat) : (spell (tabH h2) (tab (tabH h1) c)).length ≤ 10 := by
  have hall : ∀ D ∈ TABS, ∀ D' ∈ TABS, ∀ p ∈ D, (spell D' p.2).length ≤ 10 := by decide
  unfold tab
  cases q : (tabH h1).lookup c with
  | none =>
    have : spell (tabH h2) [c] = tab (tabH h2) c := List.append_nil _
    show (spell (tabH h2) [c]).length ≤ 10
    rw [this]
    exact Nat.le_trans (tab_len (tabH_six h2) c) (by decide)
  | some y => exact hall _ (tabH_mem h1) _ (tabH_mem h2) _ (mem_look q)
theorem ph_len {f : Nat → List Nat} {m : Nat} (h : ∀ c, (f c).length ≤ m) : ∀ x : List Nat, (ph f x).length ≤ m * x.length
  | [] => Nat.zero_le _
  | a :: x => by
    rw [ph_cons, List.length_append, List.length_cons, Nat.mul_succ]
    have := ph_len h x
    have := h a
    omega
theorem writeH_len10 (hs : List Int) (hh : hs.length ≤ 2) (x : List Nat) : (writeH hs x).length ≤ 10 * x.length := by
  rw [writeH_ph]
  refine ph_len (fun c => ?_) x
  match hs, hh with
  | [], _ => exact (by decide : 1 ≤ 10)
  | [h], _ =>
    show (spell (tabH h) [c]).length ≤ 10
    rw [show spell (tabH h) [c] = tab (tabH h) c from List.append_nil _]
    exact Nat.le_trans (tab_len (tabH_six h) c) (by decide)
  | [h1, h2], _ =>
    show (spell (tabH h2) (spell (tabH h1) [c])).length ≤ 10
    rw [show spell (tabH h1) [c] = tab (tabH h1) c from List.append_nil _]
    exact two_hands h1 h2 c
theorem lmore_len (k : Nat) (a : List Nat) (rs : List (List Nat)) (hs : List Int) (hh : hs.length ≤ 2) : (lmore k (a :: rs) hs).length ≤ 10 := by
  unfold lmore
  split
  · exact Nat.zero_le _
  · refine Nat.le_trans (frontL_len (r := writeH hs (one k a)) (.head _)) ?_
    have h1 := writeH_len10 hs hh (one k a)
    have h2 : (one k a).length ≤ 1 := by rw [one_eq, List.length_take]; exact Nat.min_le_left _ _
    omega
/-! the paths, act by act -/
noncomputable def bnd : Nat → Nat
  | 0 => 25
  | n + 1 => growB (bnd n)
theorem bnd_lo : ∀ n, 25 ≤ bnd n
  | 0 => Nat.le_refl _
  | n + 1 => by
    have := bnd_lo n
    show 25 ≤ growB (bnd n)
    unfold growB; omega
theorem bnd_hi : ∀ n, n ≤ 8 → bnd n ≤ 43000 := fun n h => by
  have : ∀ n, n < 9 → bnd n ≤ 43000 := by decide
  exact this n (by omega)
theorem bnd_step (n : Nat) : bnd n ≤ bnd (n + 1) := by
  show bnd n ≤ growB (bnd n)
  unfold growB; omega
noncomputable def nthP (L : List (List Nat)) (i : Int) : List Nat := L.getD i.toNat []
noncomputable def stepL (L : List (List Nat)) (a b : Int) (t : List Nat × List Nat) : List (List Nat) := [0, 1, 2].map fun k : Nat => if ((k : Int) == a) = true then t.1 else if ((k : Int) == b) = true then t.2 else L.getD k []
theorem stepL_len (L : List (List Nat)) (a b : Int) (t : List Nat × List Nat) : (stepL L a b t).length = 3 := rfl
theorem stepL_write (hs : List Int) (L : List (List Nat)) (a b : Int) (t : List Nat × List Nat) : stepL (L.map (writeH hs)) a b (writeH hs t.1, writeH hs t.2) = (stepL L a b t).map (writeH hs) := by
  unfold stepL
  rw [List.map_map]
  refine List.map_congr_left fun k _ => ?_
  show (if _ then _ else if _ then _ else _) = writeH hs (if _ then _ else if _ then _ else _)
  split
  · rfl
  · split
    · rfl
    · rw [List.getD_eq_getElem?_getD, List.getD_eq_getElem?_getD, List.getElem?_map]
      cases L[k]? with
      | none => exact (writeH_nil hs).symm
      | some y => rfl
theorem nth_get {L : List (List Nat)} (h3 : L.length = 3) {i : Int} (h0 : 0 ≤ i) (h : i < 3) : L[i.toNat]? = some (nthP L i) := by
  unfold nthP
  have : i.toNat < L.length := by omega
  rw [List.getD_eq_getElem?_getD, List.getElem?_eq_getElem this]; rfl
theorem nth_mem {L : List (List Nat)} (h3 : L.length = 3) {i : Int} (h0 : 0 ≤ i) (h : i < 3) : nthP L i ∈ L := List.mem_of_getElem? (nth_get h3 h0 h)
noncomputable def actA (act : Int) : Int := (act.fdiv 8).fmod 3
noncomputable def actB (act : Int) : Int := (act.fdiv 24).fmod 3
noncomputable def actK (L : List (List Nat)) (act : Int) : Int := kindS (act.fmod 8) (nthP L (actA act)) (nthP L (actB act))
noncomputable def actT (L : List (List Nat)) (act : Int) : List Nat × List Nat := toldS (actK L act) (nthP L (actA act)) (nthP L (actB act)) (nthP L 2)
noncomputable def ledStep (L : List (List Nat)) (act : Int) : List (List Nat) := stepL L (actA act) (actB act) (actT L act)
theorem fmod_lo (x : Int) {m : Int} (h : 0 < m) : 0 ≤ x.fmod m ∧ x.fmod m < m := ⟨Int.fmod_nonneg_of_pos x h, Int.fmod_lt_of_pos x h⟩
theorem step_bound {L : List (List Nat)} {act : Int} {n : Nat} (h3 : L.length = 3) (hL : ∀ r ∈ L, r.length ≤ bnd n) : ∀ r ∈ ledStep L act, r.length ≤ bnd (n + 1) := by
  have ha := fmod_lo (act.fdiv 8) (m := 3) (by decide)
  have hb := fmod_lo (act.fdiv 24) (m := 3) (by decide)
  have hk := fmod_lo act (m := 8) (by decide)
  have := told_len (act.fmod 8) hk.1 hk.2 (nthP L (actA act)) (nthP L (actB act)) (nthP L 2) (bnd n) (bnd_lo n) (hL _ (nth_mem h3 ha.1 ha.2)) (hL _ (nth_mem h3 hb.1 hb.2))
  intro r hr
  unfold ledStep stepL at hr
  obtain ⟨k, hk, rfl⟩ := List.mem_map.mp hr
  have hk3 : k < 3 := by
    simp only [List.mem_cons, List.not_mem_nil, or_false] at hk
    omega
  split
  · exact this.1
  · split
    · exact this.2
    · have : L.getD k [] ∈ L := by
        rw [List.getD_eq_getElem?_getD, List.getElem?_eq_getElem (by omega)]
        exact List.getElem_mem _
      exact Nat.le_trans (hL _ this) (bnd_step n)
end Mine
end
section
open PySem PySem.W PyProof.Rows PySem.Calls
set_option Elab.async false
set_option linter.unusedVariables false
set_option maxRecDepth 100000
namespace Mine
section
variable {B : Base} {sc : Scope} {N : List Str} {X : FI B sc N} {σ : List Bnd}
/-- a list made in place, stored in a cell -/
theorem s1_assignC {y : Str} {elt : Expr} {gens : List Comprehension} {scope : Scope} {cpos p pos : Pos} {a : AV} {τ : List Bnd} (h : Ex X σ (.ListComp elt gens scope cpos) a) (hs : Set1 N σ y (.val a) τ) (hc : sc.names.lookup y = some .cell) (ho : X.own = true) :
    S1 X σ (.Assign [.Name y p] (.ListComp elt gens scope cpos) pos) (.next τ) := .mk fun G s Q E Sa kk => by
  obtain ⟨i, ha, rfl⟩ := hs.at_
  have hsw : swapsWith (.ListComp elt gens scope cpos) (some (.Name y p)) pos.line X.env = pure false := by
    show (pure (X.env.blockKind == .function && X.env.kindOf y == some .local && p.line == cpos.line && !(scope.names.any fun (n, k) => n == y && (k == .local || k == .cell))) : Sem Bool) = pure false
    rw [X_kindOf, hc]
    rw [show ((some NameKind.cell == some NameKind.local) : Bool) = false from rfl, Bool.and_false, Bool.false_and, Bool.false_and]
  exact wpAny_Assign_Name (h.run G s _ E Sa fun v s1 G1 u1 r => store (Sa.upd u1) ha (.inr ho) r fun s2 S2 => kk .next s2 G1 u1.le S2) hsw
end
noncomputable abbrev Junk := Bnd × Bnd × Bnd × Bnd × Bnd × Bnd
noncomputable def ledSt (hs : List Int) (p : List (List Nat) × Junk) (a : AV) : List (List Nat) × Junk :=
  match a with
  | .int act => (ledStep p.1 act, .val (.int (actA act)), .val (.int (actB act)), .val (.int (actK p.1 act)), .val (.tup [.str (actT p.1 act).1, .str (actT p.1 act).2]), .val (.strs [writeH hs (actT p.1 act).1, writeH hs (actT p.1 act).2]), .val (.str (moreS (actK p.1 act) (nthP p.1 (actA act)) (nthP p.1 (actB act)) (nthP p.1 2) hs)))
  | _ => p
theorem ledSt_fold (hs : List Int) : ∀ (acts : List Int) (p : List (List Nat) × Junk), ((acts.map AV.int).foldl (ledSt hs) p).1 = acts.foldl ledStep p.1
  | [], _ => rfl
  | act :: r, p => ledSt_fold hs r (ledSt hs p (.int act))
section
variable {w : World} {mg mb : Str → Option Value}
set_option maxHeartbeats 4000000 in
theorem c_law_led (L0 : List (List Nat)) (acts hs : List Int) (hh : hs.length ≤ 2) (h5 : ∀ h ∈ hs, 0 ≤ h ∧ h < 5) (hac : acts.length ≤ 8) (hl3 : L0.length = 3) (hL0 : ∀ r ∈ L0, r.length ≤ 25) :
    Fn (bs w mg mb) (.ref 352) 8 [.strs L0, .list (acts.map .int), .list (hs.map .int)] (.tup [.strs (acts.foldl ledStep L0), .strs ((acts.foldl ledStep L0).map (writeH hs))]) := by
  refine fn_go (N := [Str.ofString "paths", Str.ofString "acts", Str.ofString "hands", Str.ofString "written", Str.ofString "act", Str.ofString "a", Str.ofString "b", Str.ofString "kind", Str.ofString "told", Str.ofString "due", Str.ofString "more"]) (σ := [.val (.strs L0), .val (.list (acts.map .int)), .val (.list (hs.map .int)), .no, .no, .no, .no, .no, .no, .no, .no]) (ps := [Str.ofString "paths", Str.ofString "acts", Str.ofString "hands"]) (rest := [Str.ofString "written", Str.ofString "act", Str.ofString "a", Str.ofString "b", Str.ofString "kind", Str.ofString "told", Str.ofString "due", Str.ofString "more"]) ⟨_, _, _, rfl⟩ rfl rfl (binds3 (a := .strs L0) (b := .list (acts.map .int)) (c := .list (hs.map .int)) fun _ _ _ => rfl) rfl (by decide +kernel) rfl rfl ?_
  intro X ho hl
  have hS := sizeL
  refine sx_cons (τ := [.val (.strs L0), .val (.list (acts.map .int)), .val (.list (hs.map .int)), .val (.strs (L0.map (writeH hs))), .no, .no, .no, .no, .no, .no, .no]) (s1_assignC ?_ (by walk_at "set") rfl ho) ?_
  · refine ex_comp (rs := (L0.map (writeH hs)).map AV.str) (xs := L0.map AV.str) (ys := [Str.ofString "hands"]) (bs := [.val (.list (hs.map .int))]) (itr_list (ex_loc (by walk_at "var"))) (.cons (by walk_at "var") .nil) (by decide +kernel) (by rw [List.length_map]; omega) (fun X' q1 q2 => ?_)
    rw [List.map_map]
    refine cmpr_map AV.str (AV.str ∘ writeH hs) L0 fun r hr => ?_
    have hrl := hL0 r hr
    exact ex_call (xg__law_write rfl) (es_cons (ex_loc .here) (es_cons (ex_loc (.there .here)) es_nil)) (Fn.inX (c_law_write hs r hh (by omega)) (by omega)) rfl
  refine sx_for_fold (β := List (List Nat) × Junk) (fun p bd => [.val (.strs p.1), .val (.list (acts.map .int)), .val (.list (hs.map .int)), .val (.strs (p.1.map (writeH hs))), bd, p.2.1, p.2.2.1, p.2.2.2.1, p.2.2.2.2.1, p.2.2.2.2.2.1, p.2.2.2.2.2.2]) (ledSt hs) (fun k p => p.1.length = 3 ∧ ∀ r ∈ p.1, r.length ≤ bnd k) (b := (L0, .no, .no, .no, .no, .no, .no)) (bd := .no) (xs := acts.map .int) (ex_loc (by walk_at "var")) ⟨hl3, hL0⟩ (fun p bd a => by walk_at "set") (fun k p x hI hx => ?_) ho rfl (fun bd' _ hI => ?_)
  · rw [List.getElem?_map] at hx
    obtain ⟨act, hact, rfl⟩ := Option.map_eq_some_iff.mp hx
    have hk8 : k < 8 := Nat.lt_of_lt_of_le (List.getElem?_eq_some_iff.mp hact).1 hac
    obtain ⟨L, j1, j2, j3, j4, j5, j6⟩ := p
    obtain ⟨h3, hL⟩ := hI
    dsimp only at h3 hL
    refine ⟨.inl ?_, stepL_len _ _ _ _, step_bound h3 hL⟩
    have hbk := bnd_hi k (by omega)
    have hbk1 := bnd_hi (k + 1) (by omega)
    have hA : 0 ≤ actA act ∧ actA act < 3 := fmod_lo _ (by decide)
    have hB : 0 ≤ actB act ∧ actB act < 3 := fmod_lo _ (by decide)
    have hK : 0 ≤ act.fmod 8 ∧ act.fmod 8 < 8 := fmod_lo _ (by decide)
    have hn3 : (L.map AV.str).length ≤ sizeLine := by rw [List.length_map]; omega
    have hw3 : ((L.map (writeH hs)).map AV.str).length ≤ sizeLine := by rw [List.length_map, List.length_map]; omega
    have gg : ∀ {i : Int}, 0 ≤ i → i < 3 → (L.map AV.str)[i.toNat]? = some (.str (nthP L i)) := fun {i} h0 h => by rw [List.getElem?_map, nth_get h3 h0 h]; rfl
    have gw : ∀ {i : Int}, 0 ≤ i → i < 3 → ((L.map (writeH hs)).map AV.str)[i.toNat]? = some (.str (writeH hs (nthP L i))) := fun {i} h0 h => by rw [List.getElem?_map, List.getElem?_map, nth_get h3 h0 h]; rfl
    have gA := gg hA.1 hA.2
    have gB := gg hB.1 hB.2
    have gZ := gg (i := 2) (by decide) (by decide)
    have wA := gw hA.1 hA.2
    have wB := gw hB.1 hB.2
    have wZ := gw (i := 2) (by decide) (by decide)
    have lA : (nthP L (actA act)).length ≤ 43000 := Nat.le_trans (hL _ (nth_mem h3 hA.1 hA.2)) hbk
    have lB : (nthP L (actB act)).length ≤ 43000 := Nat.le_trans (hL _ (nth_mem h3 hB.1 hB.2)) hbk
    have lZ : (nthP L 2).length ≤ 43000 := Nat.le_trans (hL _ (nth_mem h3 (by decide) (by decide))) hbk
    have hwl := fun x => writeH_len10 hs hh x
    have wlA := hwl (nthP L (actA act))
    have wlB := hwl (nthP L (actB act))
    have wlZ := hwl (nthP L 2)
    have htl := told_len (act.fmod 8) hK.1 hK.2 (nthP L (actA act)) (nthP L (actB act)) (nthP L 2) (bnd k) (bnd_lo k) (hL _ (nth_mem h3 hA.1 hA.2)) (hL _ (nth_mem h3 hB.1 hB.2))
    have tl1 : (actT L act).1.length ≤ 43000 := Nat.le_trans htl.1 hbk1
    have tl2 : (actT L act).2.length ≤ 43000 := Nat.le_trans htl.2 hbk1
    have h7 : K7ok (actK L act) (nthP L (actA act)) (nthP L (actB act)) := kindS_ok _ _ _ hK.1 hK.2
    have hml : (moreS (actK L act) (nthP L (actA act)) (nthP L (actB act)) (nthP L 2) hs).length ≤ 10 := by
      unfold moreS
      split
      · exact lmore_len _ _ _ _ hh
      · exact Nat.zero_le _
    have hd1 := did_told (actK L act) (nthP L (actA act)) (nthP L (actB act)) (nthP L 2) h7
    have hd2 := did_written hs (actK L act) (nthP L (actA act)) (nthP L (actB act)) (nthP L 2) h7
    have hne1 : ([(didS (actK L act) (nthP L (actA act)) (nthP L (actB act)) (nthP L 2)).1, (didS (actK L act) (nthP L (actA act)) (nthP L (actB act)) (nthP L 2)).2] != [(actT L act).1, (actT L act).2]) = false := by
      rw [hd1]; exact bne_self_eq_false _
    have hne2 : ([(didS (actK L act) (writeH hs (nthP L (actA act))) (writeH hs (nthP L (actB act))) (writeH hs (nthP L 2))).1, (didS (actK L act) (writeH hs (nthP L (actA act))) (writeH hs (nthP L (actB act))) (writeH hs (nthP L 2))).2] != [writeH hs (actT L act).1 ++ moreS (actK L act) (nthP L (actA act)) (nthP L (actB act)) (nthP L 2) hs, writeH hs (actT L act).2]) = false := by
      rw [hd2]; exact bne_self_eq_false _
    clear hd1 hd2
    refine sx_cons (σ := [.val (.strs L), .val (.list (acts.map .int)), .val (.list (hs.map .int)), .val (.strs (L.map (writeH hs))), .val (.int act), j1, j2, j3, j4, j5, j6]) (τ := [.val (.strs L), .val (.list (acts.map .int)), .val (.list (hs.map .int)), .val (.strs (L.map (writeH hs))), .val (.int act), .val (.int (actA act)), .val (.int (actB act)), j3, j4, j5, j6]) (s1_tup (xs := [Str.ofString "a", Str.ofString "b"]) (as := [.int (actA act), .int (actB act)]) (ex_tuple (es_cons (ex_bin (ex_bin (ex_loc (by walk_at "var")) ex_int (bop_div_int (by decide) (by decide))) ex_int (bop_mod_int (by decide))) (es_cons (ex_bin (ex_bin (ex_loc (by walk_at "var")) ex_int (bop_div_int (by decide) (by decide))) ex_int (bop_mod_int (by decide))) es_nil)) (Nat.le_of_ble_eq_true rfl)) rfl (.cons (by walk_at "set") (.cons (by walk_at "set") .nil)) ho rfl rfl) ?_
    refine sx_cons (τ := [.val (.strs L), .val (.list (acts.map .int)), .val (.list (hs.map .int)), .val (.strs (L.map (writeH hs))), .val (.int act), .val (.int (actA act)), .val (.int (actB act)), .val (.int (actK L act)), j4, j5, j6]) (s1_assign (a := .int (actK L act)) (ex_call (xg__law_kind rfl) (es_cons (ex_bin (ex_loc (by walk_at "var")) ex_int (bop_mod_int (by decide))) (es_cons (ex_sub (ex_loc (a := .strs L) (by walk_at "var")) (ex_loc (a := .int (actA act)) (by walk_at "var")) (itm_listZ hA.1 gA hn3)) (es_cons (ex_sub (ex_loc (a := .strs L) (by walk_at "var")) (ex_loc (a := .int (actB act)) (by walk_at "var")) (itm_listZ hB.1 gB hn3)) es_nil))) (Fn.inX (c_law_kind (act.fmod 8) (nthP L (actA act)) (nthP L (actB act)) (by omega) (by omega)) (by omega)) rfl) (by walk_at "set") (.inr ho) rfl) ?_
    refine sx_cons (τ := [.val (.strs L), .val (.list (acts.map .int)), .val (.list (hs.map .int)), .val (.strs (L.map (writeH hs))), .val (.int act), .val (.int (actA act)), .val (.int (actB act)), .val (.int (actK L act)), .val (.tup [.str (actT L act).1, .str (actT L act).2]), j5, j6]) (s1_assign (a := .tup [.str (actT L act).1, .str (actT L act).2]) (ex_call (xg__law_told rfl) (es_cons (ex_loc (a := .int (actK L act)) (by walk_at "var")) (es_cons (ex_sub (ex_loc (a := .strs L) (by walk_at "var")) (ex_loc (a := .int (actA act)) (by walk_at "var")) (itm_listZ hA.1 gA hn3)) (es_cons (ex_sub (ex_loc (a := .strs L) (by walk_at "var")) (ex_loc (a := .int (actB act)) (by walk_at "var")) (itm_listZ hB.1 gB hn3)) (es_cons (ex_sub (ex_loc (a := .strs L) (by walk_at "var")) ex_int (itm_listZ (z := 2) (by decide) gZ hn3)) es_nil)))) (Fn.inX (c_law_told (actK L act) (nthP L (actA act)) (nthP L (actB act)) (nthP L 2) (by omega) (by omega) (by omega)) (by omega)) rfl) (by walk_at "set") (.inr ho) rfl) ?_
    refine sx_cons (τ := [.val (.strs L), .val (.list (acts.map .int)), .val (.list (hs.map .int)), .val (.strs (L.map (writeH hs))), .val (.int act), .val (.int (actA act)), .val (.int (actB act)), .val (.int (actK L act)), .val (.tup [.str (actT L act).1, .str (actT L act).2]), .val (.strs [writeH hs (actT L act).1, writeH hs (actT L act).2]), j6]) (s1_assignC ?_ (by walk_at "set") rfl ho) ?_
    · refine ex_comp (rs := [writeH hs (actT L act).1, writeH hs (actT L act).2].map AV.str) (xs := [(actT L act).1, (actT L act).2].map AV.str) (ys := [Str.ofString "hands"]) (bs := [.val (.list (hs.map .int))]) (itr_tup (ex_loc (a := .tup [.str (actT L act).1, .str (actT L act).2]) (by walk_at "var"))) (.cons (by walk_at "var") .nil) (by decide +kernel) (Nat.le_of_ble_eq_true rfl) (fun X' q1 q2 => ?_)
      refine cmpr_map AV.str (AV.str ∘ writeH hs) [(actT L act).1, (actT L act).2] fun r hr => ?_
      have hrl : r.length ≤ 43000 := by
        simp only [List.mem_cons, List.not_mem_nil, or_false] at hr
        rcases hr with rfl | rfl <;> assumption
      exact ex_call (xg__law_spelled rfl) (es_cons (ex_loc .here) (es_cons (ex_loc (.there .here)) es_nil)) (Fn.inX (c_law_spelled hs r hh h5 (by omega)) (by omega)) rfl
    refine sx_cons (τ := [.val (.strs L), .val (.list (acts.map .int)), .val (.list (hs.map .int)), .val (.strs (L.map (writeH hs))), .val (.int act), .val (.int (actA act)), .val (.int (actB act)), .val (.int (actK L act)), .val (.tup [.str (actT L act).1, .str (actT L act).2]), .val (.strs [writeH hs (actT L act).1, writeH hs (actT L act).2]), .val (.str (moreS (actK L act) (nthP L (actA act)) (nthP L (actB act)) (nthP L 2) hs))]) (s1_assign (a := .str (moreS (actK L act) (nthP L (actA act)) (nthP L (actB act)) (nthP L 2) hs)) (ex_if_str (tst_cmp1 (ex_loc (a := .int (actK L act)) (by walk_at "var")) ex_int cmp_eq_int rfl) (fun hb => ex_call (xg__law_more rfl) (es_cons (ex_call (xb_len rfl) (es_cons (ex_sub (ex_loc (a := .tup [.str (actT L act).1, .str (actT L act).2]) (by walk_at "var")) ex_int (itm_tup (i := 0) rfl (Nat.le_of_ble_eq_true rfl))) es_nil) (fn_len_str (by omega)) rfl) (es_cons (ex_strs3 (ex_sub (ex_loc (a := .strs L) (by walk_at "var")) (ex_loc (a := .int (actA act)) (by walk_at "var")) (itm_listZ hA.1 gA hn3)) (ex_sub (ex_loc (a := .strs L) (by walk_at "var")) (ex_loc (a := .int (actB act)) (by walk_at "var")) (itm_listZ hB.1 gB hn3)) (ex_sub (ex_loc (a := .strs L) (by walk_at "var")) ex_int (itm_listZ (z := 2) (by decide) gZ hn3))) (es_cons (ex_loc (a := .list (hs.map .int)) (by walk_at "var")) es_nil))) (Fn.inX (c_law_more (actT L act).1.length (nthP L (actA act)) (nthP L (actB act)) (nthP L 2) hs hh h5 (by omega) (by omega) (by omega)) (by omega)) rfl) (fun hb => ex_str (l := []) rfl)) (by walk_at "set") (.inr ho) rfl) ?_
    refine sx_if_skip (tst_cmp1 (ex_call (xg__law_did rfl) (es_cons (ex_loc (a := .int (actK L act)) (by walk_at "var")) (es_cons (ex_sub (ex_loc (a := .strs L) (by walk_at "var")) (ex_loc (a := .int (actA act)) (by walk_at "var")) (itm_listZ hA.1 gA hn3)) (es_cons (ex_sub (ex_loc (a := .strs L) (by walk_at "var")) (ex_loc (a := .int (actB act)) (by walk_at "var")) (itm_listZ hB.1 gB hn3)) (es_cons (ex_sub (ex_loc (a := .strs L) (by walk_at "var")) ex_int (itm_listZ (z := 2) (by decide) gZ hn3)) es_nil)))) (Fn.inX (c_law_did (actK L act) (nthP L (actA act)) (nthP L (actB act)) (nthP L 2) (by omega) (by omega) (by omega) h7) (by omega)) rfl) (ex_loc (a := .tup [.str (actT L act).1, .str (actT L act).2]) (by walk_at "var")) (cmp_ne_tup (L := [(didS (actK L act) (nthP L (actA act)) (nthP L (actB act)) (nthP L 2)).1, (didS (actK L act) (nthP L (actA act)) (nthP L (actB act)) (nthP L 2)).2]) (K := [(actT L act).1, (actT L act).2]) (by have := X.hu; omega) rfl) rfl) hne1 ?_
    refine sx_if_skip (tst_cmp1 (ex_call (xg__law_did rfl) (es_cons (ex_loc (a := .int (actK L act)) (by walk_at "var")) (es_cons (ex_sub (ex_loc (a := .strs (L.map (writeH hs))) (by walk_at "var")) (ex_loc (a := .int (actA act)) (by walk_at "var")) (itm_listZ hA.1 wA hw3)) (es_cons (ex_sub (ex_loc (a := .strs (L.map (writeH hs))) (by walk_at "var")) (ex_loc (a := .int (actB act)) (by walk_at "var")) (itm_listZ hB.1 wB hw3)) (es_cons (ex_sub (ex_loc (a := .strs (L.map (writeH hs))) (by walk_at "var")) ex_int (itm_listZ (z := 2) (by decide) wZ hw3)) es_nil)))) (Fn.inX (c_law_did (actK L act) (writeH hs (nthP L (actA act))) (writeH hs (nthP L (actB act))) (writeH hs (nthP L 2)) (by omega) (by omega) (by omega) (by rw [writeH_ph, writeH_ph]; exact h7.ph (sp_wf hs))) (by omega)) rfl) (ex_tuple (es_cons (ex_bin (ex_sub (ex_loc (a := .strs [writeH hs (actT L act).1, writeH hs (actT L act).2]) (by walk_at "var")) ex_int (itm_list (i := 0) rfl (Nat.le_of_ble_eq_true rfl))) (ex_loc (a := .str (moreS (actK L act) (nthP L (actA act)) (nthP L (actB act)) (nthP L 2) hs)) (by walk_at "var")) (bop_add_str (by have := hwl (actT L act).1; omega))) (es_cons (ex_sub (ex_loc (a := .strs [writeH hs (actT L act).1, writeH hs (actT L act).2]) (by walk_at "var")) ex_int (itm_list (i := 1) rfl (Nat.le_of_ble_eq_true rfl))) es_nil)) (Nat.le_of_ble_eq_true rfl)) (cmp_ne_tup (L := [(didS (actK L act) (writeH hs (nthP L (actA act))) (writeH hs (nthP L (actB act))) (writeH hs (nthP L 2))).1, (didS (actK L act) (writeH hs (nthP L (actA act))) (writeH hs (nthP L (actB act))) (writeH hs (nthP L 2))).2]) (K := [writeH hs (actT L act).1 ++ moreS (actK L act) (nthP L (actA act)) (nthP L (actB act)) (nthP L 2) hs, writeH hs (actT L act).2]) (by have := X.hu; omega) rfl) rfl) hne2 ?_
    refine sx_cons (τ := [.val (.strs (ledStep L act)), .val (.list (acts.map .int)), .val (.list (hs.map .int)), .val (.strs (L.map (writeH hs))), .val (.int act), .val (.int (actA act)), .val (.int (actB act)), .val (.int (actK L act)), .val (.tup [.str (actT L act).1, .str (actT L act).2]), .val (.strs [writeH hs (actT L act).1, writeH hs (actT L act).2]), .val (.str (moreS (actK L act) (nthP L (actA act)) (nthP L (actB act)) (nthP L 2) hs))]) (s1_assignC ?_ (by walk_at "set") rfl ho) ?_
    · refine (ex_comp (rs := (stepL L (actA act) (actB act) ((actT L act).1, (actT L act).2)).map AV.str) (xs := ([0, 1, 2] : List Nat).map fun k : Nat => AV.int (k : Int)) (ys := [Str.ofString "a", Str.ofString "b", Str.ofString "paths", Str.ofString "told"]) (bs := [.val (.int (actA act)), .val (.int (actB act)), .val (.strs L), .val (.tup [.str (actT L act).1, .str (actT L act).2])]) (itr_range3 rfl b_range (by kernel_rfl)) (.cons (by walk_at "var") (.cons (by walk_at "var") (.cons (by walk_at "var") (.cons (by walk_at "var") .nil)))) (by decide +kernel) (Nat.le_of_ble_eq_true rfl) (fun X' q1 q2 => ?_))
      unfold stepL
      rw [List.map_map]
      refine cmpr_map (fun k : Nat => AV.int (k : Int)) _ [0, 1, 2] fun k hk => ?_
      have hk3 : k < 3 := by
        simp only [List.mem_cons, List.not_mem_nil, or_false] at hk
        omega
      have hget : (L.map AV.str)[k]? = some (.str (L.getD k [])) := by
        rw [List.getElem?_map, List.getD_eq_getElem?_getD, List.getElem?_eq_getElem (by first | omega | (rw [List.length_map]; omega))]; rfl
      exact ex_if_str (tst_cmp1 (ex_loc .here) (ex_loc (.there .here)) cmp_eq_int rfl) (fun hb => ex_sub (ex_loc (a := .tup [.str (actT L act).1, .str (actT L act).2]) (.there (.there (.there (.there .here))))) ex_int (itm_tup (i := 0) rfl (Nat.le_of_ble_eq_true rfl))) (fun hb => ex_if_str (tst_cmp1 (ex_loc .here) (ex_loc (.there (.there .here))) cmp_eq_int rfl) (fun hb => ex_sub (ex_loc (a := .tup [.str (actT L act).1, .str (actT L act).2]) (.there (.there (.there (.there .here))))) ex_int (itm_tup (i := 1) rfl (Nat.le_of_ble_eq_true rfl))) (fun hb => ex_sub (ex_loc (a := .strs L) (.there (.there (.there .here)))) (ex_loc .here) (itm_list hget hn3)))
    refine sx_cons (τ := [.val (.strs (ledStep L act)), .val (.list (acts.map .int)), .val (.list (hs.map .int)), .val (.strs ((ledStep L act).map (writeH hs))), .val (.int act), .val (.int (actA act)), .val (.int (actB act)), .val (.int (actK L act)), .val (.tup [.str (actT L act).1, .str (actT L act).2]), .val (.strs [writeH hs (actT L act).1, writeH hs (actT L act).2]), .val (.str (moreS (actK L act) (nthP L (actA act)) (nthP L (actB act)) (nthP L 2) hs))]) (s1_assignC ?_ (by walk_at "set") rfl ho) ?_
    · refine (ex_comp (rs := (stepL (L.map (writeH hs)) (actA act) (actB act) (writeH hs (actT L act).1, writeH hs (actT L act).2)).map AV.str) (xs := ([0, 1, 2] : List Nat).map fun k : Nat => AV.int (k : Int)) (ys := [Str.ofString "a", Str.ofString "b", Str.ofString "due", Str.ofString "written"]) (bs := [.val (.int (actA act)), .val (.int (actB act)), .val (.strs [writeH hs (actT L act).1, writeH hs (actT L act).2]), .val (.strs (L.map (writeH hs)))]) (itr_range3 rfl b_range (by kernel_rfl)) (.cons (by walk_at "var") (.cons (by walk_at "var") (.cons (by walk_at "var") (.cons (by walk_at "var") .nil)))) (by decide +kernel) (Nat.le_of_ble_eq_true rfl) (fun X' q1 q2 => ?_)).of (by rw [stepL_write]; rfl)
      unfold stepL
      rw [List.map_map]
      refine cmpr_map (fun k : Nat => AV.int (k : Int)) _ [0, 1, 2] fun k hk => ?_
      have hk3 : k < 3 := by
        simp only [List.mem_cons, List.not_mem_nil, or_false] at hk
        omega
      have hget : ((L.map (writeH hs)).map AV.str)[k]? = some (.str ((L.map (writeH hs)).getD k [])) := by
        rw [List.getElem?_map, List.getD_eq_getElem?_getD, List.getElem?_eq_getElem (by first | omega | (rw [List.length_map]; omega))]; rfl
      exact ex_if_str (tst_cmp1 (ex_loc .here) (ex_loc (.there .here)) cmp_eq_int rfl) (fun hb => ex_sub (ex_loc (a := .strs [writeH hs (actT L act).1, writeH hs (actT L act).2]) (.there (.there (.there .here)))) ex_int (itm_list (i := 0) rfl (Nat.le_of_ble_eq_true rfl))) (fun hb => ex_if_str (tst_cmp1 (ex_loc .here) (ex_loc (.there (.there .here))) cmp_eq_int rfl) (fun hb => ex_sub (ex_loc (a := .strs [writeH hs (actT L act).1, writeH hs (actT L act).2]) (.there (.there (.there .here)))) ex_int (itm_list (i := 1) rfl (Nat.le_of_ble_eq_true rfl))) (fun hb => ex_sub (ex_loc (a := .strs (L.map (writeH hs))) (.there (.there (.there (.there .here))))) (ex_loc .here) (itm_list hget hw3)))
    exact sx_nil
  · refine (sx_ret (ex_tuple (es_cons (ex_loc (by walk_at "var")) (es_cons (ex_loc (by walk_at "var")) es_nil)) (Nat.le_of_ble_eq_true rfl))).to ?_
    rw [ledSt_fold]
end
end Mine
end
section
open PySem PySem.W PyProof.Rows PySem.Calls
set_option Elab.async false
set_option linter.unusedVariables false
set_option maxRecDepth 100000
namespace Mine
noncomputable def DEFN : List Int := [46, 14692, 62580, 64308, 29, 23, 56, 10, 57, 43, 62, 52]
noncomputable def numsOf (S : List Int) : List Int := slc none (some 12) S ++ slc (some ((slc none (some 12) S).length : Int)) none DEFN
theorem numsOf_len (S : List Int) : (numsOf S).length = 12 := by
  unfold numsOf
  rw [List.length_append, slc_from, List.length_drop]
  have h1 : slc none (some 12) S = S.take 12 := slc_to S 12
  have h2 : (slc none (some 12) S).length ≤ 12 := by rw [h1, List.length_take]; omega
  have h3 : DEFN.length = 12 := rfl
  omega
noncomputable def n0Of (S : List Int) : Int := (numsOf S).getD 0 0
theorem n0_get (S : List Int) : ((numsOf S).map AV.int)[0]? = some (.int (n0Of S)) := by
  unfold n0Of
  rw [List.getElem?_map, List.getD_eq_getElem?_getD, List.getElem?_eq_getElem (by rw [numsOf_len]; omega)]; rfl
noncomputable def handsOf (S : List Int) : List Int := slc none (some (1 + ((n0Of S).fdiv 25).fmod 2)) [(n0Of S).fmod 5, ((n0Of S).fdiv 5).fmod 5]
theorem handsOf_len (S : List Int) : (handsOf S).length ≤ 2 := (slc_sub _ _ _).length_le
theorem handsOf_mem (S : List Int) : ∀ h ∈ handsOf S, 0 ≤ h ∧ h < 5 := fun h hh => by
  have := (slc_sub _ _ _).subset hh
  simp only [List.mem_cons, List.not_mem_nil, or_false] at this
  rcases this with rfl | rfl <;> exact fmod_lo _ (by decide)
noncomputable def drawnOf (S : List Int) : List (List Nat) := (slc (some 1) (some 4) (numsOf S)).map pathOf
theorem drawnOf_len (S : List Int) : (drawnOf S).length = 3 := by
  unfold drawnOf
  have : slc (some 1) (some 4) (numsOf S) = ((numsOf S).drop 1).take 3 := slc_run (numsOf S) 1 4
  rw [List.length_map, this, List.length_take, List.length_drop, numsOf_len]; rfl
noncomputable def actsOf (S : List Int) : List Int := slc (some 4) none (numsOf S)
theorem actsOf_len (S : List Int) : (actsOf S).length = 8 := by
  unfold actsOf
  have : slc (some 4) none (numsOf S) = (numsOf S).drop 4 := slc_from (numsOf S) 4
  rw [this, List.length_drop, numsOf_len]
theorem markAt_len4 (z : Int) : (markAt z).length ≤ 4 := by
  have h : ∀ n : Nat, (MARKS.getD n []).length ≤ 4 := by
    intro n
    rcases Nat.lt_or_ge n 16 with q | q
    · have : ∀ n, n < 16 → (MARKS.getD n []).length ≤ 4 := by decide
      exact this n q
    · rw [List.getD_eq_getElem?_getD, List.getElem?_eq_none (by show 16 ≤ n; exact q)]; exact Nat.zero_le _
  exact h _
theorem pathOf_len (q : Int) : (pathOf q).length ≤ 16 := by
  unfold pathOf
  have h1 := markAt_len4 (q.fmod 16)
  have h2 := markAt_len4 ((q.fdiv 16).fmod 16)
  have h3 := markAt_len4 ((q.fdiv 256).fmod 16)
  have h4 := markAt_len4 ((q.fdiv 4096).fmod 16)
  simp only [List.length_append]
  omega
theorem led_fold : ∀ (acts : List Int) (n : Nat) (L : List (List Nat)), L.length = 3 → (∀ r ∈ L, r.length ≤ bnd n) → (acts.foldl ledStep L).length = 3 ∧ ∀ r ∈ acts.foldl ledStep L, r.length ≤ bnd (n + acts.length)
  | [], n, L, h, h' => ⟨h, h'⟩
  | a :: acts, n, L, h, h' => by
    have := led_fold acts (n + 1) (ledStep L a) (stepL_len _ _ _ _) (step_bound h h')
    rw [List.foldl_cons, List.length_cons, show n + (acts.length + 1) = n + 1 + acts.length by omega]
    exact this
section
variable {w : World} {mg mb : Str → Option Value}
theorem c_law (S : List Int) (hS63 : S.length ≤ 1000) : Fn0 (bs w mg mb) (.ref 364) 9 [.list (S.map .int)] (.bool true) := by
  refine fn_go0 (N := [Str.ofString "script", Str.ofString "numbers", Str.ofString "hands", Str.ofString "drawn", Str.ofString "led"]) (σ := [.val (.list (S.map .int)), .no, .no, .no, .no]) (p := Str.ofString "script") (rest := [Str.ofString "numbers", Str.ofString "hands", Str.ofString "drawn", Str.ofString "led"]) ⟨_, _, _, rfl⟩ rfl rfl rfl (binds1 (a := .list (S.map .int)) fun _ => rfl) rfl (by decide +kernel) rfl rfl ?_
  intro X ho hl
  have hS := sizeL
  have hn12 := numsOf_len S
  have hnl : ((numsOf S).map AV.int).length ≤ sizeLine := by rw [List.length_map]; omega
  have hh := handsOf_len S
  have h5 := handsOf_mem S
  have hd3 := drawnOf_len S
  have hac := actsOf_len S
  have hdl : ∀ r ∈ drawnOf S, r.length ≤ 25 := fun r hr => by
    obtain ⟨q, _, rfl⟩ := List.mem_map.mp hr
    exact Nat.le_trans (pathOf_len q) (by decide)
  have hSl : (S.map AV.int).length ≤ sizeLine := by rw [List.length_map]; omega
  obtain ⟨hf3, hfb⟩ := led_fold (actsOf S) 0 (drawnOf S) hd3 hdl
  rw [hac] at hfb
  have hb8 : bnd (0 + 8) ≤ 43000 := bnd_hi 8 (by omega)
  have g0 := n0_get S
  refine sx_cons (τ := [.val (.list (S.map .int)), .val (.list ((numsOf S).map .int)), .no, .no, .no]) (s1_assign ?_ (by walk_at "set") (.inr ho) rfl) ?_
  · refine (ex_bin (ex_slice_list (ex_loc (by walk_at "var")) pt_none (pt_some ex_int) hSl) (ex_slice_list (xs := DEFN.map AV.int) (ex_list (es_cons ex_int (es_cons ex_int (es_cons ex_int (es_cons ex_int (es_cons ex_int (es_cons ex_int (es_cons ex_int (es_cons ex_int (es_cons ex_int (es_cons ex_int (es_cons ex_int (es_cons ex_int es_nil)))))))))))) (Nat.le_of_ble_eq_true rfl)) (pt_some (ex_call (xb_len rfl) (es_cons (ex_slice_list (ex_loc (by walk_at "var")) pt_none (pt_some ex_int) hSl) es_nil) (fn_len_list (Nat.le_trans (slc_sub _ _ _).length_le hSl)) rfl)) pt_none (Nat.le_of_ble_eq_true rfl)) (bop_add_list ?_)).of ?_
    · have h1 := (slc_sub none (some 12) (S.map AV.int)).length_le
      have h2 := (slc_sub (some ((slc none (some 12) (S.map AV.int)).length : Int)) none (DEFN.map AV.int)).length_le
      have h3 : (DEFN.map AV.int).length = 12 := rfl
      rw [List.length_map] at h1
      omega
    · unfold numsOf
      rw [List.map_append, slc_map, slc_map, List.length_map]
  refine sx_cons (τ := [.val (.list (S.map .int)), .val (.list ((numsOf S).map .int)), .val (.list ((handsOf S).map .int)), .no, .no]) (s1_assign ?_ (by walk_at "set") (.inr ho) rfl) ?_
  · refine (ex_slice_list (xs := [(n0Of S).fmod 5, ((n0Of S).fdiv 5).fmod 5].map AV.int) (lo := none) (hi := some (1 + ((n0Of S).fdiv 25).fmod 2)) (ex_ints2 (ex_bin (ex_sub (ex_loc (a := .list ((numsOf S).map .int)) (by walk_at "var")) ex_int (itm_list (i := 0) g0 hnl)) ex_int (bop_mod_int (by decide))) (ex_bin (ex_bin (ex_sub (ex_loc (a := .list ((numsOf S).map .int)) (by walk_at "var")) ex_int (itm_list (i := 0) g0 hnl)) ex_int (bop_div_int (by decide) (by decide))) ex_int (bop_mod_int (by decide)))) pt_none (pt_some (ex_bin ex_int (ex_bin (ex_bin (ex_sub (ex_loc (a := .list ((numsOf S).map .int)) (by walk_at "var")) ex_int (itm_list (i := 0) g0 hnl)) ex_int (bop_div_int (by decide) (by decide))) ex_int (bop_mod_int (by decide))) bop_add_int)) (Nat.le_of_ble_eq_true rfl)).of ?_
    unfold handsOf
    rw [slc_map]
  refine sx_cons (τ := [.val (.list (S.map .int)), .val (.list ((numsOf S).map .int)), .val (.list ((handsOf S).map .int)), .val (.strs (drawnOf S)), .no]) ?_ ?_
  · refine s1_comp (rs := (drawnOf S).map AV.str) (xs := (slc (some 1) (some 4) (numsOf S)).map AV.int) (ys := []) (bs := []) (itr_list ((ex_slice_list (ex_loc (a := .list ((numsOf S).map .int)) (by walk_at "var")) (pt_some ex_int) (pt_some ex_int) hnl).of (by rw [slc_map]))) .nil (by decide +kernel) (by rw [List.length_map]; have := (slc_sub (some 1) (some 4) (numsOf S)).length_le; omega) (fun X' q1 q2 => ?_) (by walk_at "set") (by decide +kernel)
    unfold drawnOf
    rw [List.map_map]
    exact cmpr_map AV.int (AV.str ∘ pathOf) _ fun q hq => ex_call (xg__law_path rfl) (es_cons (ex_loc .here) es_nil) (Fn.inX (c_law_path q) (by omega)) rfl
  refine sx_cons (τ := [.val (.list (S.map .int)), .val (.list ((numsOf S).map .int)), .val (.list ((handsOf S).map .int)), .val (.strs (drawnOf S)), .val (.tup [.strs ((actsOf S).foldl ledStep (drawnOf S)), .strs (((actsOf S).foldl ledStep (drawnOf S)).map (writeH (handsOf S)))])]) (s1_assign ?_ (by walk_at "set") (.inr ho) rfl) ?_
  · exact ex_call (xg__law_led rfl) (es_cons (ex_loc (a := .strs (drawnOf S)) (by walk_at "var")) (es_cons ((ex_slice_list (ex_loc (a := .list ((numsOf S).map .int)) (by walk_at "var")) (pt_some ex_int) pt_none hnl).of (r' := .list ((actsOf S).map .int)) (by unfold actsOf; rw [slc_map])) (es_cons (ex_loc (a := .list ((handsOf S).map .int)) (by walk_at "var")) es_nil))) (Fn.inX (c_law_led (drawnOf S) (actsOf S) (handsOf S) hh h5 (by omega) hd3 hdl) (by omega)) rfl
  generalize (actsOf S).foldl ledStep (drawnOf S) = L at hf3 hfb ⊢
  generalize handsOf S = hs at hh h5 ⊢
  refine sx_if_skip (tst_cmp1 (ex_loc (a := .tup [.strs L, .strs (L.map (writeH hs))]) (by walk_at "var")) ex_none (cmp_is_none (b := false) (fun G v hv => by
    cases hv
    rfl)) rfl) rfl ?_
  have hseen : ([0, 1, 2] : List Nat).map (fun k => AV.bool true) = ([true, true, true] : List Bool).map AV.bool := rfl
  refine (sx_ret (ex_call (xb_all rfl) (es_cons (ex_comp (rs := ([true, true, true] : List Bool).map AV.bool) (xs := ([0, 1, 2] : List Nat).map fun k : Nat => AV.int (k : Int)) (ys := [Str.ofString "led", Str.ofString "hands"]) (bs := [.val (.tup [.strs L, .strs (L.map (writeH hs))]), .val (.list (hs.map .int))]) (itr_range3 rfl b_range (by kernel_rfl)) (.cons (by walk_at "var") (.cons (by walk_at "var") .nil)) (by decide +kernel) (Nat.le_of_ble_eq_true rfl) (fun X' q1 q2 => ?_)) es_nil) fn_all rfl)).to ?_
  · rw [← hseen]
    refine cmpr_map (fun k : Nat => AV.int (k : Int)) (fun k => AV.bool true) [0, 1, 2] fun k hk => ?_
    have hk3 : k < 3 := by
      simp only [List.mem_cons, List.not_mem_nil, or_false] at hk
      omega
    have e1 : L[k]? = some (L.getD k []) := by
      rw [List.getD_eq_getElem?_getD, List.getElem?_eq_getElem (by omega)]; rfl
    have e2 : (L.map AV.str)[k]? = some (.str (L.getD k [])) := by rw [List.getElem?_map, e1]; rfl
    have e3 : ((L.map (writeH hs)).map AV.str)[k]? = some (.str (writeH hs (L.getD k []))) := by rw [List.getElem?_map, List.getElem?_map, e1]; rfl
    have hlen : (L.getD k []).length ≤ 43000 := Nat.le_trans (hfb _ (List.mem_of_getElem? e1)) hb8
    have hw := writeH_len10 hs hh (L.getD k [])
    exact (ex_call (xg__law_seen rfl) (es_cons (ex_sub (ex_sub (ex_loc (a := .tup [.strs L, .strs (L.map (writeH hs))]) (.there .here)) ex_int (itm_tup (i := 0) (r := .strs L) rfl (Nat.le_of_ble_eq_true rfl))) (ex_loc .here) (itm_list e2 (by rw [List.length_map]; omega))) (es_cons (ex_sub (ex_sub (ex_loc (a := .tup [.strs L, .strs (L.map (writeH hs))]) (.there .here)) ex_int (itm_tup (i := 1) (r := .strs (L.map (writeH hs))) rfl (Nat.le_of_ble_eq_true rfl))) (ex_loc .here) (itm_list e3 (by rw [List.length_map, List.length_map]; omega))) (es_cons (ex_loc (.there (.there .here))) es_nil))) (Fn.inX (c_law_seen (L.getD k []) (writeH hs (L.getD k [])) hs hh h5 hlen (by omega)) (by omega)) rfl).of (by rw [seen_true])
  · rfl
end
end Mine
end
section
open PySem PySem.W PyProof.Rows
set_option Elab.async false
set_option linter.unusedVariables false
set_option maxRecDepth 100000
namespace Mine
theorem g_law {w : World} : nsIn (frag w.params) mainGlobals (Str.ofString "law") = some (some (.ref 364)) := by kernel_rfl
theorem loose_eq : looseW vw [Str.ofString "relpath"] = [Str.ofString "relpath"] := by kernel_rfl
theorem top_addr {w : World} : ∃ o, (frag w.params).lookup 364 = some o := ⟨_, rfl⟩
noncomputable def heapView (h : Heap) : View := fun a => h.get? a
theorem ints_rel {h : Heap} {P : Params} : ∀ {vs : List Value} {ns : List Int}, WellAll P h vs (ns.map .int) → VRels (heapView h) vs (ns.map .int)
  | _, [], x => by cases x; exact .nil
  | _, n :: ns, x => by
    cases x with
    | cons a r =>
      cases a
      exact .cons (.int _ _) (ints_rel r)
set_option maxHeartbeats 8000000 in
theorem fin : PySem.Challenge.rw_mr0370_01.Holds := by
  refine holds_law said_ fun said => ?_
  refine holds_open (q := vw) (loose := [Str.ofString "relpath"]) (Xt := XtF) (XP := XL vw []) (Yf := YfF) (Ya := YaF) (YP := InK frag) (N := 4652) left_ (InK.of frag_as) InK.keeps (fun s e => xl_of s (Bool.and_eq_true_iff.mp e).1) XL.keeps (by rfl) (by rfl) (by rfl) (fun s e => recFacts_of (Bool.and_eq_true_iff.mp e).2) (by rfl) said (by decide +kernel) ⟨rfl, rfl, rfl, rfl, rfl, by decide +kernel⟩ promised_ ?_
  intro w s₀ s₁ mg mb G Y fa o pm cd doc dV kV ho hdd hcd hD hmg hg args vals as hpre hlay hrd hwl hlo
  clear said
  have KX : (frag w.params).In s₁.heap := Y
  refine Ground.open G ?_
  intro T B D TE TW
  have h364 : mg (Str.ofString "law") = some (.ref 364) := mg_of KX (topRead_of T).g g_law
  have hfa : fa = 364 := by
    have e : mg (Str.ofString "law") = some (.ref fa) := hmg
    rw [h364] at e
    injection e with e
    injection e with e
    exact e.symm
  subst hfa
  clear ho hdd hcd hD hmg
  have hsh := (pre_splitW hpre).1
  have hcond := (pre_splitW hpre).2
  obtain ⟨d, r, rfl, hd1, hr⟩ := hasAllW_cons hsh
  have hr' := hasAllW_nil hr
  subst hr'
  obtain ⟨xs, rfl, hxs⟩ := hasW_list hd1
  obtain ⟨ns, rfl⟩ := items_int hxs
  have hlen : ns.length ≤ 63 := by
    have h1 := (holds_andW (a := .not (.lt (.lit (.int 63)) (.len (.arg 0)))) (b := .lit (.bool true)) hcond).1
    have h2 := condW_of h1 (X := !decide ((63 : Int) < ((ns.map WData.int).length : Int))) (w_not (w_lt w_lit (w_len_list (w_arg rfl))))
    rw [Bool.not_eq_true', decide_eq_false_iff_not, List.length_map] at h2
    omega
  cases hwl with
  | cons hw1 hw2 =>
    cases hw2
    cases hw1 with
    | list hget hall =>
      rename_i a vs
      have TT : TopRead vw [Str.ofString "relpath"] mg mb s₁.heap := by
        have := topRead_of T
        rwa [loose_eq] at this
      have hbig : cut ≤ s₁.heap.objs.size := by
        obtain ⟨o, ho⟩ := top_addr (w := w)
        exact Heap.lt_size (KX _ _ ho)
      refine c_law (w := w) (mg := mg) (mb := mb) ns (by omega) callerA (heapView s₁.heap) s₁ [.ref a] _ _ rfl (by decide) (by decide) ⟨KX, TT, hbig⟩ ⟨[], rfl, fun e he => by cases he⟩ (fun b o e => e) (.cons (.list hget (ints_rel hall)) .nil) fun v s' G' u rv => ?_
      cases rv
      refine GoodW.toG ⟨.inl ⟨.bool true, .bool true, [], rfl, raisesW_false (fun ct h => nomatch h), .bool true, ?_, unshared_nil⟩, fun b o e => u.on b o (u.le b o e), u.os, u.gens.trans hg⟩
      exact postW_of (X := true) (by wrow_shape) (by wtm_val) rfl
end Mine
end
theorem PySem.Challenge.cw_mr0370_01_holds : PySem.Challenge.rw_mr0370_01.Holds := by
  exact Mine.fin
